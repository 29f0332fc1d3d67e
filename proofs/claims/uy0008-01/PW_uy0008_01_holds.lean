import PyProof.Rows.All
import Wide.All
import OpenK.AllK
import Wide.FinOn
import KE.KLam
import KE.KSuper
import KE.KFromBytes
import PyProof.GenCompT
import PyProof.AttrMissHeap
import PyProof.SliceList
import PyProof.StrCalls3
import PyProof.Rows.StrJoin2
import KE.KCallOwn
import PyProof.Rows.ListMul
import PyProof.Rows.Range3
import PyProof.Rows.SumAny
import PyProof.Rows.SeqIn
import PyProof.Rows.StrInSeq3
import PyProof.Rows.SortShell
import PyProof.WalkInts
import KE.KPar
import Lean
import PySem.Challenge.RW_uy0008_01
set_option compiler.extract_closed false
set_option hygiene false
set_option Elab.async false
set_option maxRecDepth 100000
set_option maxHeartbeats 8000000
section
open PySem
set_option tactic.hygienic false
namespace Mine.Internal
open PySem PySem.W PyProof.Rows PySem.Calls PySem.Spec in
theorem Qq:type_of% @wpAny_bind:=wpAny_bind
theorem Qw:type_of% @Option.some.inj:=Option.some.inj
theorem Qz {α:Type _} {l:List α} {i:Nat} {a:α} (h:l[i]?=some a):∃ h:i<l.length,l[i]=a:=List.getElem?_eq_some_iff.mp h
theorem Qy:type_of% @Nat.le_trans:=Nat.le_trans
theorem Qx:type_of% @List.length_map:=List.length_map
theorem Qj:type_of% @List.mem_cons_of_mem:=List.mem_cons_of_mem
theorem Qk:type_of% @List.mem_cons_self:=List.mem_cons_self
theorem Qv:type_of% @List.getElem?_eq_getElem:=List.getElem?_eq_getElem
theorem Qu:type_of% @List.length_append:=List.length_append
theorem Qb:type_of% @List.getElem?_map:=List.getElem?_map
open PySem PySem.W PyProof.Rows PySem.Calls PySem.Spec in
theorem Qg:type_of% @Heap.get?_push_of_some:=Heap.get?_push_of_some
theorem Qd:type_of% @List.getD_eq_getElem?_getD:=List.getD_eq_getElem?_getD
open PySem PySem.W PyProof.Rows PySem.Calls PySem.Spec in
theorem Qf:type_of% @wpAny_pure:=wpAny_pure
theorem Qh:type_of% @Nat.lt_of_lt_of_le:=Nat.lt_of_lt_of_le
theorem Wq:type_of% @Nat.le_of_lt:=Nat.le_of_lt
theorem Ww {n m:Nat} (h:m≤n):¬n<m:=Nat.not_lt.mpr h
theorem Wz {α:Type _} {a b:α} (h:a∈[b]):a=b:=List.mem_singleton.mp h
theorem Wy {α:Type _} {a b:α} {l:List α} (h:a∈b::l):a=b∨a∈l:=List.mem_cons.mp h
theorem Wx {α:Type _} {a:α} {s t:List α} (h:a∈s++t):a∈s∨a∈t:=List.mem_append.mp h
open PySem PySem.W PyProof.Rows PySem.Calls PySem.Spec in
theorem Wj:type_of% @wpAny_mono:=wpAny_mono
section
theorem xi2 {α:Sort _} {β:Sort _} {P:α→β→Prop} (a:α) (b:β) (h:P a b):∃ a b,P a b:=⟨a,b,h⟩
theorem xi3 {α:Sort _} {β:Sort _} {γ:Sort _} {P:α→β→γ→Prop} (a:α) (b:β) (c:γ) (h:P a b c):∃ a b c,P a b c:=⟨a,b,c,h⟩
theorem xi4 {α:Sort _} {β:Sort _} {γ:Sort _} {δ:Sort _} {P:α→β→γ→δ→Prop} (a:α) (b:β) (c:γ) (d:δ) (h:P a b c d):∃ a b c d,P a b c d:=⟨a,b,c,d,h⟩
theorem xi8 {α:Sort _} {β:Sort _} {γ:Sort _} {δ:Sort _} {ε:Sort _} {ζ:Sort _} {η:Sort _} {θ:Sort _} {P:α→β→γ→δ→ε→ζ→η→θ→Prop} (a:α) (b:β) (c:γ) (d:δ) (e:ε) (f:ζ) (g:η) (i:θ) (h:P a b c d e f g i):∃ a b c d e f g i,P a b c d e f g i:=⟨a,b,c,d,e,f,g,i,h⟩
theorem iteL {α:Type} {p:Prop} [Decidable p] {a b:α} (P:α→Prop) (h1:p→P a) (h2:¬p→P b):P (if p then a else b):=dite p (fun h=>(if_pos h).symm▸h1 h) fun h=>(if_neg h).symm▸h2 h
theorem nb {G:Prop} (h:(G→False)→False):G:=Classical.byContradiction h
theorem e02 {p1 p2:Prop} (h:p1∧p2) {G:Prop} (k:p1→p2→G):G:=k h.1 h.2
theorem e11.{u1} {α1:Sort u1} {p1:α1→Prop} (h:∃ x1,p1 x1) {G:Prop} (k:∀ x1,p1 x1→G):G:=h.elim fun x1 h=>k x1 h
theorem e03 {p1 p2 p3:Prop} (h:p1∧p2∧p3) {G:Prop} (k:p1→p2→p3→G):G:=k h.1 h.2.1 h.2.2
theorem e12.{u1} {α1:Sort u1} {p1 p2:α1→Prop} (h:∃ x1,p1 x1∧p2 x1) {G:Prop} (k:∀ x1,p1 x1→p2 x1→G):G:=h.elim fun x1 h=>k x1 h.1 h.2
theorem e21.{u1,u2} {α1:Sort u1} {α2:Sort u2} {p1:α1→α2→Prop} (h:∃ x1,∃ x2,p1 x1 x2) {G:Prop} (k:∀ x1 x2,p1 x1 x2→G):G:=h.elim fun x1 h=>h.elim fun x2 h=>k x1 x2 h
theorem e04 {p1 p2 p3 p4:Prop} (h:p1∧p2∧p3∧p4) {G:Prop} (k:p1→p2→p3→p4→G):G:=k h.1 h.2.1 h.2.2.1 h.2.2.2
theorem e13.{u1} {α1:Sort u1} {p1 p2 p3:α1→Prop} (h:∃ x1,p1 x1∧p2 x1∧p3 x1) {G:Prop} (k:∀ x1,p1 x1→p2 x1→p3 x1→G):G:=h.elim fun x1 h=>k x1 h.1 h.2.1 h.2.2
theorem e22.{u1,u2} {α1:Sort u1} {α2:Sort u2} {p1 p2:α1→α2→Prop} (h:∃ x1,∃ x2,p1 x1 x2∧p2 x1 x2) {G:Prop} (k:∀ x1 x2,p1 x1 x2→p2 x1 x2→G):G:=h.elim fun x1 h=>h.elim fun x2 h=>k x1 x2 h.1 h.2
theorem e31.{u1,u2,u3} {α1:Sort u1} {α2:Sort u2} {α3:Sort u3} {p1:α1→α2→α3→Prop} (h:∃ x1,∃ x2,∃ x3,p1 x1 x2 x3) {G:Prop} (k:∀ x1 x2 x3,p1 x1 x2 x3→G):G:=h.elim fun x1 h=>h.elim fun x2 h=>h.elim fun x3 h=>k x1 x2 x3 h
theorem e05 {p1 p2 p3 p4 p5:Prop} (h:p1∧p2∧p3∧p4∧p5) {G:Prop} (k:p1→p2→p3→p4→p5→G):G:=k h.1 h.2.1 h.2.2.1 h.2.2.2.1 h.2.2.2.2
theorem e14.{u1} {α1:Sort u1} {p1 p2 p3 p4:α1→Prop} (h:∃ x1,p1 x1∧p2 x1∧p3 x1∧p4 x1) {G:Prop} (k:∀ x1,p1 x1→p2 x1→p3 x1→p4 x1→G):G:=h.elim fun x1 h=>k x1 h.1 h.2.1 h.2.2.1 h.2.2.2
theorem e23.{u1,u2} {α1:Sort u1} {α2:Sort u2} {p1 p2 p3:α1→α2→Prop} (h:∃ x1,∃ x2,p1 x1 x2∧p2 x1 x2∧p3 x1 x2) {G:Prop} (k:∀ x1 x2,p1 x1 x2→p2 x1 x2→p3 x1 x2→G):G:=h.elim fun x1 h=>h.elim fun x2 h=>k x1 x2 h.1 h.2.1 h.2.2
theorem e32.{u1,u2,u3} {α1:Sort u1} {α2:Sort u2} {α3:Sort u3} {p1 p2:α1→α2→α3→Prop} (h:∃ x1,∃ x2,∃ x3,p1 x1 x2 x3∧p2 x1 x2 x3) {G:Prop} (k:∀ x1 x2 x3,p1 x1 x2 x3→p2 x1 x2 x3→G):G:=h.elim fun x1 h=>h.elim fun x2 h=>h.elim fun x3 h=>k x1 x2 x3 h.1 h.2
theorem e06 {p1 p2 p3 p4 p5 p6:Prop} (h:p1∧p2∧p3∧p4∧p5∧p6) {G:Prop} (k:p1→p2→p3→p4→p5→p6→G):G:=k h.1 h.2.1 h.2.2.1 h.2.2.2.1 h.2.2.2.2.1 h.2.2.2.2.2
theorem e15.{u1} {α1:Sort u1} {p1 p2 p3 p4 p5:α1→Prop} (h:∃ x1,p1 x1∧p2 x1∧p3 x1∧p4 x1∧p5 x1) {G:Prop} (k:∀ x1,p1 x1→p2 x1→p3 x1→p4 x1→p5 x1→G):G:=h.elim fun x1 h=>k x1 h.1 h.2.1 h.2.2.1 h.2.2.2.1 h.2.2.2.2
theorem e24.{u1,u2} {α1:Sort u1} {α2:Sort u2} {p1 p2 p3 p4:α1→α2→Prop} (h:∃ x1,∃ x2,p1 x1 x2∧p2 x1 x2∧p3 x1 x2∧p4 x1 x2) {G:Prop} (k:∀ x1 x2,p1 x1 x2→p2 x1 x2→p3 x1 x2→p4 x1 x2→G):G:=h.elim fun x1 h=>h.elim fun x2 h=>k x1 x2 h.1 h.2.1 h.2.2.1 h.2.2.2
theorem e33.{u1,u2,u3} {α1:Sort u1} {α2:Sort u2} {α3:Sort u3} {p1 p2 p3:α1→α2→α3→Prop} (h:∃ x1,∃ x2,∃ x3,p1 x1 x2 x3∧p2 x1 x2 x3∧p3 x1 x2 x3) {G:Prop} (k:∀ x1 x2 x3,p1 x1 x2 x3→p2 x1 x2 x3→p3 x1 x2 x3→G):G:=h.elim fun x1 h=>h.elim fun x2 h=>h.elim fun x3 h=>k x1 x2 x3 h.1 h.2.1 h.2.2
theorem e42.{u1,u2,u3,u4} {α1:Sort u1} {α2:Sort u2} {α3:Sort u3} {α4:Sort u4} {p1 p2:α1→α2→α3→α4→Prop} (h:∃ x1,∃ x2,∃ x3,∃ x4,p1 x1 x2 x3 x4∧p2 x1 x2 x3 x4) {G:Prop} (k:∀ x1 x2 x3 x4,p1 x1 x2 x3 x4→p2 x1 x2 x3 x4→G):G:=h.elim fun x1 h=>h.elim fun x2 h=>h.elim fun x3 h=>h.elim fun x4 h=>k x1 x2 x3 x4 h.1 h.2
theorem e51.{u1,u2,u3,u4,u5} {α1:Sort u1} {α2:Sort u2} {α3:Sort u3} {α4:Sort u4} {α5:Sort u5} {p1:α1→α2→α3→α4→α5→Prop} (h:∃ x1,∃ x2,∃ x3,∃ x4,∃ x5,p1 x1 x2 x3 x4 x5) {G:Prop} (k:∀ x1 x2 x3 x4 x5,p1 x1 x2 x3 x4 x5→G):G:=h.elim fun x1 h=>h.elim fun x2 h=>h.elim fun x3 h=>h.elim fun x4 h=>h.elim fun x5 h=>k x1 x2 x3 x4 x5 h
theorem natAbsLt {y:Int} {k:Nat} (h:-(k:Int)<y∧y<k):y.natAbs<k:=by
 cases y with
 |ofNat n=>exact Int.ofNat_lt.mp h.2
 |negSucc n=>exact Int.ofNat_lt.mp (Int.lt_of_neg_lt_neg (a:=((n+1:Nat):Int)) (b:=(k:Int)) h.1)
theorem toNatLt {i:Int} {n:Nat} (h:0≤i) (k:i<n):i.toNat<n:=(Int.toNat_lt h).mpr k
theorem negIdx {i:Int} {n:Nat} (h:i<0) (k:-(n:Int)≤i):0≤i+n∧i+n<n:=⟨by omega,by omega⟩
theorem acc_ar1 {k n p q v:Int} (hk:0≤k) (hkn:k+n<4611686018427387904) (h0:0≤p∧p≤n) (h1:0≤q∧q≤n) (h2:q=p+v):(-9223372036854775808≤v∧v<9223372036854775808)∧-9223372036854775808≤k+q∧k+q<9223372036854775808:=by omega
theorem acc_ar2 {k n:Int} {a b:Nat} (hk:0≤k) (hkn:k+n<4611686018427387904) (h:(a:Int)+b≤n):(a:Int)<9223372036854775808∧(b:Int)<9223372036854775808:=by omega
theorem ge_ex {n m:Nat} (h:m≤n):∃ k,n=k+m:=⟨n-m,(Nat.sub_add_cancel h).symm⟩
theorem leN {a b n:Nat} (h:a≤b):a≤n+b:=Qy h (Nat.le_add_left b n)
theorem leC {x a b:Nat} (h:x≤a) (k:a≤b):x≤b:=Qy h k
theorem ltC {x a b:Nat} (h:x≤a) (k:a+1≤b):x<b:=Nat.lt_of_le_of_lt h k
theorem ltD {x a b:Nat} (h:x<a) (k:a≤b):x<b:=Qh h k
theorem addC {x n a b c d:Nat} (h:x+a≤n+c) (k:b+c≤a+d):x+b≤n+d:=by omega
theorem addC0 {x n a b:Nat} (h:x+a≤n) (k:b≤a):x+b≤n:=Qy (Nat.add_le_add_left k x) h
theorem subS {n i k:Nat} (h:n-i=k+1):i<n:=Nat.lt_of_sub_eq_succ h
theorem subN {n i k:Nat} (h:n-i=k+1):n-(i+1)=k:=by rw [Nat.sub_succ,h];rfl
theorem subIx {n i k:Nat} (h:n-i=k+1):n-1-k=i:=by
 have:=Nat.sub_add_cancel (Wq (subS h));rw [h] at this;rw [←this,Nat.add_right_comm,Nat.add_sub_cancel,Nat.add_sub_cancel_left]
theorem clip1 {n:Nat} {i:Int} (h:i<0):max 0 (min (i+n) n)=((i+n).toNat:Int):=by
 rw [Int.min_eq_left (Int.le_trans (Int.add_le_add_right (Int.le_of_lt h) n) (Int.le_of_eq (Int.zero_add _))),Int.max_comm];exact (Int.ofNat_toNat _).symm
theorem clip2 {n:Nat} {i:Int} (h:¬i<0):max 0 (min i n)=((min i.toNat n:Nat):Int):=by
 refine e11 (Int.eq_ofNat_of_zero_le (Int.not_lt.mp h)) fun k qz1=>?_;obtain rfl:=qz1;rw [Int.toNat_natCast,Int.max_eq_right (Int.le_min.mpr ⟨Int.natCast_nonneg k,Int.natCast_nonneg n⟩)];exact (Nat.le_total k n).elim (fun q=>by rw [Nat.min_eq_left q];exact Int.min_eq_left (Int.ofNat_le.mpr q)) (fun q=>by rw [Nat.min_eq_right q];exact Int.min_eq_right (Int.ofNat_le.mpr q))
theorem neg_plus (n k:Nat):(-1-(k:Int)+n).toNat=n-1-k:=by
 rw [Int.add_comm,show (n:Int)+(-1-k)=(n-1:Int)-k from by rw [←Int.add_sub_assoc];rfl,Int.toNat_sub'];exact congrArg (·-k) (Int.toNat_sub' n 1)
theorem mid_le {l h:Nat} (q:l<h):l≤(l+h)/2:=(Nat.le_div_iff_mul_le (Nat.succ_pos 1)).mpr (by rw [Nat.mul_two];exact Nat.add_le_add_left (Wq q) l)
theorem mid_lt {l h:Nat} (q:l<h):(l+h)/2<h:=Nat.div_lt_of_lt_mul (by rw [Nat.two_mul];exact Nat.add_lt_add_right q h)
theorem mid_a {l h m:Nat} (q1:l≤m) (q2:m<h):h-(m+1)<h-l:=Nat.sub_lt_sub_left (Nat.lt_of_le_of_lt q1 q2) (Nat.lt_succ_of_le q1)
theorem mid_b {l h m:Nat} (q1:l≤m) (q2:m<h):m-l<h-l:=Nat.sub_lt_sub_right q1 q2
theorem le_pred1 (n:Nat):n≤n-1+1:=Nat.sub_le_iff_le_add.mp (Nat.le_refl _)
theorem bind_ar {N D L:Nat} (h0:D≤N) (h1:L≤N) (h2:N≤L+D):L+D-N≤D∧L=N-D+(L+D-N)∧N=L+(D-(L+D-N)):=by
 refine nb fun kk=>?_;refine e11 (Nat.exists_eq_add_of_le h0) fun a qz1=>?_;obtain rfl:=qz1;refine e11 (Nat.exists_eq_add_of_le (Nat.le_of_add_le_add_left (Nat.add_comm L D▸h2))) fun j qz1=>?_;obtain rfl:=qz1;refine kk ?_;obtain e:a+j+D-(D+a)=j:=by rw [Nat.add_right_comm a j D,Nat.add_comm a D];exact Nat.add_sub_cancel_left _ _
 obtain hj:j≤D:=Nat.le_of_add_le_add_left (Nat.add_comm D a▸h1);rw [e,Nat.add_sub_cancel_left];exact ⟨hj,rfl,by rw [Nat.add_assoc,Nat.add_sub_of_le hj,Nat.add_comm]⟩
theorem mid_is' (l h:Nat):((l:Int)+h).fdiv 2=((l+h)/2:Nat):=by rw [←Int.natCast_add,Int.fdiv_eq_ediv_of_nonneg _ (by decide)];rfl
inductive V where
 |none
 |bool (b:Bool)
 |int (i:Int)
 |str (s:Str)
 |tup (l:List V)
 |fro (l:List V)
 |ref (i:Nat)
 |fn
 deriving Inhabited
inductive B where
 |val (v:V)
 |lam (x:Str) (body:Expr) (scope:Scope) (caps:List (Str×V))
 deriving Inhabited
noncomputable def B.v:B→V
 |.val v=>v
 |.lam ..=>.fn
inductive HO where
 |lst (xs:List V)
 |acc (k:Int) (xs:List V)
 deriving Inhabited
abbrev St:=List HO
abbrev Rho:=List (Str×B)
inductive Fl where
 |next|brk|cont
 |ret (v:V)
structure Fn where
 params:Arguments
 body:List Stmt
 scope:Scope
structure Cfg where
 fns:Str→Option Fn
 impure:Str→Bool
 keep:Pos→Bool
 meths:Str→Option Fn
noncomputable def seqOf (σ:St):V→Option (List V)
 |.fro l=>some l
 |.ref i=>match σ[i]? with
  |some (.lst xs)=>some xs
  |_=>none
 |_=>none
noncomputable def asI:V→Option Int
 |.int i=>some i
 |_=>none
noncomputable def mapO {α β:Type} (f:α→Option β):List α→Option (List β)
 |[]=>some []
 |x::r=>(f x).bind fun y=>(mapO f r).map fun ys=>y::ys
noncomputable def flatV:V→Option PyData
 |.none=>some .none
 |.bool b=>some (.bool b)
 |.int i=>some (.int i)
 |.str s=>some (.str s)
 |_=>none
noncomputable def toDS (σ:St) (f:V→Option PyData) (v:V):Option PyData:=match v with
 |.ref i=>(seqOf σ (.ref i)).bind fun xs=>(mapO f xs).map PyData.list
 |.fro l=>(mapO f l).map PyData.list
 |.tup l=>(mapO f l).map PyData.tuple
 |v=>flatV v
noncomputable def toDσ (σ:St) (n:Nat):V→Option PyData:=Nat.rec flatV (fun o_ f=>toDS σ f) n
noncomputable def truth (σ:St):V→Option Bool
 |.none=>some false
 |.bool b=>some b
 |.int i=>some (decide (i≠0))
 |_=>none
noncomputable def asc (s:Str):Bool:=s.cps.toList.all (·<128)
noncomputable def chr (c:Nat):V:=.str ⟨#[c]⟩
noncomputable def smallI (i:Int):Bool:=decide (-(2^63)<i∧i<2^63)
noncomputable def place (n:Nat) (i:Int):Option Nat:=
 if smallI i then (if decide (0≤i) then (if decide (i<n) then some i.toNat else none) else if decide (-(n:Int)≤i) then some (i+n).toNat else none) else none
noncomputable def atL (l:List V) (i:Int):Option V:=(place l.length i).bind (l[·]?)
noncomputable def getI (σ:St) (o:V) (i:Int):Option V:=match o with
 |.tup l=>atL l i
 |.str s=>(place s.cps.size i).bind fun k=>(s.cps[k]?).map chr
 |o=>(seqOf σ o).bind fun l=>atL l i
noncomputable def getItemV (σ:St) (o i:V):Option V:=(asI i).bind (getI σ o)
noncomputable def clampI (n:Nat) (d:Nat):V→Option Nat
 |.none=>some d
 |.int i=>some (if i<0 then (i+n).toNat else min i.toNat n)
 |_=>none
noncomputable def sliceL {α:Type} (l:List α) (a b:Nat):List α:=(l.take b).drop a
noncomputable def sliceS (x:Str) (lo hi:V):Option V:=(clampI x.cps.size 0 lo).bind fun a=>(clampI x.cps.size x.cps.size hi).bind fun b=>if decide (x.cps.size≤4096) then some (.str ⟨(sliceL x.cps.toList a b).toArray⟩) else none
noncomputable def sliceV (σ:St) (o lo hi:V):Option V:=
 match o with
 |.str x=>sliceS x lo hi
 |o=>(seqOf σ o).bind fun l=>(clampI l.length 0 lo).bind fun a=>(clampI l.length l.length hi).bind fun b=>if decide (l.length≤4096) then some (.fro (sliceL l a b)) else none
noncomputable def rep {α:Type} (n:Nat) (l:List α):List α:=(List.replicate n l).flatten
noncomputable def binI (op:Operator) (x y:Int):Option V:=match op with
 |.Add=>some (.int (x+y))
 |.Sub=>some (.int (x-y))
 |.FloorDiv=>if !decide (y=0)&&smallI y then some (.int (x.fdiv y)) else none
 |.Mult=>if smallI x&&smallI y then some (.int (x*y)) else none
 |.Mod=>if !decide (y=0) then some (.int (x.fmod y)) else none
 |.Pow=>if decide (0≤y)&&decide (y≤4096)&&smallI x then some (.int (x^y.toNat)) else none
 |_=>none
noncomputable def isAdd:Operator→Bool
 |.Add=>true
 |_=>false
noncomputable def isMult:Operator→Bool
 |.Mult=>true
 |_=>false
noncomputable def binS (op:Operator) (x:Str) (b:V):Option V:=match b with
 |.str y=>if isAdd op&&decide (x.length+y.length≤4096) then some (.str (x++y)) else none
 |.int y=>if isMult op&&(decide (x.length≤64)&&decide (-64≤y)&&decide (y≤64)) then some (.str ⟨(rep y.toNat x.cps.toList).toArray⟩) else none
 |_=>none
noncomputable def binL (σ:St) (op:Operator) (a b:V):Option V:=
 (seqOf σ a).bind fun l=>(seqOf σ b).bind fun r=>if isAdd op&&decide (l.length+r.length≤4096) then some (.fro (l++r)) else none
noncomputable def binV (σ:St) (op:Operator) (a b:V):Option V:=match a with
 |.int x=>match b with
  |.int y=>binI op x y
  |_=>none
 |.str x=>binS op x b
 |a=>binL σ op a b
noncomputable def depthD:Nat:=32
noncomputable def cmpI (f:Int→Int→Bool) (a b:V):Option Bool:=match a with
 |.int x=>match b with
  |.int y=>some (f x y)
  |_=>none
 |_=>none
noncomputable def isB (f:Bool→Bool→Bool) (a b:V):Option Bool:=match a with
 |.bool x=>match b with
  |.bool y=>some (f x y)
  |_=>none
 |_=>none
noncomputable def isN:V→Option Bool
 |.none=>some true
 |.bool _=>some false
 |.int _=>some false
 |.fn=>some false
 |_=>none
noncomputable def cmpE (σ:St) (a b:V):Option Bool:=(toDσ σ depthD a).bind fun x=>(toDσ σ depthD b).map fun y=>PyData.eqv x y
noncomputable def oneOf (l:List Nat) (m:List Nat):Option Bool:=match l with
 |c::r=>if r.isEmpty then some (m.contains c) else none
 |[]=>none
noncomputable def inS (a b:V):Option Bool:=match a with
 |.str x=>match b with
  |.str y=>oneOf x.cps.toList y.cps.toList
  |_=>none
 |_=>none
noncomputable def cmpV (σ:St) (op:CmpOp) (a b:V):Option Bool:=
 match op with
 |.Is=>match b with
  |.none=>isN a
  |b=>isB (fun x y=>x==y) a b
 |.IsNot=>isB (fun x y=>x !=y) a b
 |.Eq=>cmpE σ a b
 |.NotEq=>(cmpE σ a b).map fun z=>!z
 |.Lt=>cmpI (fun x y=>decide (x<y)) a b
 |.LtE=>cmpI (fun x y=>decide (x≤y)) a b
 |.Gt=>cmpI (fun x y=>decide (y<x)) a b
 |.NotIn=>(inS a b).map fun z=>!z
 |_=>none
noncomputable def frz0 (v:V):Option V:=(flatV v).map fun o_=>v
noncomputable def frzS (σ:St) (lo:Nat) (f:V→Option V) (v:V):Option V:=match v with
 |.ref i=>if decide (i<lo) then some (.ref i) else (seqOf σ (.ref i)).bind fun xs=>(mapO f xs).map V.fro
 |.fro l=>(mapO f l).map V.fro
 |.tup l=>(mapO f l).map V.tup
 |v=>frz0 v
noncomputable def frz (σ:St) (lo n:Nat):V→Option V:=Nat.rec frz0 (fun o_ f=>frzS σ lo f) n
noncomputable def rangeL (a b c:Int):List V:=(List.range (Builtin.Range.rangeSize a b c).toNat).map fun (k:Nat)=>V.int (a+k*c)
noncomputable def rangeV (a b c:Int):Option (List V):=if Builtin.Range.small a b c&&c !=0&&decide (c.natAbs<1073741824) then some (rangeL a b c) else none
noncomputable def escGo:Nat→Bool→List Nat→List V
 |p,true,[]=>if p=0 then [] else [.tup [.int (p-1:Int),.str ⟨#[92]⟩]]
 |_,false,[]=>[]
 |p,true,c::r=>.tup [.int p,.str ⟨#[92,c]⟩]::escGo (p+1) false r
 |p,false,c::r=>if c=92 then escGo (p+1) true r else .tup [.int p,.str ⟨#[c]⟩]::escGo (p+1) false r
noncomputable def joinStr:List V→Option Str
 |[]=>some ⟨#[]⟩
 |.str s::r=>(joinStr r).map fun t=>s++t
 |_=>none
noncomputable def txtOf:V→Option Str
 |.str s=>some s
 |_=>none
noncomputable def tupOf:V→List V
 |.tup l=>l
 |_=>[]
noncomputable def pairOf (v:V):Option (Str×Str):=match tupOf v with
 |[]=>none
 |a::r=>match r with
  |[]=>none
  |b::q=>if q.isEmpty then (txtOf a).bind fun x=>(txtOf b).map fun y=>(x,y) else none
noncomputable def accLen:List V→Option Int
 |[]=>some 0
 |x::r=>(pairOf x).bind fun p=>(accLen r).map fun n=>p.1.length+p.2.length+n
noncomputable def smallN (n:Nat):Option Int:=if n≤4096 then some n else none
noncomputable def lenV (σ:St):V→Option Int
 |.str s=>smallN s.length
 |.fro l=>smallN l.length
 |.tup l=>smallN l.length
 |.ref i=>match σ[i]? with
  |some (.lst xs)=>smallN xs.length
  |some (.acc k xs)=>(accLen xs).bind fun n=>if 0≤k∧k+n<4611686018427387904∧xs.length≤4096 then some (k+n) else none
  |none=>none
 |_=>none
noncomputable def unV (op:UnaryOp) (σ:St) (v:V):Option V:=match op with
 |.USub=>(asI v).bind fun i=>some (.int (-i))
 |.Not=>(truth σ v).map fun b=>.bool (!b)
 |_=>none
noncomputable def one {α:Type} (f:V→Option α):List V→Option α
 |v::r=>if r.isEmpty then f v else none
 |[]=>none
noncomputable def builtinV (σ:St) (f:Str) (args:List V):Option V:=
 if f==("len":Str) then (one (lenV σ) args).map V.int
 else none
noncomputable def strOf:V→Option Str
 |.str s=>some s
 |_=>none
noncomputable def joinV (σ:St) (s:Str) (v:V):Option V:=
 if decide (s.cps.size=0) then (seqOf σ v).bind fun l=>(joinStr l).bind fun t=>if decide (t.cps.size≤4096) then some (.str t) else none else none
noncomputable def methL (xs:List V) (name:Str) (args:List V):Option (V×List V):=match args with
 |[]=>if name==("pop":Str)&&decide (xs.length≤4096) then xs.getLast?.map fun v=>(v,xs.dropLast) else none
 |v::r=>match r with
  |[]=>if name==("append":Str)&&decide (xs.length<4096) then some (.none,xs++[v]) else none
  |u::r=>if name==("insert":Str)&&r.isEmpty&&decide (xs.length<4096) then (asI v).bind fun k=>if decide (0≤k)&&decide (k≤xs.length) then some (.none,xs.take k.toNat++u::xs.drop k.toNat) else none else none
noncomputable def methA (xs:List V) (name:Str) (args:List V):Option (V×List V):=match args with
 |[]=>none
 |v::r=>match r with
  |[]=>none
  |u::r=>if name==("push":Str)&&r.isEmpty&&decide (xs.length<4096) then (strOf v).bind fun a=>(strOf u).map fun b=>(.none,xs++[.tup [.str a,.str b]]) else none
noncomputable def methV (lo:Nat) (σ:St) (o:V) (name:Str) (args:List V):Option (V×St):=
 if name==("join":Str) then (strOf o).bind fun s=>(one (joinV σ s) args).map (·,σ)
 else match o with
 |.ref i=>if decide (lo≤i) then (σ[i]?).bind fun ob=>match ob with
  |.lst xs=>(methL xs name args).map fun r=>(r.1,σ.set i (.lst r.2))
  |.acc s xs=>(methA xs name args).map fun r=>(r.1,σ.set i (.acc s r.2))
  else none
 |_=>none
noncomputable def kindIn (sc:Scope) (x:Str):Option NameKind:=sc.names.lookup x
noncomputable def ownKind (k:Option NameKind):Bool:=k==some .local||k==some .cell||k==some .free
section
variable {α:Type}
noncomputable def onName (e:Expr) (d:α) (f:Str→α):α:=if h:e.ctorIdx=23 then Expr.Name.elim e h fun x _=>f x else d
noncomputable def onTup (e:Expr) (d:α) (f:List Expr→α):α:=if h:e.ctorIdx=25 then Expr.Tuple.elim e h fun x _ _=>f x else d
noncomputable def onCall (e:Expr) (d:α) (f:Expr→List Expr→List Keyword→α):α:=if h:e.ctorIdx=16 then Expr.Call.elim e h fun x y z _=>f x y z else d
noncomputable def onLam (e:Expr) (d:α) (f:Arguments→Expr→Scope→α):α:=if h:e.ctorIdx=4 then Expr.Lambda.elim e h fun x y z _=>f x y z else d
noncomputable def onConst (e:Expr) (d:α) (f:Const→α):α:=if h:e.ctorIdx=19 then Expr.Constant.elim e h fun x _ _=>f x else d
theorem iName {e:Expr} {d r:α} {f:Str→α} {G:Prop} (h:onName e d f=r) (k1:∀ x p,e=.Name x p→f x=r→G) (k2:d=r→G):G:=
 dite (e.ctorIdx=23) (fun q=>Expr.Name.elim (motive_1:=fun t=>onName t d f=r→(∀ x p,t=.Name x p→f x=r→G)→G) e q (fun x p h k=>k x p rfl h) h k1) fun q=>k2 ((dif_neg q).symm.trans h)
theorem iTup {e:Expr} {d r:α} {f:List Expr→α} {G:Prop} (h:onTup e d f=r) (k1:∀ x k p,e=.Tuple x k p→f x=r→G) (k2:d=r→G):G:=
 dite (e.ctorIdx=25) (fun q=>Expr.Tuple.elim (motive_1:=fun t=>onTup t d f=r→(∀ x k p,t=.Tuple x k p→f x=r→G)→G) e q (fun x k' p h k=>k x k' p rfl h) h k1) fun q=>k2 ((dif_neg q).symm.trans h)
theorem iLam {e:Expr} {d r:α} {f:Arguments→Expr→Scope→α} {G:Prop} (h:onLam e d f=r) (k1:∀ x y z p,e=.Lambda x y z p→f x y z=r→G) (k2:d=r→G):G:=
 dite (e.ctorIdx=4) (fun q=>Expr.Lambda.elim (motive_1:=fun t=>onLam t d f=r→(∀ x y z p,t=.Lambda x y z p→f x y z=r→G)→G) e q (fun x y z p h k=>k x y z p rfl h) h k1) fun q=>k2 ((dif_neg q).symm.trans h)
end
noncomputable def constV:Const→Option V
 |.none=>some .none
 |.bool b=>some (.bool b)
 |.int i=>some (.int i)
 |.str s=>if asc s then some (.str s) else none
 |_=>none
noncomputable def vals (names:List Str) (vs:List V):Rho:=(names.zip vs).map fun x=>(x.1,B.val x.2)
noncomputable def dfl (e:Expr):Option V:=onConst e none constV
noncomputable def bindK (r:Rho) (kwo:List Str) (kw:List (Str×B)):Option Rho:=match kwo with
 |[]=>if kw.isEmpty then some r else none
 |k::ko=>match kw with
  |[]=>if ko.isEmpty then some (r++[(k,.val .none)]) else none
  |x::q=>if ko.isEmpty&&(q.isEmpty&&k==x.1) then some (r++[x]) else none
noncomputable def bindG (names:List Str) (dflts:List (Option V)) (kwo:List Str) (args:List V) (kw:List (Str×B)):Option Rho:=
 if decide (args.length≤names.length)&&decide (names.length≤args.length+dflts.length) then
  (mapO id (dflts.drop (args.length+dflts.length-names.length))).bind fun ds=>bindK (vals names (args++ds)) kwo kw
 else none
noncomputable def bindV (p:Arguments) (args:List V) (kw:List (Str×B)):Option Rho:=bindG (p.args.map (·.arg)) (p.defaults.map dfl) (p.kwonlyargs.map (·.arg)) args kw
noncomputable def canSet (sc:Scope) (x:Str):Bool:=kindIn sc x==some .local||kindIn sc x==some .cell
noncomputable def nodupN:List (Str×NameKind)→Bool
 |[]=>true
 |(x,_)::r=>r.all (fun y=>!(y.1==x))&&nodupN r
noncomputable def okSc (s:Scope):Bool:=s.kind==.function&&!s.isGenerator&&!s.isCoroutine&&nodupN s.names&&(s.names.lookup ("__debug__":Str)).isNone&&(s.names.lookup ("__classdict__":Str)).isNone&&(s.names.lookup ("_initial_size":Str)).isNone
noncomputable def hostSc (s:Scope):Bool:=decide (6≤s.names.length)
noncomputable def okFree (sc s:Scope):Bool:=(!hostSc s||hostSc sc)&&s.names.all fun x=>x.2 !=.free||(kindIn sc x.1==some .cell||kindIn sc x.1==some .free)
noncomputable def tnames (e:Expr):List Str:=onName e (onTup e [] fun es=>es.filterMap fun e=>onName e none some) fun x=>[x]
noncomputable def bindN (sc:Scope) (es:List Expr):List V→Rho→Option Rho:=
 List.rec (fun vs ρ=>match vs with
  |[]=>some ρ
  |_=>none) (fun e o_ ih vs ρ=>onName e none fun x=>match vs with
    |v::vs=>if canSet sc x then ih vs ((x,.val v)::ρ) else none
    |[]=>none) es
noncomputable def bindT (sc:Scope) (t:Expr) (v:V) (ρ:Rho):Option Rho:=onName t (onTup t none fun es=>match v with
  |.tup vs=>bindN sc es vs ρ
  |_=>none) fun x=>if canSet sc x then some ((x,.val v)::ρ) else none
noncomputable def bval:B→Option V
 |.val v=>some v
 |_=>none
noncomputable def capsOf (ρ:Rho):List (Str×NameKind)→Option (List (Str×V))
 |[]=>some []
 |x::r=>(ρ.lookup x.1).bind fun b=>(bval b).bind fun v=>(capsOf ρ r).map fun l=>(x.1,v)::l
noncomputable def lamP (a:Arguments):Option Str:=
 if a.posonlyargs.isEmpty&&a.vararg.isNone&&a.kwonlyargs.isEmpty&&a.kw_defaults.isEmpty&&a.kwarg.isNone&&a.defaults.isEmpty then match a.args with
  |x::r=>if r.isEmpty then some x.arg else none
  |[]=>none
 else none
noncomputable def kwE (sc:Scope) (ρ:Rho) (e:Expr):Option B:=onName e (onLam e none fun as body s=>(lamP as).bind fun x=>if hostSc sc&&okSc s&&okFree sc s then (capsOf ρ (s.names.filter (·.2==.free))).map fun caps=>.lam x body s caps else none) fun x=>if ownKind (kindIn sc x) then ρ.lookup x else none
noncomputable def kwV (sc:Scope) (ρ:Rho) (kw:List Keyword):Option (List (Str×B)):=match kw with
 |[]=>some []
 |k::r=>if r.isEmpty then k.arg.bind fun x=>(kwE sc ρ k.value).map fun b=>[(x,b)] else none
noncomputable def setItemV (lo:Nat) (σ:St) (o i v:V):Option St:=(asI i).bind fun k=>match o with
 |.ref a=>if decide (lo≤a) then (seqOf σ (.ref a)).bind fun xs=>if decide (0≤k)&&decide (k<xs.length)&&smallI k then some (σ.set a (.lst (xs.set k.toNat v))) else none else none
 |_=>none
inductive It where
 |fix (xs:List V)
 |dyn (i:Nat)
 |acc (i:Nat)
noncomputable def accOf (σ:St) (i:Nat):Option (List V):=match σ[i]? with
 |some (.acc _ xs)=>some xs
 |_=>none
noncomputable def After {α:Type} (r:α→Fl→α→Prop) (f:Fl) (a:α) (fl:Fl) (a':α):Prop:=match f with
 |.next=>r a fl a'
 |.cont=>r a fl a'
 |.brk=>fl=.next∧a'=a
 |.ret w=>fl=.ret w∧a'=a
noncomputable def Lp {α:Type} (nth:α→Nat→Option (Option V)) (body:V→α→Fl→α→Prop) (m:Nat):Nat→α→Fl→α→Prop:=
 Nat.rec (fun k a fl a'=>nth a k=some none∧fl=.next∧a'=a) (fun o_ r k a fl a'=>(nth a k=some none∧fl=.next∧a'=a)∨∃ v f a1,nth a k=some (some v)∧body v a f a1∧After (r (k+1)) f a1 fl a') m
noncomputable def It.nth (it:It) (σ:St) (k:Nat):Option (Option V):=match it with
 |.fix xs=>some xs[k]?
 |.dyn i=>(seqOf σ (.ref i)).map (·[k]?)
 |.acc i=>(accOf σ i).map (·[k]?)
noncomputable def It.len (it:It) (n:Nat):Nat:=match it with
 |.fix xs=>xs.length
 |.dyn _=>n
 |.acc _=>n
noncomputable def tupT (e:Expr):Bool:=e.ctorIdx==25
noncomputable def tgtOk (e t:Expr):Bool:=onCall e true fun f _ _=>onName f true fun f=>f !=("enumerate":Str)||tupT t
noncomputable def notGen (e:Expr):Bool:=onCall e true fun f _ _=>onName f true fun f=>f !=("_iter_escaped_chars":Str)
noncomputable def swapOk (t e:Expr):Bool:=!tupT t||onTup e true fun vs=>vs.all (foldedForSure 8)||!vs.all (constantsAlone 8)
noncomputable def isCall (e:Expr):Bool:=e.ctorIdx==16
noncomputable def methOk (o:Expr) (apos pos:Pos) (args:List Expr):Bool:=apos.endLine==pos.line&&decide (args.length<30)&&onCall o true fun f as ks=>!(f.ctorIdx==23&&as.isEmpty&&ks.isEmpty)
noncomputable def tagV (σ:St):V→Option Nat
 |.fro _=>some 0
 |.str _=>some 1
 |.ref i=>match σ[i]? with
  |some (.lst _)=>some 0
  |some (.acc ..)=>some 2
  |none=>none
 |_=>none
noncomputable def getLst (σ:St) (o i:V):Option V:=(seqOf σ o).bind fun o_=>getItemV σ o i
noncomputable def augV (op:Operator) (a b:Int):Option V:=match op with
 |.Add=>some (.int (a+b))
 |.Sub=>some (.int (a-b))
 |_=>none
noncomputable def plainT (e:Expr):Bool:=[16,19,21,23].contains e.ctorIdx
noncomputable def stopB:BoolOp→Bool→Bool
 |.And,b=>!b
 |.Or,b=>b
noncomputable def flV:Fl→Option V
 |.ret v=>some v
 |.next=>some .none
 |_=>none
end
end Mine.Internal
end
local macro_rules |`(tactic|walk_at "n0")=>`(tactic|first|with_reducible assumption|decide|(with_reducible (apply Qh;assumption);decide)|(with_reducible (apply Nat.lt_of_le_of_lt;assumption);decide)|with_reducible first|(apply Nat.ne_of_lt;assumption)|(apply Nat.ne_of_gt;assumption)|(apply Ne.symm;assumption))
local macro_rules |`(tactic|walk_at "s0")=>`(tactic|(simp only [Nat.reduceLeDiff,Nat.reduceAdd]<;>fail))
local macro_rules |`(tactic|omega)=>`(tactic|first|with_reducible assumption|((with_reducible apply Mine.Internal.leN);walk_at "s0")|((with_reducible (apply Mine.Internal.leC;assumption));walk_at "s0")|((with_reducible (apply Mine.Internal.ltC;assumption));walk_at "s0")|((with_reducible (apply Mine.Internal.ltD;assumption));walk_at "s0")|((with_reducible (apply Mine.Internal.addC0;assumption));walk_at "s0")|((with_reducible (apply Mine.Internal.addC;assumption));walk_at "s0")|with_reducible first|(apply Nat.lt_trans;assumption;assumption)|(apply Qh;assumption;assumption)|(apply Nat.lt_of_le_of_lt;assumption;assumption)|(apply Qy;assumption;assumption)|(apply Wq;assumption)|(apply Nat.ne_of_lt;assumption)|(apply Nat.ne_of_gt;assumption)|(apply Ne.symm;assumption)|((first|apply Mine.Internal.L.nA|apply Mine.Internal.L.nB|apply Mine.Internal.L.nC|apply Mine.Internal.L.nL|apply Mine.Internal.L.nS)<;>walk_at "n0")|((apply Mine.Internal.L.nE);walk_at "n0")|((apply Mine.Internal.L.nF);walk_at "n0")|((apply Mine.Internal.L.nD);walk_at "n0")|(apply Mine.Internal.L.leD;assumption;decide)|(apply Nat.lt_succ_of_lt;assumption)|(apply Qy (Nat.le_add_right _ _);assumption)|(apply Qy (Nat.le_add_left _ _);assumption)|lia|omega (splitDisjunctions:=true))
section
open PySem PySem.W PyProof.Rows
set_option tactic.hygienic false
namespace Mine.Internal
section
section rules
variable {C:Cfg} {sc:Scope} {n lo:Nat} {σ σ' σ1 σ2 σ3:St} {ρ ρ':Rho} {e l r o i:Expr} {p q:Pos} {a b c v:V}
theorem bnd {α β:Type} {o:Option α} {f:α→Option β} {a:α} {r:Option β} (h:o=some a) (k:f a=r):o.bind f=r:=by rw [h];exact k
theorem mpd {α β:Type} {o:Option α} {f:α→β} {a:α} {b:β} (h:o=some a) (k:f a=b):o.map f=some b:=by rw [h,←k];rfl
theorem bnf {α:Type} {c:Bool} {x y r:α} (h:c=false) (k:y=r):(if c=true then x else y)=r:=by rw [h];exact k
theorem bnt {α:Type} {c:Bool} {x y r:α} (h:c=true) (k:x=r):(if c=true then x else y)=r:=by rw [h];exact k
theorem and2 {a b:Bool} (h1:a=true) (h2:b=true):(a&&b)=true:=by rw [h1,h2];rfl
theorem and_l {a b:Bool} (h:(a&&b)=true):a=true:=(Bool.and_eq_true _ _▸h:a=true∧b=true).1
theorem and_r {a b:Bool} (h:(a&&b)=true):b=true:=(Bool.and_eq_true _ _▸h:a=true∧b=true).2
theorem notT {b:Bool} (h:b=false):(!b)=true:=by rw [h];rfl
theorem dec {p:Prop} [Decidable p] (h:p):decide p=true:=decide_eq_true h
theorem seqRef {i:Nat} {xs:List V} (h:σ[i]?=some (.lst xs)):seqOf σ (.ref i)=some xs:=by unfold seqOf;simp only [h]
theorem smallNat {k:Nat} (h:k<4096):smallI (k:Int)=true:=dec ⟨by omega,by omega⟩
theorem place_nat {n k:Nat} (hk:k<n) (h:k<4096):place n (k:Int)=some k:=bnt (smallNat h) (bnt (dec (by omega)) (bnt (dec (by omega)) rfl))
theorem place_neg {n k:Nat} (hk:k<n) (h:n≤4096):place n (-1-(k:Int))=some (n-1-k):=
 bnt (dec ⟨by omega,by omega⟩) (bnf (decide_eq_false (by omega)) (bnt (dec (by omega)) (congrArg some (neg_plus n k))))
theorem item_ref {i m:Nat} {k:Int} {xs:List V} (h:σ[i]?=some (.lst xs)) (hp:place xs.length k=some m) (hv:xs[m]?=some v):getItemV σ (.ref i) (.int k)=some v:=bnd (a:=k) rfl (bnd (seqRef h) (bnd hp hv))
theorem item_fro {m:Nat} {k:Int} {xs:List V} (hp:place xs.length k=some m) (hv:xs[m]?=some v):getItemV σ (.fro xs) (.int k)=some v:=(show (place xs.length k).bind (xs[·]?)=some v from bnd hp hv)
theorem item_str {x:Str} {k:Int} {m c:Nat} (hp:place x.cps.size k=some m) (hc:x.cps[m]?=some c):getItemV σ (.str x) (.int k)=some (chr c):=bnd (a:=k) rfl (bnd hp (mpd hc rfl))
theorem clamp_nat {n d a:Nat} (ha:a≤n):clampI n d (.int a)=some a:=by
 show some (if (a:Int)<0 then ((a:Int)+n).toNat else min (a:Int).toNat n)=some a;rw [if_neg (by omega),Int.toNat_natCast,Nat.min_eq_left ha]
theorem sliceFro {l:List V} {u w:V} {k m:Nat} (h1:clampI l.length 0 u=some k) (h2:clampI l.length l.length w=some m) (hl:l.length≤4096):sliceV σ (.fro l) u w=some (.fro (sliceL l k m)):=
 (bnd h1 (bnd h2 (bnt (dec hl) rfl)):((clampI l.length 0 u).bind fun a=>(clampI l.length l.length w).bind fun b=>if decide (l.length≤4096) then some (V.fro (sliceL l a b)) else none)=_)
theorem ofS_inj {a b:String} (h:Str.ofString a=Str.ofString b):a=b:=by
 rw [Str.ofString_eq_toList,Str.ofString_eq_toList] at h;have h1:a.toList.map Char.toNat=b.toList.map Char.toNat:=by simpa using h
 have h2:a.toList=b.toList:=by
  have inj:∀ (l r:List Char),l.map Char.toNat=r.map Char.toNat→l=r:=by
   intro l
   induction l with
   |nil=>intro r h;cases r with
    |nil=>rfl
    |cons _ _=>cases h
   |cons x l ih=>intro r h;cases r with
    |nil=>cases h
    |cons y r=>
     simp only [List.map_cons,List.cons.injEq] at h;rw [ih r h.2,Char.toNat_inj.mp h.1]
  exact inj _ _ h1
 exact String.toList_inj.mp h2
theorem ofS_beq (a b:String):(Str.ofString a==Str.ofString b)=(a==b):=by
 by_cases h:a=b
 ·subst h;simp
 ·have:Str.ofString a≠Str.ofString b:=fun z=>h (ofS_inj z);rw [beq_eq_false_iff_ne.mpr this,beq_eq_false_iff_ne.mpr h]
theorem look_hit (a:String) (b:B) (ρ:Rho):List.lookup (Str.ofString a) ((Str.ofString a,b)::ρ)=some b:=by simp [List.lookup_cons]
theorem look_miss {a b:String} {v:B} {r:Option B} (h:(a==b)=false) (h2:List.lookup (Str.ofString a) ρ=r):List.lookup (Str.ofString a) ((Str.ofString b,v)::ρ)=r:=by
 rw [List.lookup_cons,ofS_beq,h];exact h2
section
variable {F:Itp} {f:Str} {vs:List V} {ks:List (Str×B)}
end
variable {Q:Fl→Rho→St→Prop}
theorem look_filter {s:Scope} {x:Str} {b:Option B} (hk:kindIn s x=some .free) (h:ρ.lookup x=b):(ρ.filter fun x=>kindIn s x.1==some .free).lookup x=b:=by
 subst h
 induction ρ with
 |nil=>rfl
 |cons y r ih=>
  refine nb fun kk=>?_;obtain ⟨y,z⟩:=y;refine kk ?_;rw [List.filter_cons]
  by_cases hxy:x=y
  ·subst hxy;simp [hk]
  ·have hb:(x==y)=false:=beq_eq_false_iff_ne.mpr hxy;rw [List.lookup_cons,hb]
   split
   ·rw [List.lookup_cons,hb];exact ih
   ·exact ih
set_option tactic.hygienic true in
theorem look_filter_none {s:Scope} {x:Str} (hk:(kindIn s x==some .free)=false):(ρ.filter fun x=>kindIn s x.1==some .free).lookup x=none:=by
 induction ρ with
 |nil=>rfl
 |cons y r ih=>
  obtain ⟨y,z⟩:=y;rw [List.filter_cons]
  split
  ·rename_i hy
   have hxy:x≠y:=by rintro rfl;rw [hk] at hy;cases hy
   rw [List.lookup_cons,beq_eq_false_iff_ne.mpr hxy];exact ih
  ·exact ih
def compOk (t iter:Expr) (ρ:Rho):Prop:=(tgtOk iter t&&notGen iter)=true∧∀ x∈tnames t,ρ.lookup x=none
theorem methRefL {i:Nat} {xs ys args:List V} {name:Str} (n1:(name==("join":Str))=false) (hlo:lo≤i) (h:σ[i]?=some (.lst xs)) (hm:methL xs name args=some (v,ys)):methV lo σ (.ref i) name args=some (v,σ.set i (.lst ys)):=
 bnf n1 (bnt (dec hlo) (bnd h (mpd hm rfl)))
theorem methRefA {i:Nat} {k:Int} {xs ys args:List V} {name:Str} (n1:(name==("join":Str))=false) (hlo:lo≤i) (h:σ[i]?=some (.acc k xs)) (hm:methA xs name args=some (v,ys)):methV lo σ (.ref i) name args=some (v,σ.set i (.acc k ys)):=
 bnf n1 (bnt (dec hlo) (bnd h (mpd hm rfl)))
theorem methJoin {s t:Str} {u:V} {l:List V} (hs:s.cps.size=0) (h1:seqOf σ u=some l) (h2:joinStr l=some t) (ht:t.cps.size≤4096):methV lo σ (.str s) ("join":Str) [u]=some (.str t,σ):=
 have j:joinV σ s u=some (.str t):=bnt (dec hs) (bnd h1 (bnd h2 (bnt (dec ht) rfl)))
 bnt rfl (mpd (a:=V.str t) j rfl)
theorem kw_lam {k:Str} {a:Arg} {body:Expr} {s:Scope} {caps:List (Str×V)} {p q:Pos} (hok:(hostSc sc&&okSc s&&okFree sc s)=true) (h:capsOf ρ (s.names.filter (·.2==.free))=some caps):kwV sc ρ [⟨some k,.Lambda ⟨[],[a],none,[],[],none,[]⟩ body s p,q⟩]=some [(k,.lam a.arg body s caps)]:=by
 have j:kwE sc ρ (.Lambda ⟨[],[a],none,[],[],none,[]⟩ body s p)=some (B.lam a.arg body s caps):=(bnt hok (mpd (f:=fun caps=>B.lam a.arg body s caps) h rfl):(if (hostSc sc&&okSc s&&okFree sc s)=true then (capsOf ρ (s.names.filter (·.2==.free))).map (fun caps=>B.lam a.arg body s caps) else none)=_)
 exact (mpd (f:=fun b=>[(k,b)]) j rfl:(kwE sc ρ _).map _=_)
theorem kw_name {k x:Str} {b:B} {p q:Pos} (hok:ownKind (kindIn sc x)=true) (h:ρ.lookup x=some b):kwV sc ρ [⟨some k,.Name x p,q⟩]=some [(k,b)]:=by
 have j:kwE sc ρ (.Name x p)=some b:=bnt hok h;exact (mpd (f:=fun b=>[(k,b)]) j rfl:(kwE sc ρ _).map _=_)
theorem kw_nil:kwV sc ρ []=some []:=rfl
end rules
noncomputable def fnsOf (p:Program) (x:Str):Option Fn:=
 p.main.body.findSome? fun st=>if h:st.ctorIdx=0 then Stmt.FunctionDef.elim st h fun n params body _ _ _ scope _ _ _=>if n==x&&!scope.isGenerator then some ⟨params,body,scope⟩ else none else none
noncomputable def fnD (p:Program) (x:Str):Fn:=match fnsOf p x with
 |some f=>f
 |none=>⟨⟨[],[],none,[],[],none,[]⟩,[],{ kind:=.function,names:=[],isGenerator:=false,isCoroutine:=false,more:=[] }⟩
end
section
section inv
variable {C:Cfg} {sc:Scope} {n lo:Nat} {σ σ':St} {ρ ρ':Rho} {p q:Pos} {v:V} {G:Prop}
theorem noN {α:Type} {a:α} (h:(none:Option α)=some a):G:=by cases h
theorem noB (h:true=false):G:=by cases h
theorem noB' (h:false=true):G:=by cases h
theorem bI {α β:Type} {o:Option α} {f:α→Option β} {r:β} (h:o.bind f=some r) (k:∀ a,o=some a→f a=some r→G):G:=by
 cases o with
 |none=>cases h
 |some a=>exact k a rfl h
theorem bP {α β γ:Type} {o:Option (α×β)} {f:α×β→Option γ} {r:γ} (h:o.bind f=some r) (k:∀ a b,o=some (a,b)→f (a,b)=some r→G):G:=bI h fun x=>k x.1 x.2
theorem mI {α β:Type} {o:Option α} {f:α→β} {r:β} (h:o.map f=some r) (k:∀ a,o=some a→f a=r→G):G:=by
 cases o with
 |none=>cases h
 |some a=>exact k a rfl (Qw h)
theorem mS {α:Type} {o:Option α} {a:α} {σ σ':St} (h:o.map (·,σ)=some (a,σ')) (k:o=some a→σ=σ'→G):G:=mI h fun x e z=>by cases z;exact k e rfl
theorem iT {α:Type} {c:Bool} {x:Option α} {r:α} (h:(if c=true then x else none)=some r) (k:c=true→x=some r→G):G:=by
 cases c with
 |true=>exact k rfl h
 |false=>cases h
theorem iB {α:Type} {c:Bool} {x y r:α} (h:(if c=true then x else y)=r) (k1:c=true→x=r→G) (k2:c=false→y=r→G):G:=by
 cases c with
 |true=>exact k1 rfl h
 |false=>exact k2 rfl h
section ex
variable {l r e o i x:Expr} {op:Operator} {a b c:V}
noncomputable def evOk (e:Expr):Bool:=![4,6,7,9,10,11,22,26].contains e.ctorIdx
end ex
end inv
section plain
variable {G:Prop} {σ:St} {a b c:V} {v:V}
theorem iD {α:Type} {p:Prop} [Decidable p] {x:Option α} {r:α} (h:(if decide p=true then x else none)=some r) (k:p→x=some r→G):G:=iT h fun h1 h=>k (of_decide_eq_true h1) h
theorem notTF {b:Bool} (h:(!b)=true):b=false:=by cases b<;>first|rfl|cases h
theorem iMapO {α β:Type} {f:α→Option β} {x:α} {r:List α} {l:List β} (e:mapO f (x::r)=some l) (j:∀ y ys,f x=some y→mapO f r=some ys→y::ys=l→G):G:=bI (show (f x).bind _=_ from e) fun y e1 e=>mI e fun ys e2 q=>j y ys e1 e2 q
theorem iSeq {l:List V} (e:seqOf σ a=some l) (j1:a=.fro l→G) (j2:∀ i,a=.ref i→σ[i]?=some (.lst l)→G):G:=by
 cases a with
 |fro l'=>exact j1 (congrArg V.fro (Qw e))
 |ref i=>
  have e:(match σ[i]? with
   |some (.lst xs)=>some xs
   |_=>none)=some l:=e
  refine j2 i rfl ?_;clear j1 j2;generalize σ[i]?=o at e⊢;cases o with
  |none=>exact noN e
  |some o=>cases o with
   |lst xs=>exact congrArg (fun z=>some (HO.lst z)) (Qw e)
   |acc=>exact noN e
 |_=>exact noN e
theorem iTruth {z:Bool} (e:truth σ a=some z) (j1:a=.none→z=false→G) (j2:a=.bool z→G) (j3:∀ i,a=.int i→z=decide (i≠0)→G):G:=by
 cases a with
 |none=>exact j1 rfl (Qw e).symm
 |bool b=>exact j2 (congrArg V.bool (Qw e))
 |int i=>exact j3 i rfl (Qw e).symm
 |_=>exact noN e
theorem iOne {α:Type} {f:V→Option α} {l:List V} {r:α} (e:one f l=some r) (j:∀ v,l=[v]→f v=some r→G):G:=by
 cases l with
 |nil=>exact noN e
 |cons v l=>exact iT e fun h e=>j v (by rw [List.isEmpty_iff.mp h]) e
theorem iStrOf {x:Str} (e:strOf a=some x) (j:a=.str x→G):G:=by
 cases a with
 |str y=>exact j (congrArg V.str (Qw e))
 |_=>exact noN e
theorem iAsI {x:Int} (e:asI a=some x) (j:a=.int x→G):G:=by
 cases a with
 |int y=>exact j (congrArg V.int (Qw e))
 |_=>exact noN e
theorem iUn {op:UnaryOp} (e:unV op σ a=some b) (j1:∀ i,op=.USub→a=.int i→b=.int (-i)→G) (j2:∀ z,op=.Not→truth σ a=some z→b=.bool (!z)→G):G:=by
 cases op with
 |USub=>exact bI e fun i ei e=>iAsI ei fun q=>j1 i rfl q (Qw e).symm
 |Not=>exact mI e fun z ez q=>j2 z rfl ez q.symm
 |_=>exact noN e
theorem iBin {op:Operator} (e:binV σ op a b=some c) (j1:∀ x y,a=.int x→b=.int y→binI op x y=some c→G)
  (j2:∀ x y,a=.str x→b=.str y→op=.Add→x.length+y.length≤4096→c=.str (x++y)→G)
  (j3:∀ x y,a=.str x→b=.int y→op=.Mult→x.length≤64→-64≤y→y≤64→c=.str ⟨(rep y.toNat x.cps.toList).toArray⟩→G)
  (j4:∀ l r,seqOf σ a=some l→seqOf σ b=some r→op=.Add→l.length+r.length≤4096→c=.fro (l++r)→G):G:=by
 have addOf:isAdd op=true→op=.Add:=fun h=>by cases op<;>first|rfl|cases h
 have mulOf:isMult op=true→op=.Mult:=fun h=>by cases op<;>first|rfl|cases h
 have key:binL σ op a b=some c→G:=fun e=>bI e fun l h1 e=>bI e fun r h2 e=>iT e fun h e=>j4 l r h1 h2 (addOf (and_l h)) (of_decide_eq_true (and_r h)) (Qw e).symm;clear j4;cases a with
 |int x=>cases b with
  |int y=>exact j1 x y rfl rfl e
  |_=>exact noN e
 |str x=>cases b with
  |str y=>exact iT e fun h e=>j2 x y rfl rfl (addOf (and_l h)) (of_decide_eq_true (and_r h)) (Qw e).symm
  |int y=>exact iT e fun h e=>j3 x y rfl rfl (mulOf (and_l h)) (of_decide_eq_true (and_l (and_l (and_r h)))) (of_decide_eq_true (and_r (and_l (and_r h)))) (of_decide_eq_true (and_r (and_r h))) (Qw e).symm
  |_=>exact noN e
 |_=>exact key e
theorem iCmpI {f:Int→Int→Bool} {z:Bool} (e:cmpI f a b=some z) (j:∀ x y,a=.int x→b=.int y→z=f x y→G):G:=by
 cases a with
 |int x=>cases b with
  |int y=>exact j x y rfl rfl (Qw e).symm
  |_=>exact noN e
 |_=>exact noN e
theorem iIsB {f:Bool→Bool→Bool} {z:Bool} (e:isB f a b=some z) (j:∀ x y,a=.bool x→b=.bool y→z=f x y→G):G:=by
 cases a with
 |bool x=>cases b with
  |bool y=>exact j x y rfl rfl (Qw e).symm
  |_=>exact noN e
 |_=>exact noN e
theorem iInS {z:Bool} (e:inS a b=some z) (j:∀ x y n,a=.str x→b=.str y→x.cps.toList=[n]→z=y.cps.toList.contains n→G):G:=by
 cases a with
 |str x=>cases b with
  |str y=>
   have e:oneOf x.cps.toList y.cps.toList=some z:=e;refine (?_:(∀ n,x.cps.toList=[n]→z=y.cps.toList.contains n→G)→G) fun n=>j x y n rfl rfl;generalize x.cps.toList=l at e;intro j;cases l with
   |nil=>exact noN e
   |cons n r=>exact iT e fun h e=>j n (by rw [List.isEmpty_iff.mp h]) (Qw e).symm
  |_=>exact noN e
 |_=>exact noN e
theorem iIs {z:Bool} (e:cmpV σ .Is a b=some z) (j1:b=.none→isN a=some z→G) (j2:∀ x y,a=.bool x→b=.bool y→z=(x==y)→G):G:=by
 cases b with
 |none=>exact j1 rfl e
 |bool u=>exact iIsB (f:=fun x y=>x==y) (show isB (fun x y=>x==y) a (.bool u)=some z from e) j2
 |int u=>exact iIsB (f:=fun x y=>x==y) (show isB (fun x y=>x==y) a (.int u)=some z from e) j2
 |str u=>exact iIsB (f:=fun x y=>x==y) (show isB (fun x y=>x==y) a (.str u)=some z from e) j2
 |tup u=>exact iIsB (f:=fun x y=>x==y) (show isB (fun x y=>x==y) a (.tup u)=some z from e) j2
 |fro u=>exact iIsB (f:=fun x y=>x==y) (show isB (fun x y=>x==y) a (.fro u)=some z from e) j2
 |ref u=>exact iIsB (f:=fun x y=>x==y) (show isB (fun x y=>x==y) a (.ref u)=some z from e) j2
 |fn=>exact iIsB (f:=fun x y=>x==y) (show isB (fun x y=>x==y) a (.fn)=some z from e) j2
theorem iSet {lo:Nat} {o i:V} {σ':St} (e:setItemV lo σ o i v=some σ') (j:∀ k a xs,i=.int k→o=.ref a→lo≤a→σ[a]?=some (.lst xs)→0≤k→k<xs.length→smallI k=true→σ.set a (.lst (xs.set k.toNat v))=σ'→G):G:=by
 refine bI (show (asI i).bind _=_ from e) fun k ek e=>iAsI ek fun q=>?_;cases o with
 |ref a=>exact iD e fun hlo e=>bI e fun xs ex e=>iT e fun h e=>iSeq ex (fun z=>nomatch z) fun b z hσ=>j k a xs q rfl hlo (V.ref.inj z▸hσ) (of_decide_eq_true (and_l (and_l h))) (of_decide_eq_true (and_r (and_l h))) (and_r h) (Qw e)
 |_=>exact noN e
theorem iMethL {xs ys args:List V} {name:Str} (e:methL xs name args=some (v,ys))
  (j1:name=("pop":Str)→args=[]→xs.length≤4096→xs.getLast?=some v→ys=xs.dropLast→G)
  (j2:∀ u,name=("append":Str)→args=[u]→xs.length<4096→v=.none→ys=xs++[u]→G)
  (j3:∀ k u,name=("insert":Str)→args=[.int k,u]→0≤k∧k≤xs.length∧xs.length<4096→v=.none→ys=xs.take k.toNat++u::xs.drop k.toNat→G):G:=by
 cases args with
 |nil=>exact iT e fun h e=>mI e fun u e1 q=>j1 (eq_of_beq (and_l h)) rfl (of_decide_eq_true (and_r h)) (e1.trans (congrArg (fun z=>some z.1) q)) (congrArg Prod.snd q).symm
 |cons w r=>cases r with
  |nil=>exact iT e fun h e=>j2 w (eq_of_beq (and_l h)) rfl (of_decide_eq_true (and_r h)) (congrArg Prod.fst (Qw e)).symm (congrArg Prod.snd (Qw e)).symm
  |cons u r=>
   refine iT e fun h e=>bI e fun k ek e=>iT e fun hk e=>iAsI ek fun q=>?_;exact j3 k u (eq_of_beq (and_l (and_l h))) (by rw [q,List.isEmpty_iff.mp (and_r (and_l h))]) ⟨of_decide_eq_true (and_l hk),of_decide_eq_true (and_r hk),of_decide_eq_true (and_r h)⟩ (congrArg Prod.fst (Qw e)).symm (congrArg Prod.snd (Qw e)).symm
theorem iMethA {xs ys args:List V} {name:Str} (e:methA xs name args=some (v,ys))
  (j3:∀ a b,name=("push":Str)→args=[.str a,.str b]→xs.length<4096→v=.none→ys=xs++[.tup [.str a,.str b]]→G):G:=by
 cases args with
 |nil=>exact noN e
 |cons w r=>cases r with
  |nil=>exact noN e
  |cons u r=>
   refine iT e fun h e=>bI e fun a ea e=>mI e fun b eb e=>iStrOf ea fun q1=>iStrOf eb fun q2=>?_;exact j3 a b (eq_of_beq (and_l (and_l h))) (by rw [q1,q2,List.isEmpty_iff.mp (and_r (and_l h))]) (of_decide_eq_true (and_r h)) (congrArg Prod.fst e).symm (congrArg Prod.snd e).symm
theorem iMethV {lo:Nat} {σ':St} {o:V} {name:Str} {args:List V} (e:methV lo σ o name args=some (v,σ'))
  (j1:∀ x u l t,name=("join":Str)→o=.str x→args=[u]→x.cps.size=0→seqOf σ u=some l→joinStr l=some t→t.cps.size≤4096→v=.str t→σ=σ'→G)
  (j3:∀ i xs ys,o=.ref i→lo≤i→σ[i]?=some (.lst xs)→methL xs name args=some (v,ys)→σ.set i (.lst ys)=σ'→G)
  (j4:∀ i s xs ys,o=.ref i→lo≤i→σ[i]?=some (.acc s xs)→methA xs name args=some (v,ys)→σ.set i (.acc s ys)=σ'→G):G:=by
 refine iB e (fun h e=>bI e fun x ex e=>mS e fun e q=>iStrOf ex fun ex=>iOne e fun u eu e=>iD e fun hx e=>bI e fun l el e=>bI e fun t et e=>iD e fun ht e=>j1 x u l t (eq_of_beq h) ex eu hx el et ht (Qw e).symm q) fun o_ e=>?_;clear j1;cases o with
 |ref i=>
  refine iD e fun hlo e=>bI e fun ob eo e=>?_;cases ob with
  |lst xs=>exact mI e fun r er q=>j3 i xs r.2 rfl hlo eo (er.trans (congrArg (fun z=>some (z,r.2)) (congrArg Prod.fst q))) (congrArg Prod.snd q)
  |acc s xs=>exact mI e fun r er q=>j4 i s xs r.2 rfl hlo eo (er.trans (congrArg (fun z=>some (z,r.2)) (congrArg Prod.fst q))) (congrArg Prod.snd q)
 |_=>exact noN e
theorem iBlt {f:Str} {args:List V} (e:builtinV σ f args=some v) (j1:∀ u i,f=("len":Str)→args=[u]→lenV σ u=some i→v=.int i→G):G:=
 iT e fun h e=>mI e fun i e q=>iOne e fun u eu e=>j1 u i (eq_of_beq h) eu e q.symm
theorem iBindN {sc:Scope} {ρ':Rho}:∀ {es:List Expr} {vs:List V} {ρ:Rho},bindN sc es vs ρ=some ρ'→
  ∃ l:List (Str×Pos),es=l.map (fun x=>Expr.Name x.1 x.2)∧l.length=vs.length∧(∀ x∈l,canSet sc x.1=true)∧ρ'=((l.map (·.1)).zip (vs.map B.val)).reverse++ρ:=by
 intro es
 induction es with
 |nil=>
  intro vs ρ e;cases vs with
  |nil=>exact ⟨[],rfl,rfl,(fun o_ h=>nomatch h),(Qw e).symm⟩
  |cons=>exact noN e
 |cons x es ih=>
  intro vs ρ e;refine iName e (fun x p qx e=>?_) noN
  ·cases vs with
   |nil=>exact noN e
   |cons v vs=>
    refine iT e fun h e=>?_;refine nb fun kk=>?_;refine e14 (ih e) fun l h1 h2 h3 h4=>?_;refine kk ?_;refine ⟨(x,p)::l,by rw [qx,h1];rfl,by rw [List.length_cons,h2];rfl,fun y hy=>?_,by rw [h4];simp⟩;rcases Wy hy with rfl|hy
    ·exact h
    ·exact h3 y hy
theorem iBindT {sc:Scope} {t:Expr} {ρ ρ':Rho} (e:bindT sc t v ρ=some ρ') (j1:∀ x p,t=.Name x p→canSet sc x=true→ρ'=(x,.val v)::ρ→G)
  (j2:∀ (l:List (Str×Pos)) xs k p,t=.Tuple (l.map fun x=>Expr.Name x.1 x.2) k p→v=.tup xs→l.length=xs.length→(∀ x∈l,canSet sc x.1=true)→ρ'=((l.map (·.1)).zip (xs.map B.val)).reverse++ρ→G):G:=by
 refine iName e (fun x p q e=>iT e fun h e=>j1 x p q h (Qw e).symm) fun e=>iTup e (fun es k p q e=>?_) noN;cases v with
 |tup xs=>exact e14 (iBindN e) fun l h1 h2 h3 h4=>j2 l xs k p (by rw [q,h1]) rfl h2 h3 h4
 |_=>exact noN e
theorem iLamP {a:Arguments} {x:Str} (e:lamP a=some x) (j:∀ y:Arg,a=⟨[],[y],none,[],[],none,[]⟩→y.arg=x→G):G:=by
 refine iT e fun h e=>?_;obtain ⟨po,ar,va,ko,kd,kw,df⟩:=a;have h1:=List.isEmpty_iff.mp (and_l (and_l (and_l (and_l (and_l h)))));have h2:=Option.isNone_iff_eq_none.mp (and_r (and_l (and_l (and_l (and_l h)))));have h3:=List.isEmpty_iff.mp (and_r (and_l (and_l (and_l h))));have h4:=List.isEmpty_iff.mp (and_r (and_l (and_l h)));have h5:=Option.isNone_iff_eq_none.mp (and_r (and_l h));have h6:=List.isEmpty_iff.mp (and_r h);cases ar with
 |nil=>exact noN e
 |cons y r=>exact iT e fun h e=>j y (by rw [show po=[] from h1,show va=none from h2,show ko=[] from h3,show kd=[] from h4,show kw=none from h5,show df=[] from h6,List.isEmpty_iff.mp h]) (Qw e)
theorem kw_eta {k:Keyword} {x:Str} {e:Expr} (h1:k.arg=some x) (h2:k.value=e):k=⟨some x,e,k.pos⟩:=by subst h2;cases k;cases h1;rfl
theorem iKw {sc:Scope} {ρ:Rho} {kw:List Keyword} {ks:List (Str×B)} (e:kwV sc ρ kw=some ks) (j0:kw=[]→ks=[]→G)
  (j1:∀ k a body s p1 p2 caps,kw=[⟨some k,.Lambda ⟨[],[a],none,[],[],none,[]⟩ body s p1,p2⟩]→hostSc sc=true→okSc s=true→okFree sc s=true→capsOf ρ (s.names.filter (·.2==.free))=some caps→ks=[(k,.lam a.arg body s caps)]→G)
  (j2:∀ k x p1 p2 b,kw=[⟨some k,.Name x p1,p2⟩]→ownKind (kindIn sc x)=true→ρ.lookup x=some b→ks=[(k,b)]→G):G:=by
 cases kw with
 |nil=>exact j0 rfl (Qw e).symm
 |cons k r=>
  refine iT e fun h e=>bI e fun x ex e=>mI e fun b eb q0=>?_;have go:∀ e,k.value=e→k::r=[⟨some x,e,k.pos⟩]:=fun e q=>by rw [List.isEmpty_iff.mp h];exact congrArg (fun z=>[z]) (kw_eta ex q)
  exact iName eb (fun y p q eb=>iT eb fun hq eb=>j2 x y p k.pos b (go _ q) hq eb q0.symm) fun eb=>iLam eb (fun as body s p q1 eb=>bI eb fun y ey eb=>iT eb fun hq eb=>mI eb fun caps ec q=>iLamP ey fun a q2 q3=>
   j1 x a body s p k.pos caps (go _ (q1.trans (congrArg (fun z=>Expr.Lambda z body s p) q2))) (and_l (and_l hq)) (and_r (and_l hq)) (and_r hq) ec (by rw [←q0,←q,q3])) noN
theorem rangeV_is {a b c:Int} {l:List V} (h:rangeV a b c=some l) (j:Builtin.Range.small a b c=true→rangeL a b c=l→G):G:=iT h fun h1 h=>j (and_l (and_l h1)) (Qw h)
theorem iLp {α:Type} {nth:α→Nat→Option (Option V)} {body:V→α→Fl→α→Prop} {m k:Nat} {a a':α} {fl:Fl} (h:Lp nth body m k a fl a') (j1:nth a k=some none→fl=.next→a'=a→G)
  (j2:∀ v m' f a1,m=m'+1→nth a k=some (some v)→body v a f a1→After (Lp nth body m' (k+1)) f a1 fl a'→G):G:=by
 cases m with
 |zero=>exact j1 h.1 h.2.1 h.2.2
 |succ m=>exact h.elim (fun h=>j1 h.1 h.2.1 h.2.2) fun h=>h.elim fun v h=>h.elim fun f h=>h.elim fun a1 h=>j2 v m f a1 rfl h.1 h.2.1 h.2.2
end plain
end
section
noncomputable def tupObj (items:Array Value) (n:Nat):Obj:={ cls:=.type "tuple",data:=.seq items n }
noncomputable def lstObj (items:Array Value) (n:Nat):Obj:={ cls:=.type "list",data:=.seq items n }
mutual
inductive RV (H ι:List Addr) (h:Heap):Value→V→Prop
 |none:RV H ι h .none .none
 |bool (b:Bool):RV H ι h (.bool b) (.bool b)
 |int (i:Int) (t:Tok):RV H ι h (.int i t) (.int i)
 |str {s:Str} (t:Tok):asc s=true→RV H ι h (.str s t) (.str s)
 |tup {a:Addr} {items:Array Value} {n:Nat} {l:List V}:a∉ι→a∉H→h.get? a=some (tupObj items n)→RVs H ι h items.toList l→RV H ι h (.ref a) (.tup l)
 |fro {a:Addr} {items:Array Value} {n:Nat} {l:List V}:a∉ι→a∉H→h.get? a=some (lstObj items n)→RVs H ι h items.toList l→RV H ι h (.ref a) (.fro l)
 |ref {a:Addr} {i:Nat}:ι[i]?=some a→RV H ι h (.ref a) (.ref i)
 |fn {a:Addr}:RV H ι h (.ref a) .fn
inductive RVs (H ι:List Addr) (h:Heap):List Value→List V→Prop
 |nil:RVs H ι h [] []
 |cons {v:Value} {x:V} {vs:List Value} {xs:List V}:RV H ι h v x→RVs H ι h vs xs→RVs H ι h (v::vs) (x::xs)
end
structure Cst where
 N0:Nat
 acc:Addr
 tabs:List Addr
 codes:List (Addr×Addr)
 hid:List Addr:=[]
noncomputable def tabObj (vs:Array Value):Obj:={ cls:=.none,data:=.fields vs }
noncomputable def As (tb:List Addr) (h':Heap) (b:Addr) (o:Obj):Prop:=
 h'.get? b=some o∨(b∈tb∧∃ vs more,o=tabObj vs∧h'.get? b=some (tabObj (vs++more)))
noncomputable def notFields (o:Obj):Prop:=∀ vs,o.data≠.fields vs
theorem As.get {tb:List Addr} {h':Heap} {b:Addr} {o:Obj} (x:As tb h' b o) (hn:notFields o):h'.get? b=some o:=by
 rcases x with x|⟨_,vs,_,rfl,_⟩
 ·exact x
 ·exact absurd rfl (hn vs)
theorem As.off {tb:List Addr} {h':Heap} {b:Addr} {o:Obj} (x:As tb h' b o) (hn:b∉tb):h'.get? b=some o:=x.resolve_right fun z=>hn z.1
theorem As.cls {tb:List Addr} {h':Heap} {b:Addr} {o:Obj} {c:String} (x:As tb h' b o) (hc:o.cls=.type c):h'.get? b=some o:=by
 rcases x with x|⟨_,vs,_,rfl,_⟩
 ·exact x
 ·cases hc
theorem As.trans {tb:List Addr} {h' h'':Heap} {b:Addr} {o:Obj} (x:As tb h' b o) (y:∀ o',h'.get? b=some o'→As tb h'' b o'):As tb h'' b o:=by
 rcases x with x|⟨hb,vs,more,rfl,x⟩
 ·exact y _ x
 ·rcases y _ x with z|⟨_,vs',more',e,z⟩
  ·exact .inr ⟨hb,vs,more,rfl,z⟩
  ·have:vs'=vs++more:=by
    have:=congrArg Obj.data e;simpa [tabObj] using this.symm
   subst this;exact .inr ⟨hb,vs,more++more',rfl,by rw [z,Array.append_assoc]⟩
theorem nf_tup (items:Array Value) (n:Nat):notFields (tupObj items n):=fun o_ e=>by cases e
theorem nf_lst (items:Array Value) (n:Nat):notFields (lstObj items n):=fun o_ e=>by cases e
structure Grow (tb:List Addr) (ι ι':List Addr) (h h':Heap):Prop where
 pre:∃ news,ι'=ι++news∧∀ a∈news,h.get? a=none
 keep:∀ b o,b∉ι→h.get? b=some o→As tb h' b o
 there:∀ b o,b∈ι→h.get? b=some o→∃ o',h'.get? b=some o'
noncomputable def Cst.withH (K:Cst) (H:List Addr):Cst:={ K with hid:=H }
variable {tb H:List Addr}
theorem Grow.refl (ι:List Addr) (h:Heap):Grow tb ι ι h h:=⟨⟨[],by simp,by simp⟩,fun o_ o_ o_ e=>.inl e,fun o_ o o_ e=>⟨o,e⟩⟩
theorem Grow.get {ι ι':List Addr} {h h':Heap} (G:Grow tb ι ι' h h') {i:Nat} {a:Addr} (e:ι[i]?=some a):ι'[i]?=some a:=by
 refine e12 (G.pre) fun news qz1 o_=>?_;obtain rfl:=qz1;rw [List.getElem?_append_left]
 ·exact e
 ·exact (Qz e).1
theorem Grow.not_mem {ι ι':List Addr} {h h':Heap} (G:Grow tb ι ι' h h') {b:Addr} {o:Obj} (hb:b∉ι) (e:h.get? b=some o):b∉ι':=by
 refine e12 (G.pre) fun news qz1 hn=>?_;obtain rfl:=qz1;intro hm;rcases Wx hm with hm|hm
 ·exact hb hm
 ·rw [hn b hm] at e;cases e
theorem As.isome {h':Heap} {b:Addr} {o:Obj} (x:As tb h' b o):∃ o',h'.get? b=some o':=by
 rcases x with x|⟨_,vs,more,_,x⟩
 ·exact ⟨_,x⟩
 ·exact ⟨_,x⟩
theorem Grow.stays {ι ι':List Addr} {h h':Heap} (G:Grow tb ι ι' h h') {b:Addr} {o:Obj} (e:h.get? b=some o):∃ o',h'.get? b=some o':=by
 by_cases hb:b∈ι
 ·exact G.there b o hb e
 ·exact (G.keep b o hb e).isome
theorem Grow.fresh {ι ι':List Addr} {h h':Heap} (G:Grow tb ι ι' h h') {b:Addr} (e:h'.get? b=none):h.get? b=none:=by
 cases q:h.get? b with
 |none=>rfl
 |some o=>
  refine e11 (G.stays q) fun o' z=>?_;rw [e] at z;cases z
theorem Grow.trans {ι ι' ι'':List Addr} {h h' h'':Heap} (G:Grow tb ι ι' h h') (G':Grow tb ι' ι'' h' h''):Grow tb ι ι'' h h'':=by
 refine ⟨?_,fun b o hb e=>(G.keep b o hb e).trans fun o' e'=>G'.keep b o' (G.not_mem hb e) e',fun b o hb e=>?_⟩
 ·obtain ⟨n1,rfl,h1⟩:=G.pre;refine nb fun kk=>?_;refine e12 (G'.pre) fun n2 qz1 h2=>?_;obtain rfl:=qz1;refine kk ?_;refine ⟨n1++n2,by simp,?_⟩;intro a ha;rcases Wx ha with ha|ha
  ·exact h1 a ha
  ·exact G.fresh (h2 a ha)
 ·obtain ⟨o',e'⟩:=G.there b o hb e;exact G'.stays e'
structure Mvd (H ι:List Addr) (h:Heap) (H' ι':List Addr) (h':Heap):Prop where
 seq:∀ a o items n,a∉ι→a∉H→(o=tupObj items n∨o=lstObj items n)→h.get? a=some o→a∉ι'∧a∉H'∧h'.get? a=some o
 ref:∀ (i:Nat) a,ι[i]?=some a→ι'[i]?=some a
theorem RV.imp {ι H' ι':List Addr} {h h':Heap} (k:Mvd H ι h H' ι' h') {v:Value} {x:V} (r:RV H ι h v x):RV H' ι' h' v x:=
 RV.rec (motive_1:=fun v x o_=>RV H' ι' h' v x) (motive_2:=fun v x o_=>RVs H' ι' h' v x) .none .bool .int (fun t a=>.str t a)
  (fun h1 h2 e o_ ih=>let q:=k.seq _ _ _ _ h1 h2 (.inl rfl) e;.tup q.1 q.2.1 q.2.2 ih) (fun h1 h2 e o_ ih=>let q:=k.seq _ _ _ _ h1 h2 (.inr rfl) e;.fro q.1 q.2.1 q.2.2 ih) (fun e=>.ref (k.ref _ _ e)) .fn .nil (fun o_ o_ a b=>.cons a b) r
theorem RVs.imp {ι H' ι':List Addr} {h h':Heap} (k:Mvd H ι h H' ι' h') {v:List Value} {x:List V} (r:RVs H ι h v x):RVs H' ι' h' v x:=
 RVs.rec (motive_1:=fun v x o_=>RV H' ι' h' v x) (motive_2:=fun v x o_=>RVs H' ι' h' v x) .none .bool .int (fun t a=>.str t a)
  (fun h1 h2 e o_ ih=>let q:=k.seq _ _ _ _ h1 h2 (.inl rfl) e;.tup q.1 q.2.1 q.2.2 ih) (fun h1 h2 e o_ ih=>let q:=k.seq _ _ _ _ h1 h2 (.inr rfl) e;.fro q.1 q.2.1 q.2.2 ih) (fun e=>.ref (k.ref _ _ e)) .fn .nil (fun o_ o_ a b=>.cons a b) r
theorem nf_seq {o:Obj} {items:Array Value} {n:Nat} (h:o=tupObj items n∨o=lstObj items n):notFields o:=h.elim (fun e=>e▸nf_tup _ _) fun e=>e▸nf_lst _ _
theorem Grow.mvd {ι ι':List Addr} {h h':Heap} (G:Grow tb ι ι' h h'):Mvd H ι h H ι' h':=⟨fun a o o_ o_ h1 h2 ho e=>⟨G.not_mem h1 e,h2,(G.keep _ _ h1 e).get (nf_seq ho)⟩,fun o_ o_ e=>G.get e⟩
theorem RV.grow {ι ι':List Addr} {h h':Heap} (G:Grow tb ι ι' h h') {v:Value} {x:V} (r:RV H ι h v x):RV H ι' h' v x:=r.imp G.mvd
theorem RVs.grow {ι ι':List Addr} {h h':Heap} (G:Grow tb ι ι' h h') {v:List Value} {x:List V} (r:RVs H ι h v x):RVs H ι' h' v x:=r.imp G.mvd
noncomputable def Calm (H ι:List Addr) (h h':Heap):Prop:=∀ b o items n,b∉ι→b∉H→(o=tupObj items n∨o=lstObj items n)→h.get? b=some o→h'.get? b=some o
theorem Calm.mvd {ι:List Addr} {h h':Heap} (G:Calm H ι h h'):Mvd H ι h H ι h':=⟨fun a o items n h1 h2 ho e=>⟨h1,h2,G a o items n h1 h2 ho e⟩,fun o_ o_ e=>e⟩
theorem RV.calm {ι:List Addr} {h h':Heap} (G:Calm H ι h h') {v:Value} {x:V} (r:RV H ι h v x):RV H ι h' v x:=r.imp G.mvd
theorem RVs.calm {ι:List Addr} {h h':Heap} (G:Calm H ι h h') {v:List Value} {x:List V} (r:RVs H ι h v x):RVs H ι h' v x:=r.imp G.mvd
theorem RVs.nil' {ι:List Addr} {h:Heap} {vs:List Value} (r:RVs H ι h vs []):vs=[]:=by cases r;rfl
theorem RVs.cons' {ι:List Addr} {h:Heap} {vs:List Value} {x:V} {xs:List V} (r:RVs H ι h vs (x::xs)):∃ u us,vs=u::us∧RV H ι h u x∧RVs H ι h us xs:=by cases r with|cons a b=>exact (xi2 _ _ ⟨rfl,a,b⟩)
theorem RVs.length {ι:List Addr} {h:Heap} {vs:List Value} {xs:List V} (r:RVs H ι h vs xs):vs.length=xs.length:=by
 induction xs generalizing vs with
 |nil=>rw [r.nil'];rfl
 |cons x xs ih=>obtain ⟨u,us,rfl,_,b⟩:=r.cons';exact congrArg (·+1) (ih b)
theorem RVs.get {ι:List Addr} {h:Heap} {vs:List Value} {xs:List V} (r:RVs H ι h vs xs) {i:Nat} {x:V} (e:xs[i]?=some x):∃ v,vs[i]?=some v∧RV H ι h v x:=by
 induction xs generalizing vs i with
 |nil=>cases e
 |cons y xs ih=>
  refine nb fun kk=>?_;refine e23 (r.cons') fun u us qz2 a b=>?_;obtain rfl:=qz2;refine kk ?_;cases i with
  |zero=>exact ⟨u,rfl,Qw e▸a⟩
  |succ i=>exact ih b e
theorem RVs.append {ι:List Addr} {h:Heap} {vs:List Value} {xs:List V} {us:List Value} {ys:List V} (r:RVs H ι h vs xs) (q:RVs H ι h us ys):RVs H ι h (vs++us) (xs++ys):=by
 induction xs generalizing vs with
 |nil=>rw [r.nil'];exact q
 |cons x xs ih=>obtain ⟨u,us,rfl,a,b⟩:=r.cons';exact .cons a (ih b)
theorem RVs.take {ι:List Addr} {h:Heap} {vs:List Value} {xs:List V} (k:Nat) (r:RVs H ι h vs xs):RVs H ι h (vs.take k) (xs.take k):=by
 induction k generalizing vs xs with
 |zero=>exact .nil
 |succ k ih=>cases xs with
  |nil=>rw [r.nil'];exact .nil
  |cons x xs=>obtain ⟨u,us,rfl,a,b⟩:=r.cons';exact .cons a (ih b)
theorem RVs.drop {ι:List Addr} {h:Heap} {vs:List Value} {xs:List V} (k:Nat) (r:RVs H ι h vs xs):RVs H ι h (vs.drop k) (xs.drop k):=by
 induction k generalizing vs xs with
 |zero=>exact r
 |succ k ih=>cases xs with
  |nil=>rw [r.nil'];exact .nil
  |cons x xs=>obtain ⟨u,us,rfl,a,b⟩:=r.cons';exact ih b
theorem RVs.set {ι:List Addr} {h:Heap} {vs:List Value} {xs:List V} (k:Nat) {v:Value} {x:V} (r:RVs H ι h vs xs) (q:RV H ι h v x):RVs H ι h (vs.set k v) (xs.set k x):=by
 induction xs generalizing vs k with
 |nil=>rw [r.nil'];exact .nil
 |cons y xs ih=>
  refine nb fun kk=>?_;refine e23 (r.cons') fun u us qz2 a b=>?_;obtain rfl:=qz2;refine kk ?_;cases k with
  |zero=>exact .cons q b
  |succ k=>exact .cons a (ih k b)
inductive HRel (K:Cst) (ι:List Addr) (h:Heap) (a:Addr):HO→Prop
 |lst {items:Array Value} {n:Nat} {xs:List V}:h.get? a=some (lstObj items n)→RVs K.hid ι h items.toList xs→HRel K ι h a (.lst xs)
 |acc {items:Array Value} {n:Nat} {xs:List V} {d:Addr} {m:Str→Option Value} {k:Int} {t:Tok} {sl:Array (Option Value)}:
   h.get? a=some { cls:=.ref K.acc,dict:=some d,data:=.seq items n,slots:=sl }→d∉ι→h.Ns d m→(m ("_initial_size":Str)=some (.int k t)∧∀ y,(y==("_initial_size":Str))=false→m y=none)→
   (∃ o,h.get? d=some o∧o.cls=.type "dict")→
   RVs K.hid ι h items.toList xs→HRel K ι h a (.acc k xs)
structure StRel (K:Cst) (ι:List Addr) (h:Heap) (σ:St):Prop where
 len:ι.length=σ.length
 nodup:ι.Nodup
 low:∀ a∈ι,K.N0≤a
 hid:∀ a∈K.hid,∃ o,h.get? a=some o
 obj:∀ (i:Nat) (o:HO),σ[i]?=some o→∃ a,ι[i]?=some a∧HRel K ι h a o
set_option genSizeOf false in
structure LamSt (fd:FuncData) (x:Str) (body:Expr) (sc:Scope):Prop where
 body:fd.body=.expr body
 scope:fd.scope=sc
 args:fd.params.args.map (·.arg)=[x]
 pos:fd.params.posonlyargs=[]
 var:fd.params.vararg=none
 kwo:fd.params.kwonlyargs=[]
 kwa:fd.params.kwarg=none
 dfl:fd.defaults=.none
 glob:fd.globals=mainGlobals
 blt:fd.builtins=builtinsNs
 free:∀ y c,(y,c)∈fd.closure→(y,NameKind.free)∈sc.names
 inj:∀ y z c,(y,c)∈fd.closure→(z,c)∈fd.closure→y=z
 all:∀ y,(y,NameKind.free)∈sc.names→∃ c,(y,c)∈fd.closure
noncomputable def LamCode (ι:List Addr) (h:Heap) (cd:Value):Prop:=∃ c q,cd=.ref c∧c∉ι∧h.CodeRec cd q∧∃ o,h.get? c=some o∧o.cls=.type "code"
noncomputable def LamCap (H ι:List Addr) (h:Heap) (fd:FuncData) (sc:Scope) (caps:List (Str×V)):Prop:=∀ y v,caps.lookup y=some v→kindIn sc y=some .free∧∀ c,(y,c)∈fd.closure→∃ r,h.IsCell c (some r)∧RV H ι h r v
noncomputable def LamClo (N0:Nat) (ι:List Addr) (h:Heap) (L:Addr) (fd:FuncData):Prop:=∀ y c,(y,c)∈fd.closure→c∉ι∧c<L∧N0≤c∧∃ v,h.IsCell c v
inductive RB (ι:List Addr) (h:Heap) (K:Cst) (L:Addr):Value→B→Prop
 |val {v:Value} {x:V}:RV K.hid ι h v x→RB ι h K L v (.val x)
 |lam {a:Addr} {o:Obj} {fd:FuncData} {x:Str} {body:Expr} {sc:Scope} {caps:List (Str×V)}:a∉ι→h.get? a=some o→o.data=.func fd→
   LamSt fd x body sc→LamCode ι h fd.code→LamCap K.hid ι h fd sc caps→LamClo K.N0 ι h L fd→RB ι h K L (.ref a) (.lam x body sc caps)
theorem RB.rv {K:Cst} {ι:List Addr} {h:Heap} {L:Addr} {v:Value} {b:B} (r:RB ι h K L v b):RV K.hid ι h v b.v:=by
 cases r with
 |val r=>exact r
 |lam=>exact .fn
noncomputable def wellSc (sc:Scope):Prop:=kindIn sc ("__debug__":Str)=none∧kindIn sc ("__classdict__":Str)=none∧kindIn sc ("_initial_size":Str)=none
structure FrOk (K:Cst) (ι:List Addr) (h:Heap) (env:Env) (sc:Scope) (ρ:Rho):Prop where
 kind:env.scope.kind=.function
 names:∀ x,kindIn env.scope x=kindIn sc x∨(kindIn sc x=some .free∧kindIn env.scope x=some .cell)
 glob:env.globals=mainGlobals
 blt:env.builtins=builtinsNs
 ns:∃ m,h.Ns env.locals m∧m ("_initial_size":Str)=none∧∀ x b,kindIn sc x=some .local→ρ.lookup x=some b→∃ v,m x=some v∧RB ι h K env.locals v b
 cell:∀ x b,kindIn sc x=some .cell∨kindIn sc x=some .free→ρ.lookup x=some b→∃ c v,env.cells.lookup x=some c∧h.IsCell c (some v)∧RB ι h K env.locals v b
 hasCell:∀ x,kindIn sc x=some .cell∨kindIn sc x=some .free→∃ c v,env.cells.lookup x=some c∧h.IsCell c v
 offL:env.locals∉ι∧K.N0≤env.locals
 offC:∀ x c,env.cells.lookup x=some c→c∉ι∧K.N0≤c∧∃ v,h.IsCell c v
 own:∀ x c,kindIn sc x=some .cell→env.cells.lookup x=some c→env.locals<c
 apart:∀ x y c,env.cells.lookup x=some c→env.cells.lookup y=some c→x=y
 well:wellSc sc
 code:hostSc sc=true→∃ x∈K.codes,env.code=.ref x.1
end
section
theorem wF {M:Model} {A:Around} {α:Type} {c:Bool} {x y:Sem α} {Q:α→Shared→Prop} {E:Value→Shared→Prop} {s:Shared} (hc:c=false) (h:wpAny M A y Q E s):wpAny M A (if c=true then x else y) Q E s:=by rw [if_neg (by rw [hc];decide)];exact h
theorem wT {M:Model} {A:Around} {α:Type} {c:Bool} {x y:Sem α} {Q:α→Shared→Prop} {E:Value→Shared→Prop} {s:Shared} (hc:c=true) (h:wpAny M A x Q E s):wpAny M A (if c=true then x else y) Q E s:=by rw [if_pos hc];exact h
theorem elimT {α:Type} {o:Option α} {f:α→Bool} {G:Prop} (h:o.elim false f=true) (k:∀ a,o=some a→f a=true→G):G:=by
 cases o with
 |none=>cases h
 |some a=>exact k a rfl h
noncomputable def fldOf:Data→Option (Array Value)
 |.fields vs=>some vs
 |_=>none
noncomputable def dicOf:Data→Option (Array DictEntry)
 |.dict es _=>some es
 |_=>none
noncomputable def refOf:Value→Option Addr
 |.ref a=>some a
 |_=>none
noncomputable def typOf:Value→Option String
 |.type a=>some a
 |_=>none
theorem iFld {d:Data} {vs:Array Value} (h:fldOf d=some vs):d=.fields vs:=by
 cases d with
 |fields x=>exact congrArg Data.fields (Qw h)
 |_=>cases h
theorem iDic {d:Data} {es:Array DictEntry} (h:dicOf d=some es):∃ n,d=.dict es n:=by
 cases d with
 |dict x n=>exact ⟨n,congrArg (Data.dict · n) (Qw h)⟩
 |_=>cases h
theorem iRefOf {v:Value} {a:Addr} (h:refOf v=some a):v=.ref a:=by
 cases v with
 |ref x=>exact congrArg Value.ref (Qw h)
 |_=>cases h
theorem iTyp {v:Value} {a:String} (h:typOf v=some a):v=.type a:=by
 cases v with
 |type x=>exact congrArg Value.type (Qw h)
 |_=>cases h
theorem iBindR {o:Option Value} {a:Addr} (h:o.bind refOf=some a):o=some (.ref a):=by
 cases o with
 |none=>cases h
 |some v=>exact congrArg some (iRefOf h)
theorem iCls {Kf:Frag} {c:Addr} {cd:ClassData} {G:Prop} (h:clsIn Kf c=some cd) (k:∀ a b sl,Kf.lookup c=some ⟨a,b,.cls cd,sl⟩→G):G:=by
 unfold clsIn at h;cases q:Kf.lookup c with
 |none=>rw [q] at h;cases h
 |some o=>
  rw [q] at h;cases o with
  |mk a b d sl=>
   cases d with
   |cls x=>exact k a b sl (q.trans (congrArg (fun z=>some (Obj.mk a b (.cls z) sl)) (Qw h)))
   |_=>cases h
section inv
variable {H ι:List Addr} {h:Heap} {v:Value} {vs:List Value} {G:Prop}
theorem rvInt {i:Int} (r:RV H ι h v (.int i)) (j:∀ t,v=.int i t→G):G:=by cases r;exact j _ rfl
theorem rvStr {x:Str} (r:RV H ι h v (.str x)) (j:∀ t,v=.str x t→asc x=true→G):G:=by cases r with|str t a=>exact j _ rfl a
theorem rvNone (r:RV H ι h v .none) (j:v=.none→G):G:=by cases r;exact j rfl
theorem rvBool {b:Bool} (r:RV H ι h v (.bool b)) (j:v=.bool b→G):G:=by cases r;exact j rfl
theorem rvFro {l:List V} (r:RV H ι h v (.fro l)) (j:∀ a items n,v=.ref a→a∉ι→a∉H→h.get? a=some (lstObj items n)→RVs H ι h items.toList l→G):G:=by
 cases r with|fro h1 h2 h3 h4=>exact j _ _ _ rfl h1 h2 h3 h4
theorem rvTup {l:List V} (r:RV H ι h v (.tup l)) (j:∀ a items n,v=.ref a→a∉ι→a∉H→h.get? a=some (tupObj items n)→RVs H ι h items.toList l→G):G:=by
 cases r with|tup h1 h2 h3 h4=>exact j _ _ _ rfl h1 h2 h3 h4
theorem rvRef {i:Nat} (r:RV H ι h v (.ref i)) (j:∀ a,v=.ref a→ι[i]?=some a→G):G:=by cases r with|ref h1=>exact j _ rfl h1
theorem rvsNil (r:RVs H ι h vs []) (j:vs=[]→G):G:=by cases r;exact j rfl
theorem rvsCons {x:V} {xs:List V} (r:RVs H ι h vs (x::xs)) (j:∀ u us,vs=u::us→RV H ι h u x→RVs H ι h us xs→G):G:=by cases r with|cons a b=>exact j _ _ rfl a b
theorem rvs1 {x:V} (r:RVs H ι h vs [x]) (j:∀ u,vs=[u]→RV H ι h u x→G):G:=rvsCons r fun u us e a b=>rvsNil b fun e2=>j u (by rw [e,e2]) a
theorem rvs2 {x y:V} (r:RVs H ι h vs [x,y]) (j:∀ u v,vs=[u,v]→RV H ι h u x→RV H ι h v y→G):G:=rvsCons r fun u us e a b=>rvs1 b fun v e2 c=>j u v (by rw [e,e2]) a c
end inv
end
section
variable {K:Cst}
theorem nf_of {o:Obj} {d:Data} (h:o.data=d) (hd:∀ vs,d≠.fields vs):notFields o:=fun vs e=>hd vs (h.symm.trans e)
theorem As.ns {h h':Heap} {a:Addr} {m:Str→Option Value} (x:h.Ns a m) (k:∀ o,h.get? a=some o→As K.tabs h' a o):h'.Ns a m:=by
 obtain ⟨o,es,ep,ho,hd,hs,hm⟩:=x;exact ⟨o,es,ep,(k o ho).get (nf_of hd (by intro _ e;cases e)),hd,hs,hm⟩
theorem As.cell {h h':Heap} {a:Addr} {v:Option Value} (x:h.IsCell a v) (k:∀ o,h.get? a=some o→As K.tabs h' a o):h'.IsCell a v:=by
 obtain ⟨o,ho,hd⟩:=x;exact ⟨o,(k o ho).get (nf_of hd (by intro _ e;cases e)),hd⟩
theorem ns_eq {h:Heap} {a:Addr} {m m':Str→Option Value} (x:h.Ns a m) (y:h.Ns a m'):∀ n,m n=m' n:=by
 obtain ⟨o,es,ep,ho,hd,_,hm⟩:=x;obtain ⟨o',es',ep',ho',hd',_,hm'⟩:=y;rw [Qw (ho.symm.trans ho'),hd'] at hd;cases hd;exact fun n=>(hm n).symm.trans (hm' n)
theorem Grow.ns {ι ι':List Addr} {h h':Heap} {a:Addr} {m:Str→Option Value} (G:Grow K.tabs ι ι' h h') (ha:a∉ι) (x:h.Ns a m):h'.Ns a m:=As.ns x fun o ho=>G.keep _ _ ha ho
theorem Grow.cell {ι ι':List Addr} {h h':Heap} {a:Addr} {v:Option Value} (G:Grow K.tabs ι ι' h h') (ha:a∉ι) (x:h.IsCell a v):h'.IsCell a v∧a∉ι':=by
 refine ⟨As.cell x fun o ho=>G.keep _ _ ha ho,?_⟩;obtain ⟨o,ho,_⟩:=x;exact G.not_mem ha ho
structure Kp (K:Cst) (H' ι ι':List Addr) (P:Addr→Prop) (h h':Heap):Prop extends Mvd K.hid ι h H' ι' h' where
 func:∀ a o fd,a∉ι→o.data=.func fd→h.get? a=some o→a∉ι'∧h'.get? a=some o
 code:∀ a o vs,a∉ι→o.cls=.type "code"→o.data=.fields vs→h.get? a=some o→a∉ι'∧h'.get? a=some o
 cell:∀ c v,P c→c∉ι→h.IsCell c v→c∉ι'∧h'.IsCell c v
section
variable {H' ι ι':List Addr} {P:Addr→Prop} {h h':Heap} (k:Kp K H' ι ι' P h h')
include k
theorem Kp.lamCode {cd:Value} (x:LamCode ι h cd):LamCode ι' h' cd:=by
 obtain ⟨c,q,rfl,hi,hq,o,ho,hcl⟩:=x;obtain ⟨c',o',vs,t,e1,e2,e3,e4⟩:=hq;obtain rfl:c=c':=Value.ref.inj e1;obtain rfl:o'=o:=Qw (e2.symm.trans ho);refine e02 (k.code c o' vs hi hcl e3 ho) fun z1 z2=>?_;exact ⟨c,q,rfl,z1,⟨c,o',vs,t,rfl,z2,e3,e4⟩,o',z2,hcl⟩
theorem Kp.rb {L:Addr} (hP:∀ c,c<L→P c) {v:Value} {b:B} (r:RB ι h K L v b):RB ι' h' (K.withH H') L v b:=by
 cases r with
 |val r=>exact .val (r.imp k.toMvd)
 |lam ha ho hd st cd cap clo=>
  refine nb fun kk=>?_;refine e02 (k.func _ _ _ ha hd ho) fun z1 z2=>?_;refine kk ?_;refine .lam z1 z2 hd st (k.lamCode cd) (fun y v e=>⟨(cap y v e).1,fun c e1=>?_⟩) fun y c e=>?_
  ·obtain ⟨r,e2,e3⟩:=(cap y v e).2 c e1;refine nb fun kk=>?_;refine e03 (clo y c e1) fun q1 q2 o_=>?_;refine kk ?_;exact ⟨r,(k.cell _ _ (hP c q2) q1 e2).2,e3.imp k.toMvd⟩
  ·obtain ⟨q1,q2,q3,v,q4⟩:=clo y c e;refine nb fun kk=>?_;refine e02 (k.cell _ _ (hP c q2) q1 q4) fun w1 w2=>?_;refine kk ?_;exact ⟨w1,q2,q3,v,w2⟩
theorem Kp.fr {env:Env} {sc:Scope} {ρ:Rho} (hP:∀ c,P c) (F:FrOk K ι h env sc ρ) (hL:env.locals∉ι')
  (hns:∀ m,h.Ns env.locals m→∃ m',h'.Ns env.locals m'∧m' ("_initial_size":Str)=m ("_initial_size":Str)∧∀ x,(ρ.lookup x).isSome→m' x=m x):FrOk (K.withH H') ι' h' env sc ρ:=
 {kind:=F.kind,names:=F.names,glob:=F.glob,blt:=F.blt,own:=F.own,apart:=F.apart,well:=F.well,code:=F.code,offL:=⟨hL,F.offL.2⟩
  ns:=by
   refine nb fun kk=>?_;refine e13 (F.ns) fun m hm hi hv=>?_;refine e13 (hns m hm) fun m' hm' hi' hv'=>?_;refine kk ?_;refine ⟨m',hm',hi'.trans hi,fun x b hk hb=>?_⟩;refine nb fun kk=>?_;refine e12 (hv x b hk hb) fun v e r=>?_;refine kk ?_;exact ⟨v,(hv' x (by rw [hb];rfl)).trans e,k.rb (fun c o_=>hP c) r⟩
  cell:=fun x b hk hb=>let ⟨c,v,e,hc,r⟩:=F.cell x b hk hb;⟨c,v,e,(k.cell _ _ (hP c) (F.offC x c e).1 hc).2,k.rb (fun c o_=>hP c) r⟩
  hasCell:=fun x hk=>let ⟨c,v,e,hc⟩:=F.hasCell x hk;⟨c,v,e,(k.cell _ _ (hP c) (F.offC x c e).1 hc).2⟩
  offC:=fun x c e=>let ⟨h1,h2,v,hc⟩:=F.offC x c e;let ⟨z1,z2⟩:=k.cell _ _ (hP c) h1 hc;⟨z1,h2,v,z2⟩ }
theorem Kp.hrel {a:Addr} {o:HO} (hs:∀ o items n,o.data=.seq items n→h.get? a=some o→h'.get? a=some o)
  (hd:∀ d m,d∉ι→h.Ns d m→m ("_initial_size":Str)≠none→d∉ι'∧∀ o,o.cls=.type "dict"→h.get? d=some o→h'.get? d=some o) (r:HRel K ι h a o):HRel (K.withH H') ι' h' a o:=by
 cases r with
 |lst ho hr=>exact .lst (hs _ _ _ rfl ho) (hr.imp k.toMvd)
 |acc ho hdi hn hk ht hr=>
  refine e12 (ht) fun o e1 e2=>?_;refine e02 (hd _ _ hdi hn (by rw [hk.1];exact fun y=>nomatch y)) fun z1 z2=>?_;exact .acc (hs _ _ _ rfl ho) z1 (As.ns (K:=K) hn fun o' e=>.inl (z2 o' (by rw [Qw (e.symm.trans e1)];exact e2) e)) hk ⟨o,z2 o e2 e1,e2⟩ (hr.imp k.toMvd)
end
theorem Kp.only {ι:List Addr} {h h':Heap} {X:Addr→Prop} (only:∀ b o,¬X b→h.get? b=some o→h'.get? b=some o) (hs:∀ b o items n,b∉ι→b∉K.hid→(o=tupObj items n∨o=lstObj items n)→h.get? b=some o→¬X b)
  (hf:∀ b o fd,o.data=.func fd→h.get? b=some o→¬X b) (hc:∀ b o vs,o.cls=.type "code"→o.data=.fields vs→h.get? b=some o→¬X b) {P:Addr→Prop} (hcell:∀ c v,P c→h.IsCell c v→¬X c):Kp K K.hid ι ι P h h':=
 {seq:=fun a o items n h1 h2 ho e=>⟨h1,h2,only a o (hs a o items n h1 h2 ho e) e⟩
  ref:=fun o_ o_ e=>e
  func:=fun a o fd h1 hd e=>⟨h1,only a o (hf a o fd hd e) e⟩
  code:=fun a o vs h1 h2 hd e=>⟨h1,only a o (hc a o vs h2 hd e) e⟩
  cell:=fun c v h0 h1 x=>⟨h1,let ⟨o,e1,e2⟩:=x;⟨o,only c o (hcell c v h0 x) e1,e2⟩⟩ }
theorem Grow.kp {ι ι':List Addr} {h h':Heap} (G:Grow K.tabs ι ι' h h'):Kp K K.hid ι ι' (fun o_=>True) h h':=
 {G.mvd with
  func:=fun a o fd h1 hd e=>⟨G.not_mem h1 e,(G.keep _ _ h1 e).get (nf_of hd (by intro _ e;cases e))⟩
  code:=fun a o vs h1 h2 hd e=>⟨G.not_mem h1 e,(G.keep _ _ h1 e).cls h2⟩
  cell:=fun c v o_ h1 x=>let ⟨z1,z2⟩:=G.cell h1 x;⟨z2,z1⟩ }
theorem RB.grow {ι ι':List Addr} {h h':Heap} {L:Addr} {v:Value} {b:B} (G:Grow K.tabs ι ι' h h') (r:RB ι h K L v b):RB ι' h' K L v b:=G.kp.rb (fun o_ o_=>trivial) r
theorem Heap.Ns.get {h:Heap} {a:Addr} {m:Str→Option Value} (x:h.Ns a m):∃ o,h.get? a=some o∧notFields o:=by
 obtain ⟨o,es,ep,ho,hd,_⟩:=x;exact ⟨o,ho,nf_of hd (by intro _ e;cases e)⟩
theorem FrOk.grow {ι ι':List Addr} {h h':Heap} {env:Env} {sc:Scope} {ρ:Rho} (F:FrOk K ι h env sc ρ) (G:Grow K.tabs ι ι' h h'):FrOk K ι' h' env sc ρ:=
 G.kp.fr (fun o_=>trivial) F (let ⟨_,hm,_⟩:=F.ns;let ⟨_,ho,_⟩:=Heap.Ns.get hm;G.not_mem F.offL.1 ho) fun m hm=>⟨m,G.ns F.offL.1 hm,rfl,fun o_ o_=>rfl⟩
noncomputable def CodeIn (ι:List Addr) (h:Heap) (cv:Value):Prop:=∃ c q o,cv=.ref c∧c∉ι∧h.CodeRec cv q∧h.get? c=some o∧o.cls=.type "code"
noncomputable def TabsOk (K:Cst) (ι:List Addr) (h:Heap):Prop:=∀ P∈K.tabs,P<K.N0∧∃ ps,h.get? P=some (tabObj ps)∧TriplesOk ps.toList∧∀ pos cv,codeAmong pos ps.toList=some cv→CodeIn ι h cv
theorem CodeIn.keep {ι ι':List Addr} {h h':Heap} {cv:Value} (x:CodeIn ι h cv) (hc:∀ c o vs,c∉ι→o.cls=.type "code"→o.data=.fields vs→h.get? c=some o→c∉ι'∧h'.get? c=some o):CodeIn ι' h' cv:=by
 obtain ⟨c,q,o,rfl,hi,hq,ho,hcl⟩:=x;obtain ⟨c',o',vs,t,e1,e2,e3,e4⟩:=hq;cases e1;obtain rfl:o'=o:=Qw (e2.symm.trans ho);refine e02 (hc c o' vs hi hcl e3 ho) fun z1 z2=>?_;exact ⟨c,q,o',rfl,z1,⟨c,o',vs,t,rfl,z2,e3,e4⟩,z2,hcl⟩
theorem TabsOk.keep {K K':Cst} {ι ι':List Addr} {h h':Heap} (x:TabsOk K ι h) (hK:K'.tabs=K.tabs∧K'.N0=K.N0) (ht:∀ P o,P<K.N0→h.get? P=some o→h'.get? P=some o)
  (hc:∀ c o vs,c∉ι→o.cls=.type "code"→o.data=.fields vs→h.get? c=some o→c∉ι'∧h'.get? c=some o):TabsOk K' ι' h':=by
 intro P hP;rw [hK.1] at hP;refine nb fun kk=>?_;refine e02 (x P hP) fun h1 qz=>?_;obtain ⟨ps,h2,h3,h4⟩:=qz;refine kk ?_;exact ⟨hK.2▸h1,ps,ht P _ h1 h2,h3,fun pos cv e=>(h4 pos cv e).keep hc⟩
theorem TabsOk.exact {K K':Cst} {ι:List Addr} {h h':Heap} (x:TabsOk K ι h) (hK:K'.tabs=K.tabs∧K'.N0=K.N0) (k:∀ b o,h.get? b=some o→h'.get? b=some o):TabsOk K' ι h':=
 x.keep hK (fun P o o_ e=>k P o e) fun c o o_ hi o_ o_ e=>⟨hi,k c o e⟩
structure In0 (K:Cst) (T:Heap→Prop) (ι:List Addr) (σ:St) (s:Shared):Prop where
 top:T s.heap
 rel:StRel K ι s.heap σ
 gens:AllBare s.gens
 codes:TabsOk K ι s.heap
structure Nx (K:Cst) (T:Heap→Prop) (lo:Nat) (σ':St) (ι ι':List Addr) (s s':Shared):Prop where
 grow:Grow K.tabs ι ι' s.heap s'.heap
 keep:∀ b o,b∉ι.drop lo→s.heap.get? b=some o→As K.tabs s'.heap b o
 inn:In0 K T ι' σ' s'
 os:s'.os=s.os
 gm:∀ (g:Nat) x,s.gens[g]?=some x→s'.gens[g]?=some x
theorem Nx.refl {T:Heap→Prop} {lo:Nat} {σ:St} {ι:List Addr} {s:Shared} (I:In0 K T ι σ s):Nx K T lo σ ι ι s s:=⟨.refl _ _,fun o_ o_ o_ e=>.inl e,I,rfl,fun o_ o_ e=>e⟩
theorem Nx.trans {T:Heap→Prop} {lo:Nat} {σ₁ σ₂:St} {ι ι₁ ι₂:List Addr} {s s₁ s₂:Shared} (x:Nx K T lo σ₁ ι ι₁ s s₁) (y:Nx K T lo σ₂ ι₁ ι₂ s₁ s₂):Nx K T lo σ₂ ι ι₂ s s₂:=by
 refine ⟨x.grow.trans y.grow,fun b o hb e=>(x.keep b o hb e).trans fun o' e'=>y.keep b o' ?_ e',y.inn,y.os.trans x.os,fun g x' e=>y.gm g x' (x.gm g x' e)⟩;refine e12 (x.grow.pre) fun news qz1 hn=>?_;obtain rfl:=qz1;rw [List.drop_append];intro hm;rcases Wx hm with hm|hm
 ·exact hb hm
 ·rw [hn b (List.mem_of_mem_drop hm)] at e;cases e
noncomputable def Ok (A:Around) (n:Nat):Prop:=A.depth+n+40<900∧A.units+16*n+1000<9900∧A.handled=none
theorem Ok.room {A:Around} {n:Nat} (x:Ok A n):A.depth<900:=Nat.lt_of_le_of_lt (Qy (Nat.le_add_right _ n) (Nat.le_add_right _ 40)) x.1
theorem Ok.room2 {A:Around} {n:Nat} (x:Ok A n):A.depth+2<900:=Nat.lt_of_le_of_lt (Qy (Nat.add_le_add (Nat.le_add_right _ n) (by decide:2≤40)) (Nat.le_refl _)) x.1
theorem Ok.unit2 {A:Around} {n:Nat} (x:Ok A n):A.units+2<9900:=Nat.lt_of_le_of_lt (Qy (Nat.add_le_add_left (by decide:2≤1000) _) (Nat.add_le_add_right (Nat.le_add_right _ _) 1000)) x.2.1
theorem Ok.down {A:Around} {n k:Nat} (x:Ok A n) (h:k≤n):Ok A k:=⟨Nat.lt_of_le_of_lt (Nat.add_le_add_right (Nat.add_le_add_left h _) 40) x.1,Nat.lt_of_le_of_lt (Nat.add_le_add_right (Nat.add_le_add_left (Nat.mul_le_mul_left 16 h) _) 1000) x.2.1,x.2.2⟩
noncomputable def Deep (A:Around):Prop:=Ok A 1
theorem Ok.deep {A:Around} {n:Nat} (x:Ok A (n+1)):Deep A:=x.down (Nat.le_add_left 1 n)
end
end Mine.Internal
end
section
open PySem PySem.W PyProof.Rows
open PySem.Calls PySem.Spec
set_option tactic.hygienic false
namespace Mine.Internal
section
variable {K:Cst} {T:Heap→Prop}
noncomputable def Mono (K:Cst) (T:Heap→Prop):Prop:=∀ {h h':Heap},T h→(∀ b o,b<K.N0→h.get? b=some o→As K.tabs h' b o)→T h'
structure Up (tb:List Addr) (h h':Heap):Prop where
 keep:∀ b o,h.get? b=some o→As tb h' b o
theorem Up.refl {tb:List Addr} (h:Heap):Up tb h h:=⟨fun o_ o_ e=>.inl e⟩
theorem Up.trans {tb:List Addr} {h h' h'':Heap} (x:Up tb h h') (y:Up tb h' h''):Up tb h h'':=⟨fun b o e=>(x.keep b o e).trans fun o' e'=>y.keep b o' e'⟩
theorem Up.push {tb:List Addr} (h:Heap) (o:Obj):Up tb h (h.push o):=⟨fun o_ o_ e=>.inl (Qg _ e)⟩
theorem Up.of_keep {tb:List Addr} {h h':Heap} (k:∀ b o,h.get? b=some o→h'.get? b=some o):Up tb h h':=⟨fun b o e=>.inl (k b o e)⟩
theorem Up.grow {tb:List Addr} {h h':Heap} (x:Up tb h h') (ι:List Addr):Grow tb ι ι h h':=⟨⟨[],by simp,by simp⟩,fun b o o_ e=>x.keep b o e,fun b o o_ e=>(x.keep b o e).isome⟩
theorem HRel.up {ι:List Addr} {h h':Heap} {a:Addr} {o:HO} (r:HRel K ι h a o) (x:Up K.tabs h h'):HRel K ι h' a o:=
 (x.grow ι).kp.hrel (fun o_ o_ o_ hd e=>(x.keep _ _ e).get (nf_of hd (by intro _ e;cases e))) (fun d m hi o_ o_=>⟨hi,fun o_ hc e=>(x.keep _ _ e).cls hc⟩) r
theorem StRel.up {ι:List Addr} {h h':Heap} {σ:St} (r:StRel K ι h σ) (x:Up K.tabs h h'):StRel K ι h' σ:=
 ⟨r.len,r.nodup,r.low,fun a ha=>let ⟨o,e⟩:=r.hid a ha;(x.keep a o e).isome,fun i o e=>let ⟨a,h1,h2⟩:=r.obj i o e;⟨a,h1,h2.up x⟩⟩
structure Ux (h h':Heap):Prop where
 keep:∀ b o,h.get? b=some o→h'.get? b=some o
theorem Ux.refl (h:Heap):Ux h h:=⟨fun o_ o_ e=>e⟩
theorem Ux.trans {h h' h'':Heap} (x:Ux h h') (y:Ux h' h''):Ux h h'':=⟨fun b o e=>y.keep b o (x.keep b o e)⟩
theorem Ux.push (h:Heap) (o:Obj):Ux h (h.push o):=⟨fun o_ o_ e=>Qg _ e⟩
theorem Ux.of_keep {h h':Heap} (k:∀ b o,h.get? b=some o→h'.get? b=some o):Ux h h':=⟨k⟩
theorem Ux.up {tb:List Addr} {h h':Heap} (x:Ux h h'):Up tb h h':=.of_keep x.keep
theorem In0.up {ι:List Addr} {σ:St} {s s':Shared} (hT:Mono K T) (I:In0 K T ι σ s) (x:Ux s.heap s'.heap) (hg:AllBare s'.gens):In0 K T ι σ s':=
 ⟨hT I.top fun b o o_ e=>.inl (x.keep b o e),I.rel.up x.up,hg,I.codes.exact ⟨rfl,rfl⟩ x.keep⟩
theorem Nx.up {ι:List Addr} {σ:St} {s s':Shared} {lo:Nat} (hT:Mono K T) (I:In0 K T ι σ s) (x:Ux s.heap s'.heap) (hg:s'.gens=s.gens) (ho:s'.os=s.os):Nx K T lo σ ι ι s s':=
 ⟨x.up.grow ι,fun b o o_ e=>.inl (x.keep b o e),I.up hT x (hg▸I.gens),ho,fun g x e=>by rw [hg];exact e⟩
theorem Nx.tok {ι:List Addr} {σ:St} {s:Shared} {lo:Nat} (I:In0 K T ι σ s) (tk:Nat):Nx K T lo σ ι ι s { s with toks:=tk }:=
 ⟨.refl _ _,fun o_ o_ o_ e=>.inl e,⟨I.top,I.rel,I.gens,I.codes⟩,rfl,fun o_ o_ e=>e⟩
theorem Nx.heap {ι:List Addr} {σ:St} {s:Shared} {lo:Nat} (hT:Mono K T) (I:In0 K T ι σ s) {h':Heap} (x:Ux s.heap h') (tk:Nat):Nx K T lo σ ι ι s { s with heap:=h',toks:=tk }:=
 .up hT I x rfl rfl
theorem lt_of_mem {ι:List Addr} {h:Heap} {σ:St} (r:StRel K ι h σ) {a:Addr} (ha:a∈ι):a<h.objs.size:=by
 obtain ⟨i,hi,e⟩:=List.getElem_of_mem ha;have hs:i<σ.length:=r.len▸hi;refine e12 (r.obj i σ[i] (Qv hs)) fun b hb hr=>?_;rw [Qv hi] at hb;obtain rfl:a=b:=by rw [←e];exact Qw hb
 generalize σ[i]=o at hr;cases hr with
 |lst ho _=>exact Heap.lt_size ho
 |acc ho=>exact Heap.lt_size ho
theorem fresh_not_mem {ι:List Addr} {h:Heap} {σ:St} (r:StRel K ι h σ):h.objs.size∉ι:=fun hm=>absurd (lt_of_mem r hm) (Nat.lt_irrefl _)
theorem fresh_not_hid {ι:List Addr} {h:Heap} {σ:St} (r:StRel K ι h σ):h.objs.size∉K.hid:=fun hm=>by
 refine e11 (r.hid _ hm) fun o e=>?_;exact absurd (Heap.lt_size e) (Nat.lt_irrefl _)
theorem RV.newList {ι:List Addr} {h:Heap} {σ:St} (r:StRel K ι h σ) {items:Array Value} {n:Nat} {l:List V} (hl:RVs K.hid ι h items.toList l):RV K.hid ι (h.push (lstObj items n)) (.ref h.objs.size) (.fro l):=
 .fro (fresh_not_mem r) (fresh_not_hid r) (Heap.get?_push_size _ rfl) (hl.grow ((Up.push (tb:=K.tabs) h _).grow ι))
theorem RV.newTup {ι:List Addr} {h:Heap} {σ:St} (r:StRel K ι h σ) {items:Array Value} {n:Nat} {l:List V} (hl:RVs K.hid ι h items.toList l):RV K.hid ι (h.push (tupObj items n)) (.ref h.objs.size) (.tup l):=
 .tup (fresh_not_mem r) (fresh_not_hid r) (Heap.get?_push_size _ rfl) (hl.grow ((Up.push (tb:=K.tabs) h _).grow ι))
theorem seqOf_at {ι:List Addr} {h:Heap} {σ:St} (r:StRel K ι h σ) {v:Value} {x:V} {l:List V} (e:seqOf σ x=some l) (hv:RV K.hid ι h v x):
  ∃ a items n,v=.ref a∧h.get? a=some (lstObj items n)∧RVs K.hid ι h items.toList l:=by
 refine iSeq e (fun q=>?_) fun i q hσ=>?_
 ·exact rvFro (q▸hv) fun a items n z o_ o_ ho hr=>(xi3 a items n ⟨z,ho,hr⟩)
 ·refine rvRef (q▸hv) fun a z hi=>?_;refine nb fun kk=>?_;refine e12 (r.obj i _ hσ) fun b hb hr=>?_;refine kk ?_;obtain rfl:a=b:=Qw (hi.symm.trans hb);cases hr with
  |lst ho hl=>exact (xi3 _ _ _ ⟨z,ho,hl⟩)
variable {prog:Program} {w:World}
theorem RVs.size {ι:List Addr} {h:Heap} {items:Array Value} {l:List V} (r:RVs K.hid ι h items.toList l):items.size=l.length:=by
 have:=r.length;simpa using this
theorem lstObj_isList {h:Heap} {a:Addr} {items:Array Value} {n:Nat} (ho:h.get? a=some (lstObj items n)):h.IsList a items:=⟨_,ho,rfl,_,rfl⟩
theorem tupObj_isTuple {h:Heap} {a:Addr} {items:Array Value} {n:Nat} (ho:h.get? a=some (tupObj items n)):h.IsTuple a items:=⟨_,ho,rfl,_,rfl⟩
theorem small_bits {x:Int} (h:smallI x=true):Builtin.Int.intBits x≤64:=by
 simp only [smallI,decide_eq_true_eq] at h;exact PySem.W.X.bits_is rfl▸PySem.W.X.bits_le (by omega) (by omega)
theorem mul_ok {x y:Int} (hx:smallI x=true):IntMulOk x y:=by
 have:=small_bits hx;unfold IntMulOk shortFactorBits;intro h;simp only [Bool.and_eq_true,decide_eq_true_eq] at h;omega
theorem truth_ok {A:Around} {E:Value→Shared→Prop} {ι:List Addr} {σ:St} {s:Shared} {v:Value} {x:V} {b:Bool} {Q:Bool→Shared→Prop}
  (e:truth σ x=some b) (hv:RV K.hid ι s.heap v x) (h:∀ tk,Q b { s with toks:=tk }):wpAny (model prog w) A (truthy v) Q E s:=by
 refine iTruth e (fun q z=>?_) (fun q=>?_) fun i q z=>?_
 ·exact rvNone (q▸hv) fun y=>by rw [y];rw [z] at h;exact fun o_ o_ o_=>h s.toks
 ·exact rvBool (q▸hv) fun y=>by rw [y];exact wpAny_truthy_bool (h s.toks)
 ·refine rvInt (q▸hv) fun t y=>?_;rw [y];refine truthy_int ?_;rw [show (i !=0)=b from z▸(by by_cases h:i=0<;>simp [h])];exact h s.toks
theorem un_ok {A:Around} {E:Value→Shared→Prop} {ι:List Addr} {σ:St} {s:Shared} {v:Value} {x y:V} {op:UnaryOp} {Q:Value→Shared→Prop}
  (e:unV op σ x=some y) (hv:RV K.hid ι s.heap v x) (h:∀ r tk,RV K.hid ι s.heap r y→Q r { s with toks:=tk }):wpAny (model prog w) A (unaryOp op v) Q E s:=by
 refine iUn e (fun i q1 q2 q3=>?_) fun b q1 hb q2=>?_
 ·exact rvInt (q2▸hv) fun t z=>by rw [z,q1];exact neg_int (h _ _ (q3▸.int _ _))
 ·rw [q1];exact not_value (truth_ok hb hv fun tk=>h _ _ (q2▸.bool _))
end
section
variable {K:Cst} {T:Heap→Prop} {prog:Program} {w:World} {A:Around} {E:Value→Shared→Prop} {ι:List Addr} {σ:St} {s:Shared}
theorem asc_append {x y:Str} (hx:asc x=true) (hy:asc y=true):asc (x++y)=true:=by
 obtain e:(x++y).cps.toList=x.cps.toList++y.cps.toList:=by
  show (x.cps++y.cps).toList=_;simp
 unfold asc at *
 rw [e,List.all_append,hx,hy];rfl
theorem asc_sub {x:Str} {l:List Nat} (hx:asc x=true) (hl:∀ c∈l,c∈x.cps.toList):asc ⟨l.toArray⟩=true:=by
 unfold asc at *
 rw [List.all_eq_true] at *
 intro c hc;exact hx c (hl c (by simpa using hc))
theorem mem_rep {α:Type} {k:Nat} {l:List α} {c:α} (h:c∈rep k l):c∈l:=by
 simp only [rep,List.mem_flatten] at h;refine e12 (h) fun l' h1 h2=>?_;rw [List.eq_of_mem_replicate h1] at h2;exact h2
theorem foldl_cps (k:Nat) (x:Array Nat):(List.foldl (fun x1 x2=>x1++x2) #[] (List.replicate k x))=(rep k x.toList).toArray:=by
 obtain gen:∀ (ls:List (Array Nat)) (acc:Array Nat),(List.foldl (fun x1 x2=>x1++x2) acc ls)=acc++(ls.map Array.toList).flatten.toArray:=by
  intro ls
  induction ls with
  |nil=>intro acc;simp
  |cons a r ih=>intro acc;rw [List.foldl_cons,ih];apply Array.ext';simp
 rw [gen];simp [rep,List.map_replicate]
set_option tactic.hygienic true in
theorem mul_str_is (x:Str) (n:Int):Txt.mul x n=⟨(rep n.toNat x.cps.toList).toArray⟩:=by
 unfold Txt.mul
 split
 ·have:n.toNat=0:=by omega
  rw [this];rfl
 ·split
  ·rename_i h1 h2
   simp only [Bool.or_eq_true,beq_iff_eq] at h2;rcases h2 with h2|h2
   ·subst h2;simp [rep]
   ·have:x.cps=#[]:=by
     have:x.cps.size=0:=h2;exact Array.eq_empty_of_size_eq_zero this
    obtain ⟨c⟩:=x;subst this;simp [rep]
  ·rw [foldl_cps]
theorem binI_ok {op:Operator} {x y:Int} {t u:Tok} {c:V} {Q:Value→Shared→Prop} (e:binI op x y=some c) (h:∀ z tk k,c=.int z→Q (.int z tk) { s with toks:=k }):
  wpAny (model prog w) A (binaryOp op (.int x t) (.int y u)) Q E s:=by
 cases op with
 |Add=>exact add_int (h _ _ _ (Qw e).symm)
 |Sub=>exact sub_int (h _ _ _ (Qw e).symm)
 |Mult=>exact iT e fun hs e=>mul_int (h _ _ _ (Qw e).symm) (mul_ok (and_l hs))
 |FloorDiv=>
  refine iT e fun hs e=>floordiv_int (of_decide_eq_false (notTF (and_l hs))) (h _ _ _ (Qw e).symm) (.inl ?_);obtain hy:=and_r hs;obtain hb':=small_bits hy;obtain h1:y.natAbs<2^63:=natAbsLt (of_decide_eq_true hy);obtain h2:y.natAbs.log2<64:=by
   by_cases z:y.natAbs=0
   ·rw [z];decide
   ·exact (Nat.log2_lt z).mpr (by omega)
  unfold Builtin.divisionGoesByPylong;simp only [Bool.and_eq_false_iff,decide_eq_false_iff_not];left
  split<;>omega
 |Mod=>exact iT e fun hs e=>mod_int' (of_decide_eq_false (notTF hs)) (h _ _ _ (Qw e).symm)
 |Pow=>
  refine iT e fun hs e=>pow_int (of_decide_eq_true (and_l (and_l hs))) ?_ (h _ _ _ (Qw e).symm);obtain h0:=of_decide_eq_true (and_l (and_l hs));obtain h1:=of_decide_eq_true (and_r (and_l hs));obtain hb':=small_bits (and_r hs);have:(Builtin.Int.intBits x:Int)*y≤64*4096:=Int.mul_le_mul (by omega) h1 h0 (by omega);omega
 |_=>exact noN e
theorem mulS_ok {x:Str} {y:Int} {t u:Tok} {Q:Value→Shared→Prop} (h1:x.length≤64) (h2:-64≤y) (h3:y≤64) (h:∀ tk k,Q (.str ⟨(rep y.toNat x.cps.toList).toArray⟩ tk) { s with toks:=k }):
  wpAny (model prog w) A (binaryOp .Mult (.str x t) (.int y u)) Q E s:=by
 refine SB.mul ?_ fun t' k=>?_
 ·refine ⟨by simp;omega,fun h4 h5=>?_,fun h4 h5=>?_⟩
  ·obtain h3:(1:Int)≤y:=by omega
   obtain h4:(x.length:Int)≤64:=by omega
   have:(64:Int)≤(2^63-1)/y:=by
    rw [Int.le_ediv_iff_mul_le (by omega)];omega
   omega
  ·have:x.length*y.toNat≤64*64:=Nat.mul_le_mul h1 (by omega);simp [Builtin.Str.tooLong,sizeLine];omega
 ·rw [mul_str_is];exact h _ _
theorem bin_ok {op:Operator} {va vb:Value} {a b c:V} {lo:Nat} {Q:Value→Shared→Prop} (hT:Mono K T) (I:In0 K T ι σ s)
  (e:binV σ op a b=some c) (ha:RV K.hid ι s.heap va a) (hb:RV K.hid ι s.heap vb b)
  (h:∀ v s',Nx K T lo σ ι ι s s'→RV K.hid ι s'.heap v c→Q v s'):wpAny (model prog w) A (binaryOp op va vb) Q E s:=by
 obtain fin:∀ v k,RV K.hid ι s.heap v c→Q v { s with toks:=k }:=fun v k r=>h _ _ (Nx.tok I k) r;refine iBin e (fun x y q1 q2 e=>?_) (fun x y q1 q2 q3 hl q4=>?_) (fun x y q1 q2 q3 g1 g2 g3 q4=>?_) fun l r hl hr q3 hlen q4=>?_
 ·exact rvInt (q1▸ha) fun t z1=>rvInt (q2▸hb) fun u z2=>by
   rw [z1,z2];exact binI_ok e fun z tk k q=>fin _ _ (q▸.int _ _)
 ·exact rvStr (q1▸ha) fun t z1 ax=>rvStr (q2▸hb) fun u z2 ay=>by
   rw [z1,z2,q3];exact add_str (fun t' tk=>fin _ _ (q4▸.str _ (asc_append ax ay))) (Qy hl (by decide))
 ·exact rvStr (q1▸ha) fun t z1 ax=>rvInt (q2▸hb) fun u z2=>by
   rw [z1,z2,q3];exact mulS_ok g1 g2 g3 fun tk k=>fin _ _ (q4▸.str _ (asc_sub ax fun c hc=>mem_rep hc))
 ·obtain ⟨p,i1,n1,z1,ho1,hr1⟩:=seqOf_at I.rel hl ha;refine nb fun kk=>?_;refine e33 (seqOf_at I.rel hr hb) fun q i2 n2 z2 ho2 hr2=>?_;refine kk ?_;rw [z1,z2,q3];refine PySem.P.add_list ho1 ho2 ?_ (by rw [hr1.size,hr2.size];exact Qy hlen (by decide));exact h _ _ (Nx.heap hT I (Ux.push _ _) _) (q4▸RV.newList I.rel (by rw [Array.toList_append];exact hr1.append hr2))
end
end Mine.Internal
end
section
open PySem PySem.W PyProof.Rows
open PySem.Calls PySem.Spec
open PySem.MeetsSeq PySem.MeetsSeq2 PySem.MeetsSeq3 PySem.SeqRoads2 PySem.SeqAt
set_option tactic.hygienic false
namespace Mine.Internal
section
variable {K:Cst} {T:Heap→Prop} {prog:Program} {w:World} {A:Around} {E:Value→Shared→Prop} {ι:List Addr} {σ:St} {s:Shared}
structure Rd (h:Heap) (v:Value) (d:PyData) (n:Nat):Prop where
 lay:d.canLay0=true
 depth:d.depth≤n
 reads:∃ fp,Reads h v d fp
structure Rds (h:Heap) (v:List Value) (d:List PyData) (n:Nat):Prop where
 lay:PyData.canLayAll0 d=true
 depth:PyData.depthAll d≤n
 reads:∃ fp,ReadsAll h v d fp
theorem Rds.nil (h:Heap) (n:Nat):Rds h [] [] n:=⟨rfl,Nat.zero_le _,_,.nil⟩
theorem Rds.cons {h:Heap} {v:Value} {d:PyData} {vs:List Value} {ds:List PyData} {n:Nat} (x:Rd h v d n) (y:Rds h vs ds n):Rds h (v::vs) (d::ds) n:=by
 refine e11 (x.reads) fun fp hf=>?_;refine e11 (y.reads) fun gp hg=>?_;refine ⟨?_,?_,_,.cons hf hg⟩
 ·simp [PyData.canLayAll0,x.lay,y.lay]
 ·simpa [PyData.depthAll] using Nat.max_le.mpr ⟨x.depth,y.depth⟩
theorem strOk_of_asc {x:Str} (h:asc x=true):PyData.strOk x=true:=by
 unfold asc at h;unfold PyData.strOk;rw [Array.all_eq_true];rw [List.all_eq_true] at h;intro i hi;have:=h x.cps[i] (by simp);simp at this⊢;omega
theorem rd_none (h:Heap) (n:Nat):Rd h .none .none n:=⟨rfl,Nat.zero_le _,_,.none⟩
theorem rd_bool (h:Heap) (n:Nat) (b:Bool):Rd h (.bool b) (.bool b) n:=⟨rfl,Nat.zero_le _,_,.bool b⟩
theorem rd_int (h:Heap) (n:Nat) (i:Int) (t:Tok):Rd h (.int i t) (.int i) n:=⟨rfl,Nat.zero_le _,_,.int i t⟩
theorem rd_str (h:Heap) (n:Nat) {x:Str} (t:Tok) (a:asc x=true):Rd h (.str x t) (.str x) n:=⟨strOk_of_asc a,Nat.zero_le _,_,.str x t⟩
theorem Rds.list {h:Heap} {a:Addr} {items:Array Value} {m n:Nat} {ds:List PyData} (x:Rds h items.toList ds n) (ho:h.get? a=some (lstObj items m)):Rd h (.ref a) (.list ds) (n+1):=
 ⟨x.lay,by rw [PyData.depth];exact Nat.succ_le_succ x.depth,let ⟨fp,hf⟩:=x.reads;⟨_,.list ho rfl rfl hf⟩⟩
theorem Rds.tuple {h:Heap} {a:Addr} {items:Array Value} {m n:Nat} {ds:List PyData} (x:Rds h items.toList ds n) (ho:h.get? a=some (tupObj items m)):Rd h (.ref a) (.tuple ds) (n+1):=
 ⟨x.lay,by rw [PyData.depth];exact Nat.succ_le_succ x.depth,let ⟨fp,hf⟩:=x.reads;⟨_,.tuple ho rfl rfl hf⟩⟩
theorem mapO_rd {f:V→Option PyData} {ι:List Addr} {h:Heap} {n:Nat} (one:∀ x d v,f x=some d→RV K.hid ι h v x→Rd h v d n):∀ (xs:List V) (ds:List PyData) (vs:List Value),mapO f xs=some ds→RVs K.hid ι h vs xs→Rds h vs ds n:=by
 intro xs
 induction xs with
 |nil=>intro ds vs e hv;exact rvsNil hv fun q=>by rw [q,←Qw e];exact .nil _ _
 |cons x xs ih=>intro ds vs e hv;exact iMapO e fun y ys e1 e2 q=>rvsCons hv fun u us z a b=>by rw [←q,z];exact .cons (one _ _ _ e1 a) (ih _ _ e2 b)
theorem toDσ_rd (r:StRel K ι s.heap σ):∀ (n:Nat) (x:V) (d:PyData) (v:Value),toDσ σ n x=some d→RV K.hid ι s.heap v x→Rd s.heap v d n:=by
 intro n
 induction n with
 |zero=>
  intro x d v e hv;cases x with
  |none=>exact rvNone hv fun q=>by rw [q,←Qw e];exact rd_none _ _
  |bool b=>exact rvBool hv fun q=>by rw [q,←Qw e];exact rd_bool _ _ _
  |int i=>exact rvInt hv fun t q=>by rw [q,←Qw e];exact rd_int _ _ _ _
  |str x=>exact rvStr hv fun t q a=>by rw [q,←Qw e];exact rd_str _ _ _ a
  |_=>exact noN e
 |succ n ih=>
  intro x d v e hv;cases x with
  |none=>exact rvNone hv fun q=>by rw [q,←Qw e];exact rd_none _ _
  |bool b=>exact rvBool hv fun q=>by rw [q,←Qw e];exact rd_bool _ _ _
  |int i=>exact rvInt hv fun t q=>by rw [q,←Qw e];exact rd_int _ _ _ _
  |str x=>exact rvStr hv fun t q a=>by rw [q,←Qw e];exact rd_str _ _ _ a
  |tup l=>exact mI e fun ds e1 q=>rvTup hv fun a items m z o_ o_ ho hr=>by rw [z,←q];exact (mapO_rd ih _ _ _ e1 hr).tuple ho
  |fro l=>exact mI e fun ds e1 q=>rvFro hv fun a items m z o_ o_ ho hr=>by rw [z,←q];exact (mapO_rd ih _ _ _ e1 hr).list ho
  |ref i=>
   exact bI e fun xs e0 e=>mI e fun ds e1 q=>by
    refine e33 (seqOf_at r (x:=.ref i) e0 hv) fun a items m z ho hr=>?_;rw [z,←q];exact (mapO_rd ih _ _ _ e1 hr).list ho
  |fn=>exact noN e
theorem units_ok {n:Nat} (h:Ok A n):A.units+32+70<cLine:=by
 have:=h.2.1;exact Nat.lt_of_le_of_lt (show A.units+102≤A.units+16*n+1000 from Nat.add_le_add (Nat.le_add_right A.units (16*n)) (by decide)) this
theorem units_min {u a b:Nat} (h:u+32+70<cLine) (d:a≤32):u+min a b<cLine:=Nat.lt_of_le_of_lt (Nat.add_le_add_left (Qy (Nat.min_le_left a b) d) u) (Nat.lt_of_le_of_lt (Nat.le_add_right _ 70) h)
theorem Rd.mono {h:Heap} {v:Value} {d:PyData} {n m:Nat} (x:Rd h v d n) (hm:n≤m):Rd h v d m:=⟨x.lay,Qy x.depth hm,x.reads⟩
theorem in_str_one {x y:Str} {c:Nat} (e:x.cps.toList=[c]):Txt.contains y x=y.cps.toList.contains c:=by
 obtain ⟨⟨l⟩⟩:=x;have:l=[c]:=e;subst this;unfold Txt.contains;rw [StrLaws.found_one]
 by_cases h:c∈y.cps.toList<;>simp [h]
theorem cmpE_ok {n:Nat} {va vb:Value} {a b:V} {c:Bool} (r:StRel K ι s.heap σ) (e:cmpE σ a b=some c) (ha:RV K.hid ι s.heap va a) (hb:RV K.hid ι s.heap vb b) {G:Prop}
  (j:∀ x y fp gp,Reads s.heap va x fp→Reads s.heap vb y gp→x.canLay0=true→y.canLay0=true→x.depth≤32→PyData.eqv x y=c→G):G:=
 bI e fun x hx e=>mI e fun y hy q=>by
  obtain ⟨l1,d1,_,h1⟩:=toDσ_rd r _ _ _ _ hx ha;obtain ⟨l2,d2,_,h2⟩:=toDσ_rd r _ _ _ _ hy hb;exact j x y _ _ h1 h2 l1 l2 d1 q
theorem is_ok {va vb:Value} {a b:V} {c:Bool} {Q:Value→Shared→Prop} (e:cmpV σ .Is a b=some c) (ha:RV K.hid ι s.heap va a) (hb:RV K.hid ι s.heap vb b) (hQ:Q (.bool c) s):wpAny (model prog w) A (compareOp .Is va vb) Q E s:=by
 refine iIs e (fun q e=>?_) fun x y q1 q2 q3=>?_
 ·refine rvNone (q▸hb) fun z=>?_;rw [z];cases ha with
  |none=>exact is_none (show Q (.bool true) s from (Qw e).symm▸hQ)
  |bool=>exact is_none (show Q (.bool false) s from (Qw e).symm▸hQ)
  |int=>exact is_none (show Q (.bool false) s from (Qw e).symm▸hQ)
  |fn=>exact is_none (show Q (.bool false) s from (Qw e).symm▸hQ)
  |_=>exact noN e
 ·exact rvBool (q1▸ha) fun z1=>rvBool (q2▸hb) fun z2=>by
   rw [z1,z2];refine wpAny_is_plain rfl ?_;rw [q3] at hQ;cases x<;>cases y<;>exact hQ
theorem cmp_ok {n:Nat} {op:CmpOp} {va vb:Value} {a b:V} {c:Bool} {Q:Value→Shared→Prop} (r:StRel K ι s.heap σ) (hA:Ok A n)
  (e:cmpV σ op a b=some c) (ha:RV K.hid ι s.heap va a) (hb:RV K.hid ι s.heap vb b)
  (h:∀ tk,Q (.bool c) { s with toks:=tk }):wpAny (model prog w) A (compareOp op va vb) Q E s:=by
 obtain hQ:Q (.bool c) s:=h s.toks;clear h;obtain hu:=units_ok hA;obtain nums:∀ {f:Int→Int→Bool} {X:Value→Value→Prop},(∀ {x y t u},(c=f x y)→X (.int x t) (.int y u))→cmpI f a b=some c→X va vb:=fun k e=>
  iCmpI e fun x y q1 q2 q3=>rvInt (q1▸ha) fun t z1=>rvInt (q2▸hb) fun u z2=>by rw [z1,z2];exact k q3
 cases op with
 |Eq=>exact cmpE_ok (n:=n) r e ha hb fun x y o_ o_ h1 h2 l1 l2 d q=>compareEq_reads h1 h2 l1 l2 (units_min hu d) (by rw [q];exact hQ)
 |NotEq=>exact mI (show (cmpE σ a b).map _=_ from e) fun z e q=>cmpE_ok (n:=n) r e ha hb fun x y o_ o_ h1 h2 l1 l2 d q2=>compareNe_reads h1 h2 l1 l2 (units_min hu d) (by rw [q2];rw [←q] at hQ;exact hQ)
 |Lt=>exact nums (f:=fun x y=>decide (x<y)) (X:=fun va vb=>wpAny (model prog w) A (compareOp .Lt va vb) Q E s) (fun q=>PyProof.Rows.lt_int (q▸hQ)) e
 |LtE=>exact nums (f:=fun x y=>decide (x≤y)) (X:=fun va vb=>wpAny (model prog w) A (compareOp .LtE va vb) Q E s) (fun q=>PyProof.Rows.le_int (q▸hQ)) e
 |Gt=>exact nums (f:=fun x y=>decide (y<x)) (X:=fun va vb=>wpAny (model prog w) A (compareOp .Gt va vb) Q E s) (fun q=>PyProof.Rows.gt_int (q▸hQ)) e
 |Is=>exact is_ok e ha hb hQ
 |IsNot=>
  exact iIsB (f:=fun x y=>x !=y) e fun x y q1 q2 q3=>rvBool (q1▸ha) fun z1=>rvBool (q2▸hb) fun z2=>by
   rw [z1,z2];refine wpAny_isNot_plain rfl ?_;rw [q3] at hQ;cases x<;>cases y<;>exact hQ
 |NotIn=>
  exact mI (show (inS a b).map _=_ from e) fun z e q=>iInS e fun x y n q1 q2 q3 q4=>rvStr (q1▸ha) fun t z1 ax=>rvStr (q2▸hb) fun u z2 ay=>by
   rw [z1,z2];refine SB.notContains ?_;rw [in_str_one q3,←q4];rw [←q] at hQ;exact hQ
 |_=>exact noN e
theorem place_seq {n:Nat} {i:Int} {k:Nat} (e:place n i=some k):seqIndex? i n=some k∧(-(2^63:Int))≤i∧i<(2^63:Int)∧k<n:=by
 refine iT e fun hs e=>?_;obtain hs:=of_decide_eq_true hs;unfold seqIndex?;refine iB e (fun h0 e=>iD e fun h1 e=>?_) fun h0 e=>iD e fun h1 e=>?_
 ·obtain h0:=of_decide_eq_true h0;obtain rfl:=Qw e;refine ⟨?_,Int.le_of_lt hs.1,hs.2,toNatLt h0 h1⟩;rw [if_neg (Int.not_lt.mpr h0)];dsimp only;rw [if_pos (by simp;omega)]
 ·obtain h0:=of_decide_eq_false h0;obtain rfl:=Qw e;have hn:=negIdx (Int.not_le.mp h0) h1;refine ⟨?_,Int.le_of_lt hs.1,hs.2,toNatLt hn.1 hn.2⟩;rw [if_pos (Int.not_le.mp h0)];dsimp only;rw [if_pos (by simp;omega)]
set_option tactic.hygienic true in
theorem getL_ok {a:Addr} {items:Array Value} {n:Nat} {l:List V} {k:Int} {t:Tok} {c:V} {Q:Value→Shared→Prop} (hoo:s.heap.get? a=some (lstObj items n)) (hr:RVs K.hid ι s.heap items.toList l) (e:atL l k=some c)
  (h:∀ v tk,RV K.hid ι s.heap v c→Q v { s with toks:=tk }):wpAny (model prog w) A (getItem (.ref a) (.int k t)) Q E s:=by
 refine bI e fun j hj hc=>?_;refine nb fun kk=>?_;refine e12 (hr.get hc) fun v hv rv=>?_;obtain hv':items[j]?=some v:=by simpa using hv
 obtain hlen':=hr.size;refine e04 (place_seq hj) fun q1 q2 q3 q4=>?_;refine kk ?_;obtain hQ:=h _ s.toks rv;clear h;unfold seqIndex? at q1
 by_cases hk:k<0
 ·rw [if_pos hk] at q1;dsimp only at q1
  split at q1
  ·rename_i z
   obtain rfl:=Qw q1;simp only [Bool.and_eq_true,decide_eq_true_eq] at z;exact wpAny_getItem_list_neg (lstObj_isList hoo) hk (by omega) q2 (by rw [hlen'];exact hv') hQ
  ·exact noN q1
 ·rw [if_neg hk] at q1;dsimp only at q1
  split at q1
  ·obtain rfl:=Qw q1;exact wpAny_getItem_list (lstObj_isList hoo) (by omega) q3 hv' hQ
  ·exact noN q1
theorem getItem_ok {vo vi:Value} {o i c:V} {Q:Value→Shared→Prop} (r:StRel K ι s.heap σ) (e:getItemV σ o i=some c) (ho:RV K.hid ι s.heap vo o) (hi:RV K.hid ι s.heap vi i)
  (h:∀ v tk,RV K.hid ι s.heap v c→Q v { s with toks:=tk }):wpAny (model prog w) A (getItem vo vi) Q E s:=by
 refine bI (show (asI i).bind _=_ from e) fun k ek e=>iAsI ek fun q=>rvInt (q▸hi) fun t z=>?_;clear hi ek;subst z q;cases o with
 |tup l=>
  refine rvTup ho fun a items n z o_ o_ hb hr=>bI (show (place l.length k).bind _=_ from e) fun j hj hc=>?_;refine nb fun kk=>?_;refine e12 (hr.get hc) fun v hv rv=>?_;obtain hsz':=hr.size;refine e04 (place_seq hj) fun q1 q2 q3 q4=>?_;refine kk ?_;rw [z];exact PySem.P.getItem_tuple hb q2 q3 (by rw [hsz'];exact q1) (by simpa using hv) (h _ s.toks rv)
 |str x=>
  refine rvStr ho fun u z ax=>bI (show (place x.cps.size k).bind _=_ from e) fun j hj e=>mI e fun c' hc' q=>?_;refine nb fun kk=>?_;refine e04 (place_seq hj) fun q1 q2 q3 q4=>?_;refine kk ?_;rw [z];refine PyProof.Rows.getItem_str (c:=c') (by simp only [Bool.or_eq_false_iff,decide_eq_false_iff_not];omega) (by rw [show x.length=x.cps.size from rfl,q1];exact hc') (h _ _ (q▸.str _ ?_));exact asc_sub ax fun d hd=>by
   rw [Wz hd];exact Array.mem_toList_iff.mpr (Array.mem_of_getElem? hc')
 |fro l=>exact rvFro ho fun a items n z o_ o_ hb hr=>by rw [z];exact getL_ok hb hr e h
 |ref j=>
  refine bI (show (seqOf σ (.ref j)).bind _=_ from e) fun l hs e=>?_;refine nb fun kk=>?_;refine e33 (seqOf_at r hs ho) fun p items n z ho' hr=>?_;refine kk ?_;rw [z];exact getL_ok ho' hr e h
 |_=>exact noN e
end
end Mine.Internal
end
section
open PySem PySem.W PyProof.Rows
open PySem.Calls PySem.Spec
open PySem.Builtin PySem.Builtin.Str
set_option tactic.hygienic false
namespace Mine.Internal
section
variable {K:Cst} {T:Heap→Prop} {prog:Program} {w:World} {A:Around} {E:Value→Shared→Prop} {ι:List Addr} {σ:St} {s:Shared}
noncomputable def partO:V→Option Int
 |.int i=>some i
 |_=>none
noncomputable def clipI (n:Nat) (d:Int):Option Int→Int
 |none=>d
 |some i=>max 0 (min (if i<0 then i+n else i) n)
theorem bounds_clip (lo hi:Option Int) (n:Nat):sliceBounds lo hi none n=(clipI n 0 lo,clipI n n hi,1):=by
 cases lo<;>cases hi<;>rfl
set_option tactic.hygienic true in
theorem clip_is {n d c:Nat} {v:V} (h:clampI n d v=some c) (hd:d≤n):clipI n d (partO v)=c:=by
 cases v with
 |none=>exact congrArg _ (Qw h)
 |int i=>
  obtain rfl:=Qw h;show max 0 (min (if i<0 then i+(n:Int) else i) n)=((if i<0 then (i+n).toNat else min i.toNat n:Nat):Int)
  split
  ·rename_i q;exact clip1 q
  ·rename_i q;exact clip2 q
 |_=>exact noN h
theorem slice_bounds {n a b:Nat} {lo hi:V} (h1:clampI n 0 lo=some a) (h2:clampI n n hi=some b):sliceBounds (partO lo) (partO hi) none n=((a:Int),(b:Int),1):=by
 rw [bounds_clip,←clip_is h1 (Nat.zero_le _),←clip_is h2 (Nat.le_refl _)];rfl
theorem slice_pick {items:Array Value} {a b:Nat} {lo hi:V} (h1:clampI items.size 0 lo=some a) (h2:clampI items.size items.size hi=some b):(slicePick items (partO lo) (partO hi) none).toList=sliceL items.toList a b:=by
 unfold slicePick;rw [slice_bounds h1 h2];simp only [sliceRange_one,pick_run,sliceL];rw [List.drop_take]
theorem IsPart_of {v:Value} {x:V} (h:RV K.hid ι s.heap v x) {n d c:Nat} (hc:clampI n d x=some c):∃ l,v=partValue l∧l.map (·.1)=partO x:=by
 cases x with
 |none=>exact rvNone h fun q=>⟨none,q,rfl⟩
 |int i=>exact rvInt h fun t q=>⟨some (i,t),q,rfl⟩
 |_=>exact noN hc
theorem isPart {v:Value} {x:V} (h:∃ l,v=partValue l∧l.map (·.1)=partO x):IsPart v (partO x):=by
 refine e12 (h) fun l qz1 e=>?_;obtain rfl:=qz1;rw [←e];cases l with
 |none=>exact .none
 |some l=>exact .int l.1 l.2
theorem RVs.slice {h:Heap} {vs:List Value} {xs:List V} (r:RVs K.hid ι h vs xs) (a b:Nat):RVs K.hid ι h (sliceL vs a b) (sliceL xs a b):=(r.take b).drop a
theorem mem_sliceL {α:Type} {l:List α} {a b:Nat} {c:α} (h:c∈sliceL l a b):c∈l:=List.mem_of_mem_take (List.mem_of_mem_drop h)
theorem str_indices {x:Str} {a b:Nat} {lo hi:V} (ha:clampI x.cps.size 0 lo=some a) (hb:clampI x.cps.size x.cps.size hi=some b):strSliceIndices (partO lo) (partO hi) 1 x.length=sliceRange (a:Int) (b:Int) 1:=by
 show sliceRange (sliceBounds (partO lo) (partO hi) none x.cps.size).1 (sliceBounds (partO lo) (partO hi) none x.cps.size).2.1 1=_;rw [slice_bounds ha hb]
set_option tactic.hygienic true in
theorem clamp_le {n b:Nat} {v:V} (h:clampI n n v=some b):b≤n:=by
 cases v with
 |none=>exact Nat.le_of_eq (Qw h).symm
 |int i=>
  rw [←Qw h]
  split
  ·rename_i q;exact Int.toNat_le.mpr (Int.le_trans (Int.add_le_add_right (Int.le_of_lt q) n) (Int.le_of_eq (Int.zero_add _)))
  ·exact Nat.min_le_right _ _
 |_=>exact noN h
theorem slice_whole {x:Str} {a b:Nat} (hbn:b≤x.cps.size) (hba:b-a=x.cps.size):(⟨(sliceL x.cps.toList a b).toArray⟩:Str)=x:=by
 obtain ⟨⟨q⟩⟩:=x;have hbn:b≤q.length:=hbn;have hba:b-a=q.length:=hba;have:b=q.length:=Nat.le_antisymm hbn (Qy (Nat.le_of_eq hba.symm) (Nat.sub_le b a));subst this;have h0:a=0∨q.length=0:=(Nat.eq_zero_or_pos q.length).elim .inr fun hp=>.inl (Nat.eq_zero_of_not_pos fun ha=>Nat.ne_of_lt (Nat.sub_lt hp ha) hba);show (⟨⟨(q.take q.length).drop a⟩⟩:Str)=_;rw [List.take_length];rcases h0 with rfl|h0
 ·rfl
 ·rw [List.eq_nil_of_length_eq_zero h0,List.drop_nil]
set_option tactic.hygienic true in
theorem sliceS_ok {x:Str} {t:Tok} {vl vu:Value} {lo hi c:V} {sl:Addr} {Q:Value→Shared→Prop} (ax:asc x=true)
  (e:sliceS x lo hi=some c) (hl:RV K.hid ι s.heap vl lo) (hu:RV K.hid ι s.heap vu hi) (hs:s.heap.IsSliceOf sl vl vu .none)
  (h:∀ v k,RV K.hid ι s.heap v c→Q v { s with toks:=k }):wpAny (model prog w) A (getItem (.str x t) (.ref sl)) Q E s:=by
 refine bI e fun a ha e=>bI e fun b hb e=>iD e fun hlen4 e=>?_;refine nb fun kk=>?_;refine e12 (IsPart_of hl ha) fun l qz1 el=>?_;obtain rfl:=qz1;refine e12 (IsPart_of hu hb) fun u qz1 eu=>?_;obtain rfl:=qz1;refine kk ?_;have e:=Qw e;refine wpAny_getItem_str_slice (l:=l) (u:=u) (st:=none) hs rfl ?_;have hr:slicePicked x l u none=sliceRange (a:Int) (b:Int) 1:=by
  unfold slicePicked;rw [el,eu];exact str_indices ha hb
 have hp:(slicePicked x l u none).filterMap (x.cps[·]?)=sliceL x.cps.toList a b:=by
  rw [hr];simp only [sliceRange_one,pick_run,sliceL];rw [List.drop_take]
 unfold sliceMade
 split
 ·rename_i hw
  have hlen:(slicePicked x l u none).length=x.cps.size:=eq_of_beq hw;rw [hr,sliceRange_one] at hlen;rw [slice_whole (clamp_le hb) (by simpa using hlen)] at e;exact h _ _ (e▸.str _ ax)
 ·rw [hp];refine ⟨?_,h _ _ (e▸.str _ (asc_sub ax fun c hc=>mem_sliceL hc))⟩;have h4:(4096:Nat)≤sizeLine:=by decide
  show (sliceL x.cps.toList a b).toArray.size≤sizeLine;simp only [sliceL,List.size_toArray,List.length_drop,List.length_take,Array.length_toList];exact Qy (Nat.sub_le _ _) (Qy (Nat.min_le_right _ _) (Qy hlen4 h4))
theorem slice_ok {lo0:Nat} {vo vl vu:Value} {o lo hi c:V} {sl:Addr} {Q:Value→Shared→Prop} (hT:Mono K T) (I:In0 K T ι σ s)
  (e:sliceV σ o lo hi=some c) (ho:RV K.hid ι s.heap vo o) (hl:RV K.hid ι s.heap vl lo) (hu:RV K.hid ι s.heap vu hi) (hs:s.heap.IsSliceOf sl vl vu .none)
  (h:∀ v s',Nx K T lo0 σ ι ι s s'→RV K.hid ι s'.heap v c→Q v s'):wpAny (model prog w) A (getItem vo (.ref sl)) Q E s:=by
 have keyL:((seqOf σ o).bind fun l=>(clampI l.length 0 lo).bind fun a=>(clampI l.length l.length hi).bind fun b=>if decide (l.length≤4096) then some (V.fro (sliceL l a b)) else none)=some c→wpAny (model prog w) A (getItem vo (.ref sl)) Q E s:=by
  intro e;refine bI e fun l hq e=>bI e fun a ha e=>bI e fun b hb e=>iD e fun hlen e=>?_;refine e33 (seqOf_at I.rel hq ho) fun p items n z hp hr=>?_;have hsz:=hr.size;rw [z];refine wpAny_getItem_list_slice (lstObj_isList hp) hs (isPart (IsPart_of hl ha)) (isPart (IsPart_of hu hb)) .none (by simp) ?_ (by rw [hsz];exact Qy hlen (by decide));refine h _ _ (Nx.heap hT I (Ux.push _ _) _) (Qw e▸?_);exact RV.newList I.rel (by rw [slice_pick (by rw [hsz];exact ha) (by rw [hsz];exact hb)];exact hr.slice a b)
 cases o with
 |str x=>exact rvStr ho fun t z ax=>by rw [z];exact sliceS_ok ax e hl hu hs fun v k r=>h _ _ (Nx.tok I k) r
 |_=>exact keyL e
set_option tactic.hygienic true in
theorem Nx.set {lo i:Nat} {a:Addr} {h':Heap} {o o':HO} (hT:Mono K T) (I:In0 K T ι σ s) (hi:ι[i]?=some a) (hlo:lo≤i) (hs:Heap.SameBut a s.heap h') (tk:Nat)
  (hsome:∃ q,h'.get? a=some q) (ho':Grow K.tabs ι ι s.heap h'→HRel K ι h' a o') (hσ:σ[i]?=some o):
  Nx K T lo (σ.set i o') ι ι s { s with heap:=h',toks:=tk }:=by
 have hmem:a∈ι:=List.mem_of_getElem? hi;have hdrop:a∈ι.drop lo:=by
  have:(ι.drop lo)[i-lo]?=some a:=by rw [List.getElem?_drop];rw [Nat.add_sub_of_le hlo];exact hi
  exact List.mem_of_getElem? this
 have keep:∀ b o,b≠a→s.heap.get? b=some o→h'.get? b=some o:=fun b o hb e=>(hs.2 b hb).trans e;have G:Grow K.tabs ι ι s.heap h':=⟨⟨[],by simp,by simp⟩,fun b o hb e=>.inl (keep b o (fun z=>hb (z▸hmem)) e),fun b o o_ e=>by
  by_cases z:b=a
  ·exact z▸hsome
  ·exact ⟨o,keep b o z e⟩⟩
 refine ⟨G,fun b o hb e=>.inl (keep b o (fun z=>hb (z▸hdrop)) e),⟨hT I.top fun b o hb e=>.inl (keep b o (fun z=>?_) e),?_,I.gens,I.codes.keep ⟨rfl,rfl⟩ (fun P o hP e=>keep P o (fun z=>absurd hP (Ww (z▸I.rel.low a hmem))) e) fun c o vs hi2 o_ o_ e=>⟨hi2,keep c o (fun z=>hi2 (z▸hmem)) e⟩⟩,rfl,fun o_ o_ e=>e⟩
 ·exact absurd hb (Ww (z▸I.rel.low a hmem))
 ·refine ⟨by rw [List.length_set];exact I.rel.len,I.rel.nodup,I.rel.low,fun b hb=>?_,fun j q hq=>?_⟩
  ·obtain ⟨o,e⟩:=I.rel.hid b hb;exact G.stays e
  by_cases hj:i=j
  ·subst hj;have hlt:i<σ.length:=(Qz hσ).1;rw [List.getElem?_set_self hlt] at hq;obtain rfl:=Qw hq;exact ⟨a,hi,ho' G⟩
  ·rw [List.getElem?_set_ne hj] at hq;refine nb fun kk=>?_;refine e12 (I.rel.obj j q hq) fun b hb hr=>?_;refine kk ?_;refine ⟨b,hb,?_⟩;have hba:b≠a:=by
    intro z;subst z;apply hj;exact (List.getElem?_inj (Qz hi).1 I.rel.nodup).mp (hi.trans hb.symm)
   cases hr with
   |lst ho hl=>exact .lst (keep _ _ hba ho) (hl.grow G)
   |acc ho hd hn hk ht hl=>
    rename_i d m _ _ _
    have hda:d≠a:=fun z=>hd (z▸hmem);refine .acc (keep _ _ hba ho) hd (As.ns (K:=K) hn fun o e=>.inl (keep _ _ hda e)) hk ?_ (hl.grow G);refine nb fun kk=>?_;refine e12 (ht) fun o e1 e2=>?_;refine kk ?_;exact ⟨o,keep _ _ hda e1,e2⟩
theorem Nx.setL {lo i:Nat} {a:Addr} {h':Heap} {xs ys:List V} {items:Array Value} {n:Nat} (hT:Mono K T) (I:In0 K T ι σ s) (hi:ι[i]?=some a) (hlo:lo≤i) (hσ:σ[i]?=some (.lst xs))
  (hs:Heap.SameBut a s.heap h') (tk:Nat) (ho:h'.get? a=some (lstObj items n)) (hr:RVs K.hid ι s.heap items.toList ys):Nx K T lo (σ.set i (.lst ys)) ι ι s { s with heap:=h',toks:=tk }:=
 Nx.set hT I hi hlo hs tk ⟨_,ho⟩ (fun G=>.lst ho (hr.grow G)) hσ
theorem rel_lst {i:Nat} {a:Addr} {xs:List V} (r:StRel K ι s.heap σ) (hσ:σ[i]?=some (.lst xs)) (hi:ι[i]?=some a):∃ items n,s.heap.get? a=some (lstObj items n)∧RVs K.hid ι s.heap items.toList xs:=by
 refine nb fun kk=>?_;refine e12 (r.obj i _ hσ) fun b hb hr=>?_;refine kk ?_;obtain rfl:a=b:=Qw (hi.symm.trans hb);cases hr with
 |lst ho hl=>exact (xi2 _ _ ⟨ho,hl⟩)
theorem update_lst {h:Heap} {a:Addr} {items:Array Value} {n:Nat} (ho:h.get? a=some (lstObj items n)) (f:Array Value→Array Value):
  ∃ m,(h.update a (Obj.mapSeq f)).get? a=some (lstObj (f items) m)∧Heap.SameBut a h (h.update a (Obj.mapSeq f)):=
 ⟨_,IsL.update ho f,Heap.SameBut.update ..⟩
open Sem (wp) in
theorem setItem_list_up {l:Addr} {items:Array Value} {n:Nat} {k:Int} {t:Tok} {v:Value} {Q:Unit→Shared→Prop} (ho:s.heap.get? l=some (lstObj items n))
  (h0:0≤k) (hfit:k<2^63) (hn:k<items.size)
  (hQ:Q () { s with heap:=s.heap.update l (Obj.mapSeq (·.setIfInBounds k.toNat v)) }):
  wpAny (model prog w) A (setItem (.ref l) (.int k t) v) Q E s:=by
 have hl:s.heap.IsList l items:=lstObj_isList ho;have hd:(lstObj items n).data=.seq items n:=rfl;unfold setItem;refine wpAny_holding ?_;refine Qq (wpAny_sequenceKey hl.typeIs (by decide) ?_);refine Qq (wpAny_callSpecial?_slot (name:=Str.ofString "__setitem__") hl.typeIs slot_list_setitem
  (wpAny_call_entry slot_list_setitem hl.typeIs entry_list_setitem ?_ (args_list_setitem _ _ _)))
 show wpAny _ _ (Builtin.List.listSubscript? (.int k t) >>=_) _ _ s;refine Qq (wpAny_listSubscript_int (fitsIndex_of h0 hfit) ?_);clear hfit;refine nb fun kk=>?_;refine e11 (Int.eq_ofNat_of_zero_le h0) fun j qz1=>?_;obtain rfl:=qz1;refine kk ?_;have hj:j<items.size:=Int.ofNat_lt.mp hn;have hx':items[j]?=some items[j]:=Array.getElem?_eq_getElem hj;show wpAny _ _ ((seqItemAt l j >>=fun r=>pure (r.map (j,·))) >>=_) _ _ s;refine Qq (Qq (wpAny_seqItemAt ho hd (Qf ?_)));rw [hx'];show wpAny _ _ (setSeqItemAt l j v >>=_) _ _ s;refine Qq (wpAny_setSeqItemAt ho hd ?_)
 first
  |exact Qq (Qf (Qf ⟨.none,rfl,Qf hQ⟩))
  |exact Qf ⟨.none,rfl,Qf hQ⟩
theorem setItem_ok {lo:Nat} {vo vi v:Value} {o i x:V} {σ':St} {Q:Unit→Shared→Prop} (hT:Mono K T) (I:In0 K T ι σ s)
  (e:setItemV lo σ o i x=some σ') (ho:RV K.hid ι s.heap vo o) (hi:RV K.hid ι s.heap vi i) (hv:RV K.hid ι s.heap v x)
  (h:∀ s',Nx K T lo σ' ι ι s s'→Q () s'):wpAny (model prog w) A (setItem vo vi v) Q E s:=by
 refine iSet e fun k a xs q1 q2 hlo hσ h0 hk hs q3=>rvInt (q1▸hi) fun t z1=>rvRef (q2▸ho) fun p z2 hj=>?_;refine nb fun kk=>?_;refine e22 (rel_lst I.rel hσ hj) fun items n ho hr=>?_;refine kk ?_;have hsz:=hr.size;rw [z1,z2];refine setItem_list_up ho h0 (of_decide_eq_true hs).2 (by rw [hsz];exact hk) ?_;refine nb fun kk=>?_;refine e12 (update_lst ho (·.setIfInBounds k.toNat v)) fun m h1 h2=>?_;refine kk ?_;refine h _ (q3▸Nx.setL hT I hj hlo hσ h2 _ h1 ?_);rw [Array.toList_setIfInBounds];exact hr.set _ hv
end
end Mine.Internal
end
section
open PySem PySem.W PyProof.Rows
open PySem.Calls PySem.Spec
set_option tactic.hygienic false
namespace Mine.Internal
section
section defs
variable (prog:Program) (w:World) (C:Cfg) (K:Cst) (T:Heap→Prop)
noncomputable def VCont (lo:Nat) (σ':St) (v:V) (ι:List Addr) (s:Shared) (Q:Value→Shared→Prop):Prop:=∀ rv s' ι',Nx K T lo σ' ι ι' s s'→RV K.hid ι' s'.heap rv v→Q rv s'
noncomputable def SGood (lo:Nat) (σ σ':St) (v:V) (A:Around) (env:Env) (sc:Scope) (ρ:Rho) (m:Sem Value):Prop:=
 ∀ {ι:List Addr} {s:Shared} {Q:Value→Shared→Prop} {E:Value→Shared→Prop},FrOk K ι s.heap env sc ρ→In0 K T ι σ s→
  VCont K T lo σ' v ι s Q→wpAny (model prog w) A m Q E s
noncomputable def BGood (lo:Nat) (σ σ':St) (b:Bool) (A:Around) (env:Env) (sc:Scope) (ρ:Rho) (m:Sem Bool):Prop:=
 ∀ {ι:List Addr} {s:Shared} {Q:Bool→Shared→Prop} {E:Value→Shared→Prop},FrOk K ι s.heap env sc ρ→In0 K T ι σ s→
  (∀ s' ι',Nx K T lo σ' ι ι' s s'→Q b s')→wpAny (model prog w) A m Q E s
structure LGood (lo:Nat) (σ σ':St) (vs:List V) (A:Around) (env:Env) (sc:Scope) (ρ:Rho) (es:List Expr):Prop where
 plain:∀ pos,(backTo pos (starEach es env)).any (·.1)=false
 nil:es=[]→vs=[]∧σ'=σ
 hd:∀ x r,es=x::r→starEach (x::r) env=(false,eval x env)::starEach r env
 run:∀ {pos:Pos} {ι:List Addr} {s:Shared} {Q:List Value→Shared→Prop} {E:Value→Shared→Prop},FrOk K ι s.heap env sc ρ→In0 K T ι σ s→
  (∀ rvs s' ι',Nx K T lo σ' ι ι' s s'→RVs K.hid ι' s'.heap rvs vs→Q rvs s')→wpAny (model prog w) A (spliced (backTo pos (starEach es env))) Q E s
noncomputable def CGood (lo:Nat) (σ σ':St) (a:V) (b:Bool) (A:Around) (env:Env) (sc:Scope) (ρ:Rho) (ops:List CmpOp) (rs:List Expr):Prop:=
 ∀ {pos:Pos} {ι:List Addr} {s:Shared} {va:Value},FrOk K ι s.heap env sc ρ→In0 K T ι σ s→RV K.hid ι s.heap va a→
  (∀ {Q:Value→Shared→Prop} {E:Value→Shared→Prop},(∀ s' ι',Nx K T lo σ' ι ι' s s'→Q (.bool b) s')→wpAny (model prog w) A (compareChain pos va ops (markedEach ops rs (evalEach rs env))) Q E s)∧
  (∀ {Q:Bool→Shared→Prop} {E:Value→Shared→Prop},(∀ s' ι',Nx K T lo σ' ι ι' s s'→Q b s')→wpAny (model prog w) A (testChain pos va ops (markedEach ops rs (evalEach rs env))) Q E s)
end defs
variable {prog:Program} {w:World} {C:Cfg} {K:Cst} {T:Heap→Prop}
theorem constV_ok {c:Const} {v:V} {lo:Nat} {σ:St} {A:Around} {env:Env} {sc:Scope} {ρ:Rho} {k:Nat} {pos:Pos} (e:constV c=some v):SGood prog w K T lo σ σ v A env sc ρ (eval (.Constant c k pos) env):=by
 intro ι s Q E F I h;cases c with
 |none=>exact wpAny_Constant_none (h _ _ _ (Nx.refl I) (Qw e▸.none))
 |bool b=>exact wpAny_Constant_bool (h _ _ _ (Nx.refl I) (Qw e▸.bool b))
 |int i=>exact wpAny_Constant_int (h _ _ _ (Nx.tok I _) (Qw e▸.int _ _))
 |str x=>exact iT (c:=asc x) e fun ha q=>wpAny_Constant_str (h _ _ _ (Nx.tok I _) (Qw q▸.str _ ha))
 |_=>exact noN e
theorem kind_own {sc:Scope} {env:Env} {ι:List Addr} {h:Heap} {ρ:Rho} {x:Str} (F:FrOk K ι h env sc ρ) (e:ownKind (kindIn sc x)=true):
  (kindIn sc x=some .local∧env.kindOf x=some .local)∨(kindIn sc x=some .cell∧env.kindOf x=some .cell)∨(kindIn sc x=some .free∧(env.kindOf x=some .free∨env.kindOf x=some .cell)):=by
 obtain hk:env.kindOf x=kindIn env.scope x:=rfl;rw [hk];simp only [ownKind,Bool.or_eq_true,beq_iff_eq] at e;rcases e with (e|e)|e
 ·rcases F.names x with z|z
  ·exact .inl ⟨e,z.trans e⟩
  ·rw [z.1] at e;cases e
 ·rcases F.names x with z|z
  ·exact .inr (.inl ⟨e,z.trans e⟩)
  ·rw [z.1] at e;cases e
 ·rcases F.names x with z|z
  ·exact .inr (.inr ⟨e,.inl (z.trans e)⟩)
  ·exact .inr (.inr ⟨e,.inr z.2⟩)
theorem loadB {x:Str} {b:B} {sc:Scope} {A:Around} {env:Env} {ρ:Rho} {ι:List Addr} {s:Shared} {Q:Value→Shared→Prop} {E:Value→Shared→Prop} {M:Model}
  (F:FrOk K ι s.heap env sc ρ) (hw:(x==("__classdict__":Str))=false) (hk:ownKind (kindIn sc x)=true) (e:ρ.lookup x=some b) (h:∀ v,RB ι s.heap K env.locals v b→Q v s):wpAny M A (loadName env x) Q E s:=by
 rcases kind_own F hk with ⟨k1,k2⟩|⟨k1,k2⟩|⟨k1,k2⟩
 ·obtain ⟨m,hm,_,hv⟩:=F.ns;refine e12 (hv x b k1 e) fun v e1 r=>?_;exact wpAny_loadName_local F.kind k2 hm e1 (h v r)
 ·obtain ⟨c,v,e1,e2,r⟩:=F.cell x b (.inl k1) e;exact wpAny_loadName_cell F.kind k2 e1 e2 (h v r)
 ·obtain ⟨c,v,e1,e2,r⟩:=F.cell x b (.inr k1) e;rcases k2 with k2|k2
  ·exact wpAny_loadName_free F.kind k2 e1 e2 (h v r) hw
  ·exact wpAny_loadName_cell F.kind k2 e1 e2 (h v r)
theorem boolOp_cons {A:Around} {pos:Pos} {op:BoolOp} {x y:Expr} {r:List Expr} {env:Env} {s:Shared} {Q:Value→Shared→Prop} {E:Value→Shared→Prop}
  (h:wpAny (model prog w) A (eval x env) (fun v s₁=>wpAny (model prog w) A (truthy v) (fun t s₂=>(stopB op t=true→Q v s₂)∧(stopB op t=false→wpAny (model prog w) A (boolOp pos op (evalEach (y::r) env)) Q E s₂)) E s₁) E s):
  wpAny (model prog w) A (boolOp pos op (evalEach (x::y::r) env)) Q E s:=by
 show wpAny _ _ (eval x env >>=fun v=>standAt pos >>=fun o_=>holding [v] (truthy v) >>=fun t=>match op,t with
   |.And,false|.Or,true=>pure v
   |_,_=>boolOp pos op (evalEach (y::r) env)) _ _ _
 refine Qq (Wj h (fun v s' hv=>?_) fun o_ o_ x=>x);refine Qq (wpAny_standAt (Qq (wpAny_holding (Wj hv (fun t s' ht=>?_) fun o_ o_ x=>x))));cases op<;>cases t
 ·exact Qf (ht.1 rfl)
 ·exact ht.2 rfl
 ·exact ht.2 rfl
 ·exact Qf (ht.1 rfl)
theorem plain_isTrue {e:Expr} {env:Env} (h:plainT e=true):isTrue e env (eval e env)=(do let v←eval e env;standAt e.pos;holding [v] (truthy v)):=by
 cases e<;>first|rfl|exact noB' h
theorem ok_ne_set {e:Expr} {op:CmpOp} (h:evOk e=true):behindInMarks op e=false:=by
 cases e<;>first|rfl|exact noB' h
theorem ok_starred {e:Expr} {r:List Expr} {env:Env} (h:evOk e=true):starEach (e::r) env=(false,eval e env)::starEach r env:=by
 cases e<;>first|rfl|exact noB' h
theorem ok_slice {e:Expr} (h:evOk e=true):∀ o i,subscripted e false o i=operate [o,i] (getItem o i):=by
 cases e<;>first|exact fun o_ o_=>rfl|exact noB' h
theorem ok_aug {e:Expr} (h:evOk e=true):∀ ov iv new,augStore e ov iv new=(do holding [new,ov,iv] (setItem ov iv new);release [new,ov,iv] [];pure .next):=by
 cases e<;>first|exact fun o_ o_ o_=>rfl|exact noB' h
noncomputable def isLC (e:Expr):Bool:=e.ctorIdx==8
theorem ok_swaps {e:Expr} (h:evOk e=true) (h2:isLC e=false):∀ t l env,swapsWith e t l env=pure false:=by
 cases e<;>first|exact fun o_ o_ o_=>rfl|exact noB' h|exact noB h2
theorem ok_fold {e:Expr} {env:Env} (h:evOk e=true):∀ x,foldedSetIterable e env x=pure x:=by
 cases e<;>first|exact fun o_=>rfl|exact noB' h
end
section
variable {prog:Program} {w:World} {C:Cfg} {K:Cst} {T:Heap→Prop}
noncomputable def privCls:List String:=["list_iterator","range_iterator","enumerate","str_ascii_iterator","generator","frame"]
noncomputable def privObj (o:Obj):Prop:=(∃ n,o.cls=.type n∧n∈privCls)∧((∃ vs,o.data=.fields vs)∨∃ es n,o.data=.dict es n)
structure Qt (K:Cst) (fp:List Addr) (gp:List Nat) (s s':Shared):Prop where
 only:∀ b o,b∉fp→s.heap.get? b=some o→s'.heap.get? b=some o
 gens:AllBare s.gens→AllBare s'.gens
 gm:∀ (g:Nat) x,g∉gp→s.gens[g]?=some x→s'.gens[g]?=some x
 os:s'.os=s.os
structure FpOk (K:Cst) (fp:List Addr) (ι:List Addr) (h:Heap):Prop where
 ok:∀ b∈fp,K.N0≤b∧b∉ι∧∀ o,h.get? b=some o→privObj o
 hid:∀ b∈fp,b∉K.hid
theorem Qt.trans {fp:List Addr} {gp:List Nat} {s s' s'':Shared} (x:Qt K fp gp s s') (y:Qt K fp gp s' s''):Qt K fp gp s s'':=
 ⟨fun b o hb e=>y.only b o hb (x.only b o hb e),fun z=>y.gens (x.gens z),fun g v h e=>y.gm g v h (x.gm g v h e),y.os.trans x.os⟩
theorem FpOk.off {fp ι:List Addr} {h:Heap} (f:FpOk K fp ι h) {b:Addr} {o:Obj} (e:h.get? b=some o) (hp:¬privObj o):b∉fp:=by
 intro hb;exact hp ((f.ok b hb).2.2 o e)
theorem np_seq {o:Obj} {items:Array Value} {n:Nat} (h:o.data=.seq items n):¬privObj o:=by
 rintro ⟨_,⟨vs,e⟩|⟨es,m,e⟩⟩<;>rw [h] at e<;>cases e
theorem np_cell {o:Obj} {v:Option Value} (h:o.data=.cell v):¬privObj o:=by
 rintro ⟨_,⟨vs,e⟩|⟨es,m,e⟩⟩<;>rw [h] at e<;>cases e
theorem np_func {o:Obj} {v:FuncData} (h:o.data=.func v):¬privObj o:=by
 rintro ⟨_,⟨vs,e⟩|⟨es,m,e⟩⟩<;>rw [h] at e<;>cases e
theorem np_cls {o:Obj} {c:String} (h:o.cls=.type c) (hc:c∉privCls):¬privObj o:=by
 rintro ⟨⟨n,e,hn⟩,_⟩;rw [h] at e;cases e;exact hc hn
section
variable {fp ι:List Addr} {gp:List Nat} {s s':Shared} (q:Qt K fp gp s s') (f:FpOk K fp ι s.heap)
include q f
theorem Qt.kp:Kp K K.hid ι ι (fun o_=>True) s.heap s'.heap:=
 Kp.only q.only (fun b o o_ o_ o_ o_ ho e=>f.off e (ho.elim (fun z=>by rw [z];exact np_seq rfl) fun z=>by rw [z];exact np_seq rfl)) (fun b o fd hd e=>f.off e (np_func hd)) (fun b o vs hc o_ e=>f.off e (np_cls hc (by decide))) fun c v o_ x=>let ⟨_,e,hd⟩:=x;f.off e (np_cell hd)
theorem Qt.calm:Calm K.hid ι s.heap s'.heap:=fun b o items n h1 h2 ho e=>((q.kp f).seq b o items n h1 h2 ho e).2.2
theorem Qt.cell {c:Addr} {v:Option Value} (x:s.heap.IsCell c v):s'.heap.IsCell c v:=let ⟨o,ho,hd⟩:=x;⟨o,q.only c o (f.off ho (np_cell hd)) ho,hd⟩
theorem Qt.rb {L:Addr} {v:Value} {b:B} (r:RB ι s.heap K L v b):RB ι s'.heap K L v b:=(q.kp f).rb (fun o_ o_=>trivial) r
theorem Qt.fr {env:Env} {sc:Scope} {ρ:Rho} (F:FrOk K ι s.heap env sc ρ) (hL:env.locals∉fp):FrOk K ι s'.heap env sc ρ:=
 (q.kp f).fr (fun o_=>trivial) F F.offL.1 fun m hm=>⟨m,As.ns (K:=K) hm fun o e=>.inl (q.only _ o hL e),rfl,fun o_ o_=>rfl⟩
theorem Qt.hrel {a:Addr} {o:HO} (r:HRel K ι s.heap a o):HRel K ι s'.heap a o:=
 (q.kp f).hrel (fun o o_ o_ hd e=>q.only _ o (f.off e (np_seq hd)) e) (fun d m hi o_ o_=>⟨hi,fun o hc e=>q.only _ o (f.off e (np_cls hc (by decide))) e⟩) r
theorem Qt.inn {σ:St} (hT:Mono K T) (I:In0 K T ι σ s):In0 K T ι σ s':=by
 refine ⟨hT I.top fun b o hb e=>.inl (q.only b o ?_ e),⟨I.rel.len,I.rel.nodup,I.rel.low,fun b hb=>?_,fun i o e=>?_⟩,q.gens I.gens,I.codes.keep ⟨rfl,rfl⟩ (fun P o hP e=>q.only P o (fun z=>absurd hP (Ww (f.ok P z).1)) e) fun c o vs hi hc hd e=>⟨hi,q.only c o (f.off e (np_cls hc (by decide))) e⟩⟩
 ·intro hf;exact absurd hb (Ww (f.ok b hf).1)
 ·obtain ⟨o,e⟩:=I.rel.hid b hb;exact ⟨o,q.only b o (fun z=>f.hid b z hb) e⟩
 ·obtain ⟨a,h1,h2⟩:=I.rel.obj i o e;exact ⟨a,h1,q.hrel f h2⟩
end
structure Stb (K:Cst) (T:Heap→Prop) (fp:List Addr) (gp:List Nat) (ι ι':List Addr) (s s':Shared):Prop where
 pre:∃ news,ι'=ι++news∧∀ a∈news,s.heap.get? a=none
 keep:∀ b o,b∉ι→(b∈fp∨(b∉K.hid∧∃ items n,o=tupObj items n∨o=lstObj items n)∨((∃ c,o.cls=.type c)∧∃ vs,o.data=.fields vs))→s.heap.get? b=some o→s'.heap.get? b=some o
 gm:∀ (g:Nat) x,s.gens[g]?=some x→s'.gens[g]?=some x
 top:T s'.heap
structure IterOk (prog:Program) (w:World) (K:Cst) (T:Heap→Prop) (A:Around) (it:Value) (target:Expr) (fp:List Addr) (gp:List Nat) (nth:St→Nat→Option (Option V)) (R:Nat→List Addr→Shared→Prop):Prop where
 turn:∀ {k x ι σ s} {Q:Value→Shared→Prop} {E:Value→Shared→Prop},nth σ k=some (some x)→R k ι s→In0 K T ι σ s→(∀ v s',Qt K fp gp s s'→RV K.hid ι s'.heap v x→R (k+1) ι s'→Q v s')→
  wpAny (model prog w) A (pyNext it) (fun r s₁=>∃ v,r=some v∧wpAny (model prog w) A (letOwnedTupleGo target it v) (fun o_ s₂=>Q v s₂) E s₁) E s
 fin:∀ {k ι σ s} {Q:Shared→Prop} {E:Value→Shared→Prop},nth σ k=some none→R k ι s→In0 K T ι σ s→(∀ s',Qt K fp gp s s'→Q s')→wpAny (model prog w) A (pyNext it) (fun r s₁=>r=none∧Q s₁) E s
 fpok:∀ {k ι s},R k ι s→FpOk K fp ι s.heap
 stable:∀ {k ι ι' s s'},R k ι s→(k=0→∀ b∈fp,∃ o,s.heap.get? b=some o)→Stb K T fp gp ι ι' s s'→R k ι' s'
 again:∀ {k ι s} {Q:Value→Shared→Prop} {E:Value→Shared→Prop},R k ι s→Q it s→wpAny (model prog w) A (pyIter it) Q E s
noncomputable def Own (env:Env) (sc:Scope) (b:Addr):Prop:=b=env.locals∨∃ x,kindIn sc x=some .cell∧env.cells.lookup x=some b
structure NxS (K:Cst) (T:Heap→Prop) (lo:Nat) (own:Addr→Prop) (σ':St) (ι ι':List Addr) (s s':Shared):Prop where
 pre:∃ news,ι'=ι++news∧∀ a∈news,s.heap.get? a=none
 keep:∀ b o,b∉ι.drop lo→¬own b→s.heap.get? b=some o→As K.tabs s'.heap b o
 there:∀ b o,s.heap.get? b=some o→∃ o',s'.heap.get? b=some o'
 inn:In0 K T ι' σ' s'
 os:s'.os=s.os
 gm:∀ (g:Nat) x,s.gens[g]?=some x→s'.gens[g]?=some x
theorem Nx.toS {lo:Nat} {own:Addr→Prop} {σ':St} {ι ι':List Addr} {s s':Shared} (N:Nx K T lo σ' ι ι' s s'):NxS K T lo own σ' ι ι' s s':=
 ⟨N.grow.pre,fun b o h1 o_ e=>N.keep b o h1 e,fun b o e=>N.grow.stays e,N.inn,N.os,N.gm⟩
theorem NxS.trans {lo:Nat} {own:Addr→Prop} {σ₁ σ₂:St} {ι ι₁ ι₂:List Addr} {s s₁ s₂:Shared} (x:NxS K T lo own σ₁ ι ι₁ s s₁) (y:NxS K T lo own σ₂ ι₁ ι₂ s₁ s₂):NxS K T lo own σ₂ ι ι₂ s s₂:=by
 refine ⟨?_,fun b o hb ho e=>(x.keep b o hb ho e).trans fun o' e'=>y.keep b o' ?_ ho e',fun b o e=>?_,y.inn,y.os.trans x.os,fun g v e=>y.gm g v (x.gm g v e)⟩
 ·obtain ⟨n1,rfl,h1⟩:=x.pre;refine nb fun kk=>?_;refine e12 (y.pre) fun n2 qz1 h2=>?_;obtain rfl:=qz1;refine kk ?_;refine ⟨n1++n2,by simp,fun a ha=>?_⟩;rcases Wx ha with ha|ha
  ·exact h1 a ha
  ·cases q:s.heap.get? a with
   |none=>rfl
   |some o=>
    refine e11 (x.there a o q) fun o' z=>?_;rw [h2 a ha] at z;cases z
 ·obtain ⟨news,rfl,hn⟩:=x.pre;rw [List.drop_append];intro hm;rcases Wx hm with hm|hm
  ·exact hb hm
  ·rw [hn b (List.mem_of_mem_drop hm)] at e;cases e
 ·obtain ⟨o',e'⟩:=x.there b o e;exact y.there b o' e'
theorem NxS.mono {lo:Nat} {own own':Addr→Prop} {σ':St} {ι ι':List Addr} {s s':Shared} (N:NxS K T lo own σ' ι ι' s s') (h:∀ b o,s.heap.get? b=some o→own b→own' b):NxS K T lo own' σ' ι ι' s s':=
 ⟨N.pre,fun b o h1 h2 e=>N.keep b o h1 (fun z=>h2 (h b o e z)) e,N.there,N.inn,N.os,N.gm⟩
theorem NxS.toNx {lo:Nat} {own:Addr→Prop} {σ':St} {ι ι':List Addr} {s s':Shared} (N:NxS K T lo own σ' ι ι' s s') (h:∀ b o,s.heap.get? b=some o→¬own b):Nx K T lo σ' ι ι' s s':=
 ⟨⟨N.pre,fun b o hb e=>N.keep b o (fun z=>hb (List.mem_of_mem_drop z)) (h b o e) e,fun b o o_ e=>N.there b o e⟩,fun b o hb e=>N.keep b o hb (h b o e) e,N.inn,N.os,N.gm⟩
structure Ow (env:Env) (sc:Scope) (s s':Shared):Prop where
 only:∀ b o,¬Own env sc b→s.heap.get? b=some o→s'.heap.get? b=some o
 cellL:∀ o,s.heap.get? env.locals=some o→(∃ es n,o.data=.dict es n)→∃ o' es n,s'.heap.get? env.locals=some o'∧o'.data=.dict es n
 gens:s'.gens=s.gens
 os:s'.os=s.os
theorem well_ne {sc:Scope} {x y:Str} (h:ownKind (kindIn sc x)=true) (hy:kindIn sc y=none):(x==y)=false:=by
 cases q:x==y with
 |false=>rfl
 |true=>rw [eq_of_beq q,hy] at h;cases h
theorem canSet_own {sc:Scope} {x:Str} (h:canSet sc x=true):ownKind (kindIn sc x)=true:=by
 unfold canSet at h;unfold ownKind;rw [h];rfl
section
variable {ι:List Addr} {s s':Shared} {env:Env} {sc:Scope} {ρ:Rho} {σ:St}
theorem own_off (F:FrOk K ι s.heap env sc ρ) {b:Addr} {o:Obj} (e:s.heap.get? b=some o) (h1:∀ es n,o.data≠.dict es n) (h2:∀ v,o.data≠.cell v):¬Own env sc b:=by
 rintro (rfl|⟨x,hk,hx⟩)
 ·obtain ⟨m,⟨o',es,ep,ho,hd,_⟩,_⟩:=F.ns;obtain rfl:o=o':=Qw (e.symm.trans ho);exact h1 _ _ hd
 ·obtain ⟨_,_,v,o',ho,hd⟩:=F.offC x b hx;obtain rfl:o=o':=Qw (e.symm.trans ho);exact h2 _ hd
theorem own_low (F:FrOk K ι s.heap env sc ρ) {b:Addr} (h:Own env sc b):K.N0≤b∧b∉ι:=by
 rcases h with rfl|⟨x,hk,hx⟩
 ·exact ⟨F.offL.2,F.offL.1⟩
 ·exact ⟨(F.offC x b hx).2.1,(F.offC x b hx).1⟩
variable (keep:∀ b o,¬Own env sc b→s.heap.get? b=some o→s'.heap.get? b=some o) (F:FrOk K ι s.heap env sc ρ)
include keep F
theorem own_kp:Kp K K.hid ι ι (fun c=>c<env.locals) s.heap s'.heap:=
 Kp.only keep (fun b o o_ o_ o_ o_ ho e=>own_off F e (ho.elim (fun z=>by rw [z];exact fun o_ o_ y=>nomatch y) fun z=>by rw [z];exact fun o_ o_ y=>nomatch y) (ho.elim (fun z=>by rw [z];exact fun o_ y=>nomatch y) fun z=>by rw [z];exact fun o_ y=>nomatch y))
  (fun b o fd hd e=>own_off F e (by rw [hd];exact fun o_ o_ y=>nomatch y) (by rw [hd];exact fun o_ y=>nomatch y)) (fun b o vs o_ hd e=>own_off F e (by rw [hd];exact fun o_ o_ y=>nomatch y) (by rw [hd];exact fun o_ y=>nomatch y))
  fun c v hc o_ z=>z.elim (fun z=>absurd hc (z▸Nat.lt_irrefl _)) fun ⟨x,hk,hx⟩=>absurd hc (Ww (Wq (F.own x c hk hx)))
theorem own_calm:Calm K.hid ι s.heap s'.heap:=fun b o items n h1 h2 ho e=>((own_kp keep F).seq b o items n h1 h2 ho e).2.2
theorem own_rb {L:Addr} {v:Value} {b:B} (hL:L≤env.locals) (r:RB ι s.heap K L v b):RB ι s'.heap K L v b:=(own_kp keep F).rb (fun c hc=>Qh hc hL) r
theorem own_hrel {a:Addr} {o:HO} (r:HRel K ι s.heap a o):HRel K ι s'.heap a o:=by
 refine (own_kp keep F).hrel (fun o o_ o_ hd e=>keep _ o (own_off F e (by rw [hd];exact fun o_ o_ y=>nomatch y) (by rw [hd];exact fun o_ y=>nomatch y)) e) (fun d m hi hn hk=>⟨hi,fun o o_ e=>keep d o ?_ e⟩) r;rintro (rfl|⟨x,hkk,hx⟩)
 ·obtain ⟨m2,hm2,hi2,_⟩:=F.ns;exact hk ((ns_eq hn hm2 _).trans hi2)
 ·obtain ⟨_,_,v,o2,ho2,hd2⟩:=F.offC x d hx;obtain ⟨o',es,ep,ho',hdd,_⟩:=hn;rw [Qw (ho'.symm.trans ho2),hd2] at hdd;cases hdd
theorem own_inn (hT:Mono K T) (I:In0 K T ι σ s) (hg:s'.gens=s.gens) (hthere:∀ b,Own env sc b→∃ o',s'.heap.get? b=some o'):In0 K T ι σ s':=by
 refine ⟨hT I.top fun b o hb e=>.inl (keep b o (fun z=>absurd hb (Ww (own_low F z).1)) e),⟨I.rel.len,I.rel.nodup,I.rel.low,fun b hb=>?_,fun i o e=>?_⟩,by rw [hg];exact I.gens,I.codes.keep ⟨rfl,rfl⟩ (fun P o hP e=>keep P o (fun z=>absurd hP (Ww (own_low F z).1)) e) fun c o vs hi2 hc hd e=>⟨hi2,keep c o (own_off F e (fun o_ o_ z=>by rw [hd] at z;cases z) (fun o_ z=>by rw [hd] at z;cases z)) e⟩⟩
 ·obtain ⟨o,e⟩:=I.rel.hid b hb
  by_cases z:Own env sc b
  ·exact hthere b z
  ·exact ⟨o,keep b o z e⟩
 refine nb fun kk=>?_;refine e12 (I.rel.obj i o e) fun a h1 h2=>?_;refine kk ?_;exact ⟨a,h1,own_hrel keep F h2⟩
theorem own_nxs {lo:Nat} (hT:Mono K T) (I:In0 K T ι σ s) (hg:s'.gens=s.gens) (ho:s'.os=s.os) (hthere:∀ b,Own env sc b→∃ o',s'.heap.get? b=some o'):NxS K T lo (Own env sc) σ ι ι s s':=by
 refine ⟨⟨[],by simp,by simp⟩,fun b o o_ hb e=>.inl (keep b o hb e),fun b o e=>?_,own_inn keep F hT I hg hthere,ho,fun g x e=>by rw [hg];exact e⟩
 by_cases hb:Own env sc b
 ·exact hthere b hb
 ·exact ⟨o,keep b o hb e⟩
end
theorem store_ok {lo:Nat} {ι:List Addr} {s:Shared} {env:Env} {sc:Scope} {ρ:Rho} {σ:St} {A:Around} {E:Value→Shared→Prop} {Q:Unit→Shared→Prop} {x:Str} {rv:Value} {v:B}
  (hT:Mono K T) (hw:wellSc sc) (hx:canSet sc x=true) (F:FrOk K ι s.heap env sc ρ) (I:In0 K T ι σ s) (r:RB ι s.heap K env.locals rv v)
  (h:∀ s',NxS K T lo (Own env sc) σ ι ι s s'→FrOk K ι s'.heap env sc ((x,v)::ρ)→(∀ {L u b},L≤env.locals→RB ι s.heap K L u b→RB ι s'.heap K L u b)→Calm K.hid ι s.heap s'.heap→Q () s'):wpAny (model prog w) A (storeName env x rv) Q E s:=by
 have hne:x≠("_initial_size":Str):=fun z=>by
  have:=well_ne (canSet_own hx) hw.2.2;rw [z] at this;simp at this
 have look:∀ y b,((x,v)::ρ).lookup y=some b→(y=x∧b=v)∨(y≠x∧ρ.lookup y=some b):=by
  intro y b hy;rw [List.lookup_cons] at hy;cases q:y==x with
  |true=>rw [q] at hy;exact .inl ⟨eq_of_beq q,(Qw hy).symm⟩
  |false=>rw [q] at hy;exact .inr ⟨fun z=>by rw [z] at q;simp at q,hy⟩
 rcases kind_own F (canSet_own hx) with ⟨k1,k2⟩|⟨k1,k2⟩|⟨k1,k2⟩
 ·
  refine nb fun kk=>?_;refine e13 (F.ns) fun m hm hi hv=>?_;refine kk ?_;refine wpAny_storeName_local k2 hm (fun h' hn hs=>?_) (by rw [F.kind];rfl);have keep:∀ b o,¬Own env sc b→s.heap.get? b=some o→(⟨h',s.gens,s.drawn,s.toks+1,s.os⟩:Shared).heap.get? b=some o:=fun b o hb e=>(hs.2 b (fun z=>hb (.inl z))).trans e;have keepC:∀ c v,(∃ y,env.cells.lookup y=some c)→s.heap.IsCell c v→h'.IsCell c v:=by
   rintro c v ⟨y,hy⟩ ⟨o,e1,e2⟩;refine ⟨o,(hs.2 c fun z=>?_).trans e1,e2⟩;refine e12 (F.ns) fun m2 qz1 o_=>?_;obtain ⟨o2,es,ep,ho2,hd2,_⟩:=qz1;rw [z] at e1;obtain rfl:o=o2:=Qw (e1.symm.trans ho2);rw [e2] at hd2;cases hd2
  have calm:=own_calm keep F;have rv':=own_rb keep F (Nat.le_refl _) r;refine h _ (own_nxs keep F hT I rfl rfl ?_) ?_ (fun hL r=>own_rb keep F hL r) calm
  ·rintro b (rfl|⟨y,hk,hy⟩)
   ·obtain ⟨o,es,ep,ho,_⟩:=hn;exact ⟨o,ho⟩
   ·obtain ⟨_,_,v,hc⟩:=F.offC y b hy;refine nb fun kk=>?_;obtain ⟨o,ho,_⟩:=keepC b v ⟨y,hy⟩ hc;refine kk ?_;exact ⟨o,ho⟩
  ·exact {
    kind:=F.kind,names:=F.names,glob:=F.glob,blt:=F.blt
    ns:=by
     refine ⟨_,hn,by rw [if_neg (Ne.symm hne)];exact hi,fun y b hk hb=>?_⟩;rcases look y b hb with ⟨rfl,rfl⟩|⟨hyx,hb⟩
     ·exact ⟨rv,by rw [if_pos rfl],rv'⟩
     ·obtain ⟨u,e,ru⟩:=hv y b hk hb;exact ⟨u,by rw [if_neg hyx];exact e,own_rb keep F (Nat.le_refl _) ru⟩
    cell:=by
     intro y b hk hb;rcases look y b hb with ⟨rfl,rfl⟩|⟨hyx,hb⟩
     ·rcases hk with hk|hk<;>rw [k1] at hk<;>cases hk
     ·obtain ⟨c,u,e,hc,ru⟩:=F.cell y b hk hb;exact (xi2 c u ⟨e,keepC c _ ⟨y,e⟩ hc,own_rb keep F (Nat.le_refl _) ru⟩)
    hasCell:=by
     intro y hk;refine nb fun kk=>?_;refine e22 (F.hasCell y hk) fun c u e hc=>?_;refine kk ?_;exact (xi2 c u ⟨e,keepC c _ ⟨y,e⟩ hc⟩)
    offL:=F.offL
    offC:=by
     intro y c e;refine nb fun kk=>?_;refine e03 (F.offC y c e) fun h1 h2 qz=>?_;obtain ⟨u,hc⟩:=qz;refine kk ?_;exact ⟨h1,h2,u,keepC c _ ⟨y,e⟩ hc⟩
    own:=F.own,apart:=F.apart,well:=F.well,code:=F.code }
 ·
  refine nb fun kk=>?_;refine e22 (F.hasCell x (.inl k1)) fun c v0 e1 e2=>?_;refine kk ?_;refine wpAny_storeName_cell F.kind k2 e1 e2 (fun h' hn hs=>?_);have own_c:Own env sc c:=.inr ⟨x,k1,e1⟩;have keep:∀ b o,¬Own env sc b→s.heap.get? b=some o→(⟨h',s.gens,s.drawn,s.toks,s.os⟩:Shared).heap.get? b=some o:=fun b o hb e=>(hs.2 b (fun z=>hb (z▸own_c))).trans e;have keepC:∀ y c' v,y≠x→env.cells.lookup y=some c'→s.heap.IsCell c' v→h'.IsCell c' v:=by
   rintro y c' v hyx hy ⟨o,q1,q2⟩;refine ⟨o,(hs.2 c' fun z=>?_).trans q1,q2⟩;exact hyx (F.apart y x c' hy (z▸e1))
  have hnL:env.locals≠c:=by
   intro z;refine e12 (F.ns) fun m2 qz1 o_=>?_;obtain ⟨o2,es,ep,ho2,hd2,_⟩:=qz1;obtain ⟨o,q1,q2⟩:=e2;rw [←z] at q1;obtain rfl:o=o2:=Qw (q1.symm.trans ho2);rw [q2] at hd2;cases hd2
  have calm:=own_calm keep F;have rv':=own_rb keep F (Nat.le_refl _) r;refine h _ (own_nxs keep F hT I rfl rfl ?_) ?_ (fun hL r=>own_rb keep F hL r) calm
  ·rintro b (rfl|⟨y,hk,hy⟩)
   ·obtain ⟨m2,⟨o2,es,ep,ho2,hd2,_⟩,_⟩:=F.ns;exact ⟨o2,(hs.2 _ hnL).trans ho2⟩
   ·by_cases hyx:y=x
    ·subst hyx;obtain rfl:b=c:=Qw (hy.symm.trans e1);refine nb fun kk=>?_;obtain ⟨o,ho,_⟩:=hn;refine kk ?_;exact ⟨o,ho⟩
    ·obtain ⟨_,_,v,hc⟩:=F.offC y b hy;refine nb fun kk=>?_;obtain ⟨o,ho,_⟩:=keepC y b v hyx hy hc;refine kk ?_;exact ⟨o,ho⟩
  ·exact {
    kind:=F.kind,names:=F.names,glob:=F.glob,blt:=F.blt
    ns:=by
     refine nb fun kk=>?_;refine e13 (F.ns) fun m hm hi hv=>?_;refine kk ?_;refine ⟨m,As.ns (K:=K) hm fun o e=>.inl ((hs.2 _ hnL).trans e),hi,fun y b hk hb=>?_⟩;rcases look y b hb with ⟨rfl,rfl⟩|⟨hyx,hb⟩
     ·rw [k1] at hk;cases hk
     ·obtain ⟨u,e,ru⟩:=hv y b hk hb;exact ⟨u,e,own_rb keep F (Nat.le_refl _) ru⟩
    cell:=by
     intro y b hk hb;rcases look y b hb with ⟨rfl,rfl⟩|⟨hyx,hb⟩
     ·exact (xi2 c rv ⟨e1,hn,rv'⟩)
     ·obtain ⟨c',u,e,hc,ru⟩:=F.cell y b hk hb;exact (xi2 c' u ⟨e,keepC y c' _ hyx e hc,own_rb keep F (Nat.le_refl _) ru⟩)
    hasCell:=by
     intro y hk
     by_cases hyx:y=x
     ·subst hyx;exact (xi2 c _ ⟨e1,hn⟩)
     ·obtain ⟨c',u,e,hc⟩:=F.hasCell y hk;exact (xi2 c' u ⟨e,keepC y c' _ hyx e hc⟩)
    offL:=F.offL
    offC:=by
     intro y c' e;refine nb fun kk=>?_;refine e03 (F.offC y c' e) fun h1 h2 qz=>?_;obtain ⟨u,hc⟩:=qz;refine kk ?_
     by_cases hyx:y=x
     ·subst hyx;obtain rfl:c'=c:=Qw (e.symm.trans e1);exact ⟨h1,h2,_,hn⟩
     ·exact ⟨h1,h2,u,keepC y c' _ hyx e hc⟩
    own:=F.own,apart:=F.apart,well:=F.well,code:=F.code }
 ·exfalso;unfold canSet at hx;rw [k1] at hx;simp at hx
theorem Ux.ext {h h':Heap} (x:Heap.ExtBut h.objs.size h h'):Ux h h':=⟨fun b o e=>x b o (Nat.ne_of_lt (Heap.lt_size e)) e⟩
theorem Up.ext {h h':Heap} (x:Heap.ExtBut h.objs.size h h'):Up K.tabs h h':=⟨fun b o e=>.inl (x b o (Nat.ne_of_lt (Heap.lt_size e)) e)⟩
set_option tactic.hygienic true in
theorem names_ok {lo:Nat} {env:Env} {sc:Scope} {A:Around} {E:Value→Shared→Prop} (hT:Mono K T) (hw:wellSc sc):∀ (es:List (Str×Pos)) (vs:List Value) (xs:List V) (ρ:Rho) (σ:St) (ι:List Addr) (s:Shared) (Q:Unit→Shared→Prop),
  es.length=xs.length→(∀ x∈es,canSet sc x.1=true)→FrOk K ι s.heap env sc ρ→In0 K T ι σ s→RVs K.hid ι s.heap vs xs→
  (∀ s',NxS K T lo (Own env sc) σ ι ι s s'→FrOk K ι s'.heap env sc (((es.map (·.1)).zip (xs.map B.val)).reverse++ρ)→Q () s')→
  wpAny (model prog w) A (assignInOrder (es.map fun x=>assign (.Name x.1 x.2) env) vs) Q E s:=by
 intro es
 induction es with
 |nil=>
  intro vs xs ρ σ ι s Q hlen _ F I r h;cases r with
  |nil=>exact (Qf (h s (Nx.refl I).toS F):wpAny (model prog w) A (pure ()) Q E s)
  |cons=>cases hlen
 |cons x es ih=>
  intro vs xs ρ σ ι s Q hlen hc F I r h;cases r with
  |nil=>cases hlen
  |cons a b=>
   rename_i v y vs ys
   refine wpAny_assignInOrder_more (wpAny_assign_Name (store_ok (lo:=lo) hT hw (hc x (Qk ..)) F I (.val a) fun s1 N1 F1 o_ c1=>?_));refine ih vs ys _ σ ι s1 Q (by simpa using hlen) (fun z hz=>hc z (Qj _ hz)) F1 N1.inn (b.calm c1) fun s2 N2 F2=>?_;refine h s2 (N1.trans N2) ?_;simpa using F2
set_option tactic.hygienic true in
theorem assign_ok {lo:Nat} {ι:List Addr} {s:Shared} {env:Env} {sc:Scope} {ρ ρ':Rho} {σ:St} {A:Around} {E:Value→Shared→Prop} {Q:Unit→Shared→Prop} {t:Expr} {rv:Value} {v:V}
  (hT:Mono K T) (hw:wellSc sc) (hA:A.handled=none) (e:bindT sc t v ρ=some ρ') (F:FrOk K ι s.heap env sc ρ) (I:In0 K T ι σ s) (r:RV K.hid ι s.heap rv v)
  (h:∀ s',NxS K T lo (Own env sc) σ ι ι s s'→FrOk K ι s'.heap env sc ρ'→Q () s'):wpAny (model prog w) A (assign t env rv) Q E s:=by
 have tup:∀ (es:List (Str×Pos)) (xs:List V) (x1:Nat) (pos:Pos),t=.Tuple (es.map fun x=>.Name x.1 x.2) x1 pos→v=.tup xs→es.length=xs.length→(∀ x∈es,canSet sc x.1=true)→
   (((es.map (·.1)).zip (xs.map B.val)).reverse++ρ)=ρ'→wpAny (model prog w) A (assign t env rv) Q E s:=by
  rintro es xs x1 pos rfl rfl hlen hc rfl;cases r with
  |tup ha hh ho hr=>
   rename_i a items n
   have each:∀ l:List (Str×Pos),assignEach (l.map fun x=>Expr.Name x.1 x.2) env=l.map fun x=>(false,assign (.Name x.1 x.2) env):=by
    intro l
    induction l with
    |nil=>rfl
    |cons x l ih=>exact congrArg ((false,assign (.Name x.1 x.2) env)::·) ih
   have hsz:=hr.size;refine wpAny_assign_Tuple hA (tupObj_isTuple ho) (by rw [each,Qx,hsz,hlen]) ?_ fun h' hx=>?_
   ·rw [each,List.findIdx?_eq_none_iff];intro x hx;refine e12 (List.mem_map.mp hx) fun y o_ qz2=>?_;obtain rfl:=qz2
    rfl
   ·have U:Ux s.heap h':=Ux.ext hx;have N:Nx K T lo σ ι ι s { s with heap:=h' }:=Nx.heap hT I U s.toks;rw [each,List.map_map];refine names_ok (lo:=lo) hT hw es _ xs ρ σ ι _ Q hlen hc (F.grow N.grow) N.inn (hr.grow N.grow) fun s2 N2 F2=>h s2 (N.toS.trans N2) F2
 refine iBindT e (fun x p q hc q2=>?_) fun l xs k p q1 q2 hlen hc q3=>tup l xs k p q1 q2 hlen hc q3.symm;subst q q2;exact wpAny_assign_Name (store_ok hT hw hc F I (.val r) fun s1 N1 F1 o_ o_=>h s1 N1 F1)
theorem forLoop_go {A:Around} {R:Result→Shared→Prop} {target:Expr} {it:Value} {body orelse:List Stmt} {env:Env} {s:Shared} (I:Nat→Shared→Prop)
  (turn:∀ n s,I n s→wpAny (model prog w) A (pyNext it) (fun r s₁=>match r with
   |none=>wpAny (model prog w) A (execs orelse env) (fun f s₃=>R (.ok f) s₃) (notedBy (model prog w) A env fun e s'=>R (.error e) s') s₁
   |some v=>wpAny (model prog w) A (letOwnedTupleGo target it v) (fun o_ s₂=>wpAny (model prog w) A (assign target env v) (fun o_ s₂=>wpAny (model prog w) A (execs body env) (fun f s₃=>match f with
     |.next|.cont=>∃ m,m<n∧I m s₃
     |.brk=>R (.ok .next) s₃
     |.ret v=>R (.ok (.ret v)) s₃) (notedBy (model prog w) A env fun e s'=>R (.error e) s') s₂) (notedBy (model prog w) A env fun e s'=>R (.error e) s') s₂) (notedBy (model prog w) A env fun e s'=>R (.error e) s') s₁) (notedBy (model prog w) A env fun e s'=>R (.error e) s') s)
  (n:Nat) (h:I n s):codeAny (model prog w) A (.forLoop target it body orelse env) R s:=by
 refine codeAny_loop' rfl I (fun n s hI=>?_) n h;show wpAny _ _ ((forTurn target it body orelse env).onRaise (fun x=>do noteFrame x env;theTreesLotGoes x)) _ _ s;refine wpAny_noted ?_;simp -iota only [forTurn];refine Qq (wpAny_standAt (Qq (wpAny_onRaise (Wj (turn n s hI) (fun r s₁ h₁=>?_) fun o_ o_ h'=>wpAny_standAt h'))));cases r with
 |none=>exact Qf (.inr ⟨rfl,codeAny_block h₁⟩)
 |some v=>
  refine Qq (Wj h₁ (fun o_ s₁ h₁=>Qq (Wj h₁ (fun o_ s₂ h₂=>Qq (Wj h₂ (fun f s₃ h₃=>?_) fun o_ o_ h'=>h')) fun o_ o_ h'=>h')) fun o_ o_ h'=>h');cases f with
  |next=>exact Qf (.inl ⟨rfl,h₃⟩)
  |cont=>exact Qf (.inl ⟨rfl,h₃⟩)
  |brk=>exact Qf h₃
  |ret v=>exact Qf h₃
end
section
inductive RFl (H ι:List Addr) (h:Heap):Flow→Fl→Prop
 |next:RFl H ι h .next .next
 |brk:RFl H ι h .brk .brk
 |cont:RFl H ι h .cont .cont
 |ret {rv:Value} {v:V}:RV H ι h rv v→RFl H ι h (.ret rv) (.ret v)
section defs
variable (prog:Program) (w:World) (C:Cfg) (K:Cst) (T:Heap→Prop)
noncomputable def XCont (lo:Nat) (env:Env) (sc:Scope) (fl:Fl) (ρ':Rho) (σ':St) (ι:List Addr) (s:Shared) (Q:Flow→Shared→Prop):Prop:=∀ rf s' ι',NxS K T lo (Own env sc) σ' ι ι' s s'→FrOk K ι' s'.heap env sc ρ'→RFl K.hid ι' s'.heap rf fl→Q rf s'
noncomputable def ItrCont (lo:Nat) (e:Expr) (σ':St) (it:It) (A:Around) (target:Expr) (ι:List Addr) (s:Shared) (Q:Value→Shared→Prop):Prop:=∀ itv s' ι' fp gp (R:List Addr→Nat→List Addr→Shared→Prop),Nx K T lo σ' ι ι' s s'→(∀ H,IterOk prog w (K.withH H) T A itv target fp gp it.nth (R H))→R K.hid 0 ι' s'→(notGen e=true→(∀ H D k ι s,R H k ι s→s.heap.get? D=none→R (D::H) k ι s)∧∀ b∈fp,∃ o,s'.heap.get? b=some o)→(∀ b∈fp,s.heap.get? b=none)→(∀ g∈gp,s.gens[g]?=none)→Q itv s'
noncomputable def XGood (lo:Nat) (σ σ':St) (fl:Fl) (ρ ρ':Rho) (A:Around) (env:Env) (sc:Scope) (m:Sem Flow):Prop:=∀ {ι:List Addr} {s:Shared} {Q:Flow→Shared→Prop} {E:Value→Shared→Prop},FrOk K ι s.heap env sc ρ→In0 K T ι σ s→
 XCont K T lo env sc fl ρ' σ' ι s Q→wpAny (model prog w) A m Q E s
noncomputable def IGood (lo:Nat) (e:Expr) (σ σ':St) (it:It) (A:Around) (env:Env) (sc:Scope) (ρ:Rho) (target:Expr):Prop:=∀ {ι:List Addr} {s:Shared} {Q:Value→Shared→Prop} {E:Value→Shared→Prop},FrOk K ι s.heap env sc ρ→In0 K T ι σ s→
 ItrCont prog w K T lo e σ' it A target ι s Q→wpAny (model prog w) A (eval e env) (fun x s₁=>wpAny (model prog w) A (pyIter x) Q E s₁) E s
end defs
variable {prog:Program} {w:World} {C:Cfg} {K:Cst} {T:Heap→Prop}
theorem stb_of {lo:Nat} {σ:St} {ι ι':List Addr} {s s':Shared} {env:Env} {sc:Scope} {ρ:Rho} {fp:List Addr} {gp:List Nat} (ht:∀ b∈K.tabs,b<K.N0) (N:NxS K T lo (Own env sc) σ ι ι' s s') (F:FrOk K ι s.heap env sc ρ) (fo:FpOk K fp ι s.heap)
  (hL:env.locals∉fp):Stb K T fp gp ι ι' s s':=by
 refine ⟨N.pre,fun b o hb hq e=>?_,N.gm,N.inn.top⟩;have hd:b∉ι.drop lo:=fun z=>hb (List.mem_of_mem_drop z);rcases hq with hq|⟨_,items,n,rfl|rfl⟩|⟨⟨c,hc⟩,vs,hvs⟩
 ·obtain ⟨h1,h2,hp⟩:=fo.ok b hq;have hp:=hp o e;have hown:¬Own env sc b:=by
   rintro (rfl|⟨x,hk,hx⟩)
   ·exact hL hq
   ·obtain ⟨_,_,v,o2,ho2,hd2⟩:=F.offC x b hx;obtain rfl:o=o2:=Qw (e.symm.trans ho2);exact np_cell hd2 hp
  exact (N.keep b o hd hown e).off fun z=>absurd (ht b z) (Ww h1)
 ·exact (N.keep b _ hd (own_off F e (fun o_ o_ z=>by cases z) (fun o_ z=>by cases z)) e).get (nf_tup _ _)
 ·exact (N.keep b _ hd (own_off F e (fun o_ o_ z=>by cases z) (fun o_ z=>by cases z)) e).get (nf_lst _ _)
 ·exact (N.keep b _ hd (own_off F e (fun o_ o_ z=>by rw [hvs] at z;cases z) (fun o_ z=>by rw [hvs] at z;cases z)) e).cls hc
theorem step_of {W:Addr→Prop} {lo:Nat} {σ:St} {ι ι':List Addr} {s s1 s2:Shared} {env:Env} {sc:Scope} {ρ:Rho} {fp:List Addr} {gp:List Nat} (hT:Mono K T) (hfp:∀ b∈fp,s.heap.get? b=none) (hgp:∀ g∈gp,s.gens[g]?=none)
  (fo:FpOk K fp ι' s1.heap) (hL:env.locals∉fp) (N:NxS K T lo W σ ι ι' s s1) (F:FrOk K ι' s1.heap env sc ρ) (q:Qt K fp gp s1 s2):NxS K T lo W σ ι ι' s s2∧FrOk K ι' s2.heap env sc ρ:=by
 refine ⟨⟨N.pre,fun b o hb ho e=>(N.keep b o hb ho e).trans fun o' e'=>.inl (q.only b o' (fun z=>by rw [hfp b z] at e;cases e) e'),fun b o e=>?_,q.inn fo hT N.inn,q.os.trans N.os,
   fun g x e=>q.gm g x (fun z=>by rw [hgp g z] at e;cases e) (N.gm g x e)⟩,q.fr fo F hL⟩
 refine e11 (N.there b o e) fun o' e'=>?_;exact ⟨o',q.only b o' (fun z=>by rw [hfp b z] at e;cases e) e'⟩
noncomputable def forNth (it:It) (a:Rho×St) (k:Nat):Option (Option V):=it.nth a.2 k
noncomputable def forBody (sc:Scope) (t:Expr) (B:Rho→St→Fl→Rho→St→Prop) (v:V) (a:Rho×St) (fl:Fl) (a':Rho×St):Prop:=∃ ρ₁,bindT sc t v a.1=some ρ₁∧B ρ₁ a.2 fl a'.1 a'.2
theorem for_ok (hT:Mono K T) (ht:∀ b∈K.tabs,b<K.N0) {sc:Scope} {lo m:Nat} {t e:Expr} {b:List Stmt} {p:Pos} {ρ ρ':Rho} {σ σ1 σ':St} {fl:Fl} {it:It} {A:Around} {env:Env} {B:Rho→St→Fl→Rho→St→Prop} (hh:A.handled=none) (hw:wellSc sc)
  (hns:∀ x,foldedSetIterable e env x=pure x) (h1:IGood prog w K T lo e σ σ1 it A env sc ρ t) (hB:∀ {ρ σ fl ρ' σ'},B ρ σ fl ρ' σ'→XGood prog w K T lo σ σ' fl ρ ρ' A env sc (execs b env)) (e2:Lp (forNth it) (forBody sc t B) m 0 (ρ,σ1) fl (ρ',σ')):
  XGood prog w K T lo σ σ' fl ρ ρ' A env sc (exec (.For t e b [] p) env):=by
 intro ι s Q E F I h;refine wpAny_For (h1 F I fun itv s1 ι1 fp gp RH N1 It' R1 o_ hfp hgp=>?_) hns;have It:IterOk prog w K T A itv t fp gp it.nth (RH K.hid):=It' K.hid
 let Inv:Nat→Shared→Prop:=fun m s'=>∃ k ρ₁ σ₁ ι',Lp (forNth it) (forBody sc t B) m k (ρ₁,σ₁) fl (ρ',σ')∧NxS K T lo (Own env sc) σ₁ ι ι' s s'∧FrOk K ι' s'.heap env sc ρ₁∧RH K.hid k ι' s'
 refine forLoop_go Inv ?_ _ (xi4 0 ρ σ1 ι1 ⟨e2,N1.toS,F.grow N1.grow,R1⟩);rintro m s' ⟨k,ρ₁,σ₁,ι',e3,N,F',R'⟩;have hL:env.locals∉fp:=fun z=>by
  refine e12 (F.ns) fun m2 qz1 o_=>?_;obtain ⟨o2,es,ep,ho2,_⟩:=qz1;rw [hfp _ z] at ho2;cases ho2
 have step:=fun {s2:Shared} (q:Qt K fp gp s' s2)=>step_of hT hfp hgp (It.fpok R') hL N F' q;refine iLp e3 (fun hn e4 e5=>?_) fun x m' f a' hm hn e4 e5=>?_
 ·refine Wj (It.fin (Q:=fun s2=>Q .next s2) (E:=notedBy (model prog w) A env fun (e:Value) (s':Shared)=>cameBackBy (model prog w) A env E e s') hn R' N.inn fun s2 q=>?_) (fun r s2 hr=>?_) fun o_ o_ x=>x
  ·cases e4;cases e5;exact h _ _ _ (step q).1 (step q).2 .next
  ·obtain ⟨rfl,hq⟩:=hr;exact wpAny_execs_nil hq
 ·subst hm
  let E':=notedBy (model prog w) A env fun (e:Value) (s':Shared)=>cameBackBy (model prog w) A env E e s'
  let QQ:Value→Shared→Prop:=fun v s2=>wpAny (model prog w) A (assign t env v) (fun o_ s₂=>wpAny (model prog w) A (execs b env) (fun f s₃=>match f with
    |.next|.cont=>∃ m'',m''<m'+1∧Inv m'' s₃
    |.brk=>Q .next s₃
    |.ret v=>Q (.ret v) s₃) E' s₂) E' s2
  refine Wj (It.turn (Q:=QQ) (E:=E') hn R' N.inn fun v s2 q rv R2=>?_) (fun r s2 hr=>?_) fun o_ o_ x=>x
  ·obtain ⟨N2,F2⟩:=step q;refine e4.elim fun ρ₂ e4=>assign_ok (lo:=lo) hT hw hh e4.1 F2 N2.inn rv fun s3 N3 F3=>hB e4.2 F3 N3.inn fun rf s4 ι4 N4 F4 rfl'=>?_;have N4':=(N2.trans N3).trans N4;have R4:RH K.hid (k+1) ι4 s4:=It.stable R2 (fun z=>absurd z (Nat.succ_ne_zero _)) (stb_of ht (N3.trans N4) F2 (It.fpok R2) hL);cases rfl' with
   |next=>exact ⟨m',Nat.lt_succ_self _,k+1,a'.1,a'.2,ι4,e5,N4',F4,R4⟩
   |cont=>exact ⟨m',Nat.lt_succ_self _,k+1,a'.1,a'.2,ι4,e5,N4',F4,R4⟩
   |brk=>obtain ⟨rfl,rfl⟩:=e5;exact h _ _ _ N4' F4 .next
   |ret r=>obtain ⟨rfl,rfl⟩:=e5;exact h _ _ _ N4' F4 (.ret r)
  ·obtain ⟨v,rfl,hv⟩:=hr;exact hv
end
section
variable {prog:Program} {w:World} {C:Cfg} {K:Cst} {T:Heap→Prop}
theorem nodupN_lookup:∀ {l:List (Str×NameKind)},nodupN l=true→∀ {x:Str} {k:NameKind},(x,k)∈l→l.lookup x=some k
 |[],_,_,_,h=>nomatch h
 |(y,j)::r,hn,x,k,h=>by
  have hn:(r.all (fun z=>!(z.1==y))&&nodupN r)=true:=hn;rw [Bool.and_eq_true] at hn;rw [List.lookup_cons];rcases Wy h with e|e
  ·cases e;simp
  ·have:=List.all_eq_true.mp hn.1 (x,k) e;have hxy:(x==y)=false:=by simpa -iota using this
   rw [hxy];exact nodupN_lookup hn.2 e
theorem lookup_mem {α:Type}:∀ {l:List (Str×α)} {x:Str} {k:α},l.lookup x=some k→(x,k)∈l
 |[],_,_,h=>by simp at h
 |(y,j)::r,x,k,h=>by
  rw [List.lookup_cons] at h;cases q:x==y with
  |true=>rw [q] at h;cases h;rw [eq_of_beq q];exact Qk ..
  |false=>rw [q] at h;exact Qj _ (lookup_mem h)
structure ScOk (s:Scope):Prop where
 kind:s.kind=.function
 gen:s.isGenerator=false
 co:s.isCoroutine=false
 nodup:nodupN s.names=true
 well:wellSc s
theorem okSc_iff {s:Scope} (h:okSc s=true):ScOk s:=by
 unfold okSc at h;simp only [Bool.and_eq_true,beq_iff_eq,Bool.not_eq_true',Option.isNone_iff_eq_none] at h;refine e02 (h) fun qz0 h7=>?_;obtain ⟨⟨⟨⟨⟨h1,h2⟩,h3⟩,h4⟩,h5⟩,h6⟩:=qz0;exact ⟨h1,h2,h3,h4,h5,h6,h7⟩
theorem closure_go {env:Env} (ok:Str→Prop) (hok:∀ x,ok x→∃ c,env.cells.lookup x=some c):∀ (names:List (Str×NameKind)) (cs:List (Str×Addr)),(∀ x∈names,x.2=.free→ok x.1)→
  ∃ cl:List (Str×Addr),(forIn names cs (fun x r=>if (x.2==NameKind.free)=true then (do let a←cellOf env x.1;pure (ForInStep.yield ((x.1,a)::r))) else pure (ForInStep.yield r)):Sem (List (Str×Addr)))=pure cl∧
   (∀ x c,(x,c)∈cl→(x,c)∈cs∨(env.cells.lookup x=some c∧(x,.free)∈names))∧(∀ x∈names,x.2=.free→∃ c,(x.1,c)∈cl)∧(∀ y∈cs,y∈cl):=by
 intro names
 induction names with
 |nil=>intro cs _;exact ⟨cs,rfl,fun o_ o_ h=>.inl h,fun o_ h=>(nomatch h),fun o_ h=>h⟩
 |cons y r ih=>
  intro cs hf;refine nb fun kk=>?_;obtain ⟨n,k⟩:=y;refine kk ?_
  by_cases hk:(k==NameKind.free)=true
  ·have hk':k=.free:=by simpa -iota using hk
   refine nb fun kk=>?_;refine e11 (hok n (hf (n,k) (Qk ..) hk')) fun c hc=>?_;have hce:cellOf env n=pure c:=by unfold cellOf;rw [hc]
   refine e14 (ih ((n,c)::cs) (fun x hx=>hf x (Qj _ hx))) fun cl e h1 h2 h3=>?_;refine kk ?_;refine ⟨cl,?_,?_,?_,?_⟩
   ·rw [List.forIn_cons];simp -iota only [hk,if_true,hce];exact e
   ·intro x d hm;rcases h1 x d hm with z|z
    ·rcases Wy z with z|z
     ·cases z;exact .inr ⟨hc,by rw [hk'];exact Qk ..⟩
     ·exact .inl z
    ·exact .inr ⟨z.1,Qj _ z.2⟩
   ·intro x hx hxf;rcases Wy hx with z|z
    ·subst z;exact ⟨c,h3 _ (Qk ..)⟩
    ·exact h2 x z hxf
   ·intro y hy;exact h3 y (Qj _ hy)
  ·obtain ⟨cl,e,h1,h2,h3⟩:=ih cs (fun x hx=>hf x (Qj _ hx));refine ⟨cl,?_,?_,?_,h3⟩
   ·rw [List.forIn_cons];simp -iota only [hk,if_false];exact e
   ·intro x d hm;rcases h1 x d hm with z|z
    ·exact .inl z
    ·exact .inr ⟨z.1,Qj _ z.2⟩
   ·intro x hx hxf;rcases Wy hx with z|z
    ·subst z;exact absurd (by simpa -iota using hxf) hk
    ·exact h2 x z hxf
theorem okFree_all {sc s:Scope} (h:okFree sc s=true):(s.names.all fun x=>x.2 !=.free||(kindIn sc x.1==some .cell||kindIn sc x.1==some .free))=true:=(Bool.and_eq_true_iff.mp h).2
theorem okFree_host {sc s:Scope} (h:okFree sc s=true) (hs:hostSc s=true):hostSc sc=true:=by
 have:=(Bool.and_eq_true_iff.mp h).1;rw [hs] at this;exact this
theorem closure_ok {ι:List Addr} {h:Heap} {env:Env} {sc s:Scope} {ρ:Rho} (F:FrOk K ι h env sc ρ) (hfree:okFree sc s=true):
  ∃ cl,closureFor s env=pure cl∧(∀ x c,(x,c)∈cl→env.cells.lookup x=some c∧(x,.free)∈s.names)∧(∀ x,(x,.free)∈s.names→∃ c,(x,c)∈cl):=by
 refine nb fun kk=>?_;obtain ⟨cl,e,h1,h2,_⟩:=closure_go (env:=env) (fun x=>kindIn sc x=some .cell∨kindIn sc x=some .free) (fun x hx=>let ⟨c,v,e,_⟩:=F.hasCell x hx;⟨c,e⟩) s.names [] (by
  intro x hx hk;have:=List.all_eq_true.mp (okFree_all hfree) x hx;rw [hk] at this;simpa using this)
 refine kk ?_;refine ⟨cl,?_,fun x c hm=>?_,fun x hx=>h2 (x,.free) hx rfl⟩
 ·unfold closureFor;refine Eq.trans ?_ e;simp
 ·rcases h1 x c hm with z|z
  ·cases z
  ·exact z
theorem lookup_of_mem {α:Type}:∀ {l:List (Str×α)} {x:Str} {c:α},(x,c)∈l→∃ c',l.lookup x=some c'
 |[],_,_,h=>nomatch h
 |(y,j)::r,x,c,h=>by
  rw [List.lookup_cons];cases q:x==y with
  |true=>exact ⟨j,rfl⟩
  |false=>
   rcases Wy h with e|e
   ·cases e;simp at q
   ·exact lookup_of_mem e
structure CellsSpec (h:Heap) (names:List (Str×NameKind)) (acc cs:List (Str×Addr)) (h':Heap):Prop where
 mem:∀ x c,(x,c)∈cs→(x,c)∈acc∨((x,NameKind.cell)∈names∧h.objs.size≤c∧h'.IsCell c none)
 all:∀ x,(x,NameKind.cell)∈names→∃ c,(x,c)∈cs
 sub:∀ p∈acc,p∈cs
 uniq:∀ x y c,(x,c)∈cs→(y,c)∈cs→h.objs.size≤c→x=y
theorem cellsFrom_spec:∀ (names:List (Str×NameKind)) (h:Heap) (acc:List (Str×Addr)),(∀ x c,(x,c)∈acc→c<h.objs.size)→
  CellsSpec h names acc (cellsFrom h.objs.size names acc) (pushCells h names)
 |[],h,acc,hu=>⟨fun o_ o_ e=>.inl e,fun o_ e=>(nomatch e),fun o_ e=>e,fun x y c hx o_ hc=>absurd (hu x c hx) (Ww hc)⟩
 |(n,k)::r,h,acc,hu=>by
  by_cases hk:(k==NameKind.cell)=true
  ·have hk':k=.cell:=by simpa using hk
   subst hk';have e1:cellsFrom h.objs.size ((n,NameKind.cell)::r) acc=cellsFrom (h.push { cls:=.type "cell",data:=.cell none }).objs.size r ((n,h.objs.size)::acc):=by
    rw [Heap.size_push];rfl
   have e2:pushCells h ((n,NameKind.cell)::r)=pushCells (h.push { cls:=.type "cell",data:=.cell none }) r:=rfl;have ih:=cellsFrom_spec r (h.push { cls:=.type "cell",data:=.cell none }) ((n,h.objs.size)::acc) (by
    intro x c hx;rw [Heap.size_push];rcases Wy hx with ex|ex
    ·cases ex;exact Nat.lt_succ_self _
    ·exact Nat.lt_succ_of_lt (hu x c ex))
   rw [e1,e2];refine ⟨fun x c hm=>?_,fun x hx=>?_,fun p hp=>ih.sub p (Qj _ hp),fun x y c hx hy hc=>?_⟩
   ·rcases ih.mem x c hm with z|⟨z1,z2,z3⟩
    ·rcases Wy z with z|z
     ·cases z;exact .inr ⟨Qk ..,Nat.le_refl _,⟨_,pushCells_keeps r _ _ _ (Heap.get?_push_size _ rfl),rfl⟩⟩
     ·exact .inl z
    ·rw [Heap.size_push] at z2;exact .inr ⟨Qj _ z1,by omega,z3⟩
   ·rcases Wy hx with z|z
    ·cases z;exact ⟨_,ih.sub _ (Qk ..)⟩
    ·exact ih.all x z
   ·rcases Nat.eq_or_lt_of_le hc with q|q
    ·
     have only:∀ z,(z,c)∈cellsFrom (h.push { cls:=.type "cell",data:=.cell none }).objs.size r ((n,h.objs.size)::acc)→z=n∨(z,c)∈acc:=by
      intro z hz;rcases ih.mem z c hz with w|⟨_,w,_⟩
      ·rcases Wy w with w|w
       ·cases w;exact .inl rfl
       ·exact .inr w
      ·rw [Heap.size_push] at w;omega
     have only':∀ z,(z,c)∈cellsFrom (h.push { cls:=.type "cell",data:=.cell none }).objs.size r ((n,h.objs.size)::acc)→z=n:=by
      intro z hz;rcases only z hz with w|w
      ·exact w
      ·exact absurd (hu z c w) (Ww (Nat.le_of_eq q))
     rw [only' x hx,only' y hy]
    ·exact ih.uniq x y c hx hy (by rw [Heap.size_push];omega)
  ·have e1:cellsFrom h.objs.size ((n,k)::r) acc=cellsFrom h.objs.size r acc:=by
    show (if (k==NameKind.cell)=true then _ else _)=_;rw [if_neg hk]
   have e2:pushCells h ((n,k)::r)=pushCells h r:=by
    show (if (k==NameKind.cell)=true then _ else _)=_;rw [if_neg hk]
   rw [e1,e2];have ih:=cellsFrom_spec r h acc hu;refine ⟨fun x c hm=>?_,fun x hx=>?_,ih.sub,ih.uniq⟩
   ·rcases ih.mem x c hm with z|⟨z1,z2,z3⟩
    ·exact .inl z
    ·exact .inr ⟨Qj _ z1,z2,z3⟩
   ·rcases Wy hx with z|z
    ·cases z;simp at hk
    ·exact ih.all x z
theorem layed_keep {h:Heap} {o:Obj} {names:List (Str×NameKind)}:∀ b q,h.get? b=some q→(pushCells (h.push o) names).get? b=some q:=
 fun b q e=>pushCells_keeps names _ b q (Qg _ e)
theorem binds_ok {lo:Nat} {env:Env} {sc:Scope} {A:Around} {E:Value→Shared→Prop} (hT:Mono K T) (hw:wellSc sc):∀ (bs:List (Str×Value×B)) (ρ:Rho) (σ:St) (ι:List Addr) (s:Shared) (Q:PUnit→Shared→Prop),
  (∀ p∈bs,canSet sc p.1=true∧RB ι s.heap K env.locals p.2.1 p.2.2)→FrOk K ι s.heap env sc ρ→In0 K T ι σ s→
  (∀ s',NxS K T lo (Own env sc) σ ι ι s s'→FrOk K ι s'.heap env sc ((bs.map fun p=>(p.1,p.2.2)).reverse++ρ)→Q ⟨⟩ s')→
  wpAny (model prog w) A (forIn (bs.map fun p=>(p.1,p.2.1)) PUnit.unit (fun x r=>(do storeName env x.1 x.2;pure (ForInStep.yield PUnit.unit):Sem (ForInStep PUnit)))) Q E s:=by
 intro bs
 induction bs with
 |nil=>intro ρ σ ι s Q _ F I h;exact Qf (h s (Nx.refl I).toS F)
 |cons p bs ih=>
  intro ρ σ ι s Q hb F I h;rw [List.map_cons,List.forIn_cons];refine nb fun kk=>?_;refine e02 (hb p (Qk ..)) fun h1 h2=>?_;refine kk ?_;refine Qq (Qq (store_ok (lo:=lo) hT hw h1 F I h2 fun s1 N1 F1 rb o_=>Qf ?_));refine ih _ σ ι s1 Q (fun q hq=>?_) F1 N1.inn fun s2 N2 F2=>?_
  ·obtain ⟨g1,g2⟩:=hb q (Qj _ hq);exact ⟨g1,rb (Nat.le_refl _) g2⟩
  ·refine h s2 (N1.trans N2) ?_;simpa using F2
noncomputable def aroundCode (around:Option Env) (code:Value):Value:=match around with
 |some o=>o.code
 |none=>code
theorem newEnv_okF {lo:Nat} {scope:Scope} {closure:List (Str×Addr)} {bs:List (Str×Value×B)} {qual:Str} {func:Option Addr} {code:Value} {around:Option Env} {A:Around} {E:Value→Shared→Prop}
  {ι:List Addr} {σ:St} {s:Shared} {ρ:Rho} {Q:Env→Shared→Prop} (hT:Mono K T) (hN:K.N0≤s.heap.objs.size) (S:ScOk scope) (I:In0 K T ι σ s)
  (hcl:∀ x c,(x,c)∈closure→(x,NameKind.free)∈scope.names∧c∉ι∧K.N0≤c∧∃ v,s.heap.IsCell c v)
  (hclA:∀ x y c,(x,c)∈closure→(y,c)∈closure→x=y) (hclF:∀ x,(x,NameKind.free)∈scope.names→∃ c,(x,c)∈closure)
  (hρ:∀ x b,ρ.lookup x=some b→kindIn scope x=some .free∧∀ c,(x,c)∈closure→∃ v,s.heap.IsCell c (some v)∧RB ι s.heap K s.heap.objs.size v b)
  (hcd:hostSc scope=true→∃ x∈K.codes,aroundCode around code=.ref x.1) (hb:∀ p∈bs,canSet scope p.1=true∧RB ι s.heap K s.heap.objs.size p.2.1 p.2.2) (har:∀ o,around=some o→o.builtins=builtinsNs)
  (h:∀ env s',(around=none→env.frame=some env.locals)→env.locals=s.heap.objs.size→env.scope=scope→env.code=aroundCode around code→env.func=func→env.qual=qual→Nx K T lo σ ι ι s s'→FrOk K ι s'.heap env scope ((bs.map fun p=>(p.1,p.2.2)).reverse++ρ)→
   (∀ o,around=some o→env.cells=cellsFrom (s.heap.objs.size+1) scope.names closure)→Q env s'):
  wpAny (model prog w) A (newFunctionEnv scope mainGlobals closure (bs.map fun p=>(p.1,p.2.1)) qual func code around builtinsNs) Q E s:=by
 simp -iota only [newFunctionEnv];refine Qq (wpAny_alloc ?_);refine Qq (wpAny_layCells _ (fun name kind cells=>by cases hkc:kind==NameKind.cell<;>simp [hkc]) _ _ _ _ ?_);generalize hcls:(Value.type (if around.isSome=true then "dict" else "frame"))=cls;have hsz1:(s.heap.push { cls:=cls,data:=.dict #[] }).objs.size=s.heap.objs.size+1:=Heap.size_push ..;have sp:=cellsFrom_spec scope.names (s.heap.push { cls:=cls,data:=.dict #[] }) closure (fun x c hm=>by
  refine e04 (hcl x c hm) fun o_ o_ o_ qz=>?_;obtain ⟨v,o,ho,_⟩:=qz;rw [hsz1];exact Nat.lt_succ_of_lt (Heap.lt_size ho))
 have keep:=layed_keep (h:=s.heap) (o:={ cls:=cls,data:=.dict #[] }) (names:=scope.names);have start:∀ env:Env,env.scope=scope→env.locals=s.heap.objs.size→env.globals=mainGlobals→env.builtins=builtinsNs→env.cells=cellsFrom (s.heap.objs.size+1) scope.names closure→env.code=aroundCode around code→
   FrOk K ι (pushCells (s.heap.push { cls:=cls,data:=.dict #[] }) scope.names) env scope ρ∧Nx K T lo σ ι ι s { s with heap:=pushCells (s.heap.push { cls:=cls,data:=.dict #[] }) scope.names }:=by
  intro env e1 e2 e3 e4 e5 e6;have U:Ux s.heap (pushCells (s.heap.push { cls:=cls,data:=.dict #[] }) scope.names):=Ux.of_keep keep;have N:Nx K T lo σ ι ι s { s with heap:=pushCells (s.heap.push { cls:=cls,data:=.dict #[] }) scope.names }:=Nx.heap hT I U s.toks;rw [hsz1] at sp;have cellAt:∀ x c,env.cells.lookup x=some c→c∉ι∧K.N0≤c∧(∃ v,(pushCells (s.heap.push { cls:=cls,data:=.dict #[] }) scope.names).IsCell c v)∧
    (((x,c)∈closure∧(x,NameKind.free)∈scope.names)∨((x,NameKind.cell)∈scope.names∧s.heap.objs.size+1≤c)):=by
   intro x c hx;rw [e5] at hx;rcases sp.mem x c (lookup_mem hx) with z|⟨z1,z2,z3⟩
   ·obtain ⟨g1,g2,g3,v,g4⟩:=hcl x c z;exact ⟨g2,g3,⟨v,(As.cell (K:=K) g4 fun o e=>.inl (keep _ _ e))⟩,.inl ⟨z,g1⟩⟩
   ·refine ⟨fun hm=>?_,?_,⟨none,z3⟩,.inr ⟨z1,by rw [hsz1] at z2;exact z2⟩⟩
    ·have:=lt_of_mem I.rel hm;rw [hsz1] at z2;exact absurd (Qh this (Nat.le_of_succ_le z2)) (Nat.lt_irrefl _)
    ·rw [hsz1] at z2;exact Qy hN (Nat.le_of_succ_le z2)
  refine ⟨?_,N⟩;exact {
   kind:=by rw [e1];exact S.kind
   names:=fun x=>.inl (by rw [e1])
   glob:=e3,blt:=e4
   ns:=by
    refine ⟨fun o_=>none,?_,rfl,fun x b hk hb=>?_⟩
    ·rw [e2];exact (Heap.Ns.new s.heap cls).keeps (pushCells_keeps _ _)
    ·obtain ⟨hf,_⟩:=hρ x b hb;rw [hf] at hk;cases hk
   cell:=by
    intro x b hk hb;refine e02 (hρ x b hb) fun hf hc=>?_;refine e11 (hclF x (lookup_mem hf)) fun c hm=>?_;have hin:(x,c)∈cellsFrom (s.heap.objs.size+1) scope.names closure:=sp.sub _ hm;refine e11 (lookup_of_mem hin) fun c2 hl2=>?_;have hc2:env.cells.lookup x=some c2:=by rw [e5];exact hl2
    refine e04 (cellAt x c2 hc2) fun o_ o_ o_ q=>?_;rcases q with ⟨q,_⟩|⟨q,_⟩
    ·obtain ⟨v,hv,hr⟩:=hc c2 q;refine (xi2 c2 v ⟨hc2,As.cell (K:=K) hv fun o e=>.inl (keep _ _ e),?_⟩);rw [e2];exact hr.grow (U.up.grow ι)
    ·have:=nodupN_lookup S.nodup q;rw [show scope.names.lookup x=kindIn scope x from rfl,hf] at this;cases this
   hasCell:=by
    intro x hk;rcases hk with hk|hk
    ·obtain ⟨c,hm⟩:=sp.all x (lookup_mem hk);refine e11 (lookup_of_mem hm) fun c2 hl2=>?_;have hc2:env.cells.lookup x=some c2:=by rw [e5];exact hl2
     refine e04 (cellAt x c2 hc2) fun o_ o_ qz2 o_=>?_;obtain ⟨v,hv⟩:=qz2;exact (xi2 c2 v ⟨hc2,hv⟩)
    ·obtain ⟨c,hm⟩:=hclF x (lookup_mem hk);refine e11 (lookup_of_mem (sp.sub _ hm)) fun c2 hl2=>?_;have hc2:env.cells.lookup x=some c2:=by rw [e5];exact hl2
     refine e04 (cellAt x c2 hc2) fun o_ o_ qz2 o_=>?_;obtain ⟨v,hv⟩:=qz2;exact (xi2 c2 v ⟨hc2,hv⟩)
   offL:=by rw [e2];exact ⟨fresh_not_mem I.rel,hN⟩
   offC:=fun x c e=>let ⟨h1,h2,h3,_⟩:=cellAt x c e;⟨h1,h2,h3⟩
   own:=by
    intro x c hk e;refine e04 (cellAt x c e) fun o_ o_ o_ q=>?_;rw [e2];rcases q with ⟨_,q⟩|⟨_,q⟩
    ·have:=nodupN_lookup S.nodup q;rw [show scope.names.lookup x=kindIn scope x from rfl,hk] at this;cases this
    ·exact q
   well:=S.well
   code:=fun hs=>by rw [e6];exact hcd hs
   apart:=by
    intro x y c hx hy;refine e04 (cellAt x c hx) fun o_ o_ o_ q=>?_;refine e04 (cellAt y c hy) fun o_ o_ o_ q'=>?_;rw [e5] at hx hy;rcases q with ⟨q,_⟩|⟨_,q⟩
    ·rcases q' with ⟨q',_⟩|⟨_,q'⟩
     ·exact hclA x y c q q'
     ·obtain ⟨_,_,_,v,o,ho,_⟩:=hcl x c q;exact absurd (Qh (Heap.lt_size ho) (Nat.le_of_succ_le q')) (Nat.lt_irrefl _)
    ·exact sp.uniq x y c (lookup_mem hx) (lookup_mem hy) (by rw [hsz1];exact q) }
 have rest:∀ env:Env,env.scope=scope→env.locals=s.heap.objs.size→env.globals=mainGlobals→env.builtins=builtinsNs→env.cells=cellsFrom (s.heap.objs.size+1) scope.names closure→
   env.code=aroundCode around code→env.func=func→env.qual=qual→(around=none→env.frame=some env.locals)→
   wpAny (model prog w) A (forIn (bs.map fun p=>(p.1,p.2.1)) PUnit.unit (fun x r=>(do storeName env x.1 x.2;pure (ForInStep.yield PUnit.unit):Sem (ForInStep PUnit)))) (fun o_ s'=>Q env s') E
    {s with heap:=pushCells (s.heap.push { cls:=cls,data:=.dict #[] }) scope.names }:=by
  intro env e1 e2 e3 e4 e5 e6 e7 e8 e9;refine e02 (start env e1 e2 e3 e4 e5 e6) fun F N=>?_;refine binds_ok (lo:=lo) hT S.well bs ρ σ ι _ _ (fun p hp=>?_) F N.inn fun s' N' F'=>?_
  ·obtain ⟨g1,g2⟩:=hb p hp;exact ⟨g1,by rw [e2];exact g2.grow N.grow⟩
  ·refine h env s' e9 e2 e1 e6 e7 e8 ?_ F' (fun o_ o_=>e5);refine NxS.toNx (own:=fun b=>s.heap.get? b=none) ?_ (fun b o e z=>by rw [z] at e;cases e);refine (Nx.toS N).trans (N'.mono fun b o e hown=>?_);cases q:s.heap.get? b with
   |none=>rfl
   |some o'=>
    exfalso;rcases hown with rfl|⟨x,hk,hx⟩
    ·rw [e2] at q;exact absurd (Heap.lt_size q) (Nat.lt_irrefl _)
    ·rw [hsz1] at sp;rw [e5] at hx;rcases sp.mem x b (lookup_mem hx) with z|⟨_,z2,_⟩
     ·obtain ⟨g1,_⟩:=hcl x b z;have:=nodupN_lookup S.nodup g1;rw [show scope.names.lookup x=kindIn scope x from rfl,hk] at this;cases this
     ·rw [hsz1] at z2;exact absurd (Qh (Heap.lt_size q) (Nat.le_of_succ_le z2)) (Nat.lt_irrefl _)
 rw [show ({ s with heap:=s.heap.push { cls:=cls,data:=.dict #[] } }:Shared).heap.objs.size=s.heap.objs.size+1 from hsz1];cases around with
 |none=>exact Qq (Wj (rest _ rfl rfl rfl rfl rfl rfl rfl rfl fun o_=>rfl) (fun o_ o_ h=>Qf h) fun o_ o_ x=>x)
 |some o=>exact Qq (Wj (rest _ rfl rfl rfl (har o rfl) rfl rfl rfl rfl fun h=>nomatch h) (fun o_ o_ h=>Qf h) fun o_ o_ x=>x)
theorem newEnv_ok {lo:Nat} {scope:Scope} {closure:List (Str×Addr)} {bs:List (Str×Value×B)} {qual:Str} {func:Option Addr} {code:Value} {around:Option Env} {A:Around} {E:Value→Shared→Prop}
  {ι:List Addr} {σ:St} {s:Shared} {ρ:Rho} {Q:Env→Shared→Prop} (hT:Mono K T) (hN:K.N0≤s.heap.objs.size) (S:ScOk scope) (I:In0 K T ι σ s)
  (hcl:∀ x c,(x,c)∈closure→(x,NameKind.free)∈scope.names∧c∉ι∧K.N0≤c∧∃ v,s.heap.IsCell c v)
  (hclA:∀ x y c,(x,c)∈closure→(y,c)∈closure→x=y) (hclF:∀ x,(x,NameKind.free)∈scope.names→∃ c,(x,c)∈closure)
  (hρ:∀ x b,ρ.lookup x=some b→kindIn scope x=some .free∧∀ c,(x,c)∈closure→∃ v,s.heap.IsCell c (some v)∧RB ι s.heap K s.heap.objs.size v b)
  (hcd:hostSc scope=true→∃ x∈K.codes,aroundCode around code=.ref x.1) (hb:∀ p∈bs,canSet scope p.1=true∧RB ι s.heap K s.heap.objs.size p.2.1 p.2.2) (har:∀ o,around=some o→o.builtins=builtinsNs)
  (h:∀ env s',env.locals=s.heap.objs.size→env.scope=scope→env.code=aroundCode around code→env.func=func→env.qual=qual→Nx K T lo σ ι ι s s'→FrOk K ι s'.heap env scope ((bs.map fun p=>(p.1,p.2.2)).reverse++ρ)→
   (∀ o,around=some o→env.cells=cellsFrom (s.heap.objs.size+1) scope.names closure)→Q env s'):
  wpAny (model prog w) A (newFunctionEnv scope mainGlobals closure (bs.map fun p=>(p.1,p.2.1)) qual func code around builtinsNs) Q E s:=
 newEnv_okF hT hN S I hcl hclA hclF hρ hcd hb har fun env s' o_=>h env s'
theorem hide_mvd {H ι:List Addr} {h:Heap} {D:Addr} (hD:h.get? D=none):Mvd H ι h (D::H) ι h:=⟨fun a o o_ o_ h1 h2 o_ e=>⟨h1,fun z=>(Wy z).elim (fun z=>by rw [←z,e] at hD;cases hD) h2,e⟩,fun o_ o_ e=>e⟩
theorem hide_kp {ι:List Addr} {h:Heap} {D:Addr} (hD:h.get? D=none):Kp K (D::K.hid) ι ι (fun o_=>True) h h:=
 {hide_mvd hD with
  func:=fun o_ o_ o_ h1 o_ e=>⟨h1,e⟩
  code:=fun o_ o_ o_ h1 o_ o_ e=>⟨h1,e⟩
  cell:=fun o_ o_ o_ h1 x=>⟨h1,x⟩ }
theorem unhide_mvd {H ι:List Addr} {h:Heap} {D:Addr}:Mvd (D::H) ι h H ι h:=⟨fun a o o_ o_ h1 h2 o_ e=>⟨h1,fun z=>h2 (Qj _ z),e⟩,fun o_ o_ e=>e⟩
theorem RV.unhide {H ι:List Addr} {h:Heap} {D:Addr} {v:Value} {x:V} (r:RV (D::H) ι h v x):RV H ι h v x:=r.imp unhide_mvd
theorem RVs.unhide {H ι:List Addr} {h:Heap} {D:Addr} {v:List Value} {x:List V} (r:RVs (D::H) ι h v x):RVs H ι h v x:=r.imp unhide_mvd
theorem RVs.hide {H ι:List Addr} {h:Heap} {D:Addr} (hD:h.get? D=none) {v:List Value} {x:List V} (r:RVs H ι h v x):RVs (D::H) ι h v x:=r.imp (hide_mvd hD)
theorem RB.hide {ι:List Addr} {h:Heap} {D L:Addr} {v:Value} {b:B} (hD:h.get? D=none) (r:RB ι h K L v b):RB ι h (K.withH (D::K.hid)) L v b:=(hide_kp hD).rb (fun o_ o_=>trivial) r
theorem RB.mono {ι:List Addr} {h:Heap} {L L':Addr} {v:Value} {b:B} (hL:L≤L') (r:RB ι h K L v b):RB ι h K L' v b:=by
 cases r with
 |val r=>exact .val r
 |lam ha ho hd st cd cap clo=>exact .lam ha ho hd st cd cap fun y c e=>let ⟨q1,q2,q3⟩:=clo y c e;⟨q1,Qh q2 hL,q3⟩
theorem HRel.hide {ι:List Addr} {h:Heap} {D a:Addr} {o:HO} (hD:h.get? D=none) (r:HRel K ι h a o):HRel (K.withH (D::K.hid)) ι h a o:=
 (hide_kp hD).hrel (fun o_ o_ o_ o_ e=>e) (fun o_ o_ hi o_ o_=>⟨hi,fun o_ o_ e=>e⟩) r
theorem HRel.unhide {ι:List Addr} {h:Heap} {D a:Addr} {o:HO} {H:List Addr} (r:HRel (K.withH (D::H)) ι h a o):HRel (K.withH H) ι h a o:=by
 cases r with
 |lst ho hr=>exact .lst ho hr.unhide
 |acc ho hd hn hk ht hr=>exact .acc ho hd hn hk ht hr.unhide
theorem In0.hideNew {ι:List Addr} {σ:St} {s:Shared} (hT:Mono K T) (I:In0 K T ι σ s):In0 (K.withH (s.heap.objs.size::K.hid)) T ι σ { s with heap:=s.heap.push (lstObj #[] 0) }:=by
 have hD:s.heap.get? s.heap.objs.size=none:=by
  cases q:s.heap.get? s.heap.objs.size with
  |none=>rfl
  |some o=>exact absurd (Heap.lt_size q) (Nat.lt_irrefl _)
 have I2:=I.up (s':={ s with heap:=s.heap.push (lstObj #[] 0) }) hT (Ux.push _ _) I.gens;refine ⟨I2.top,⟨I.rel.len,I.rel.nodup,I.rel.low,fun a ha=>?_,fun i o e=>?_⟩,I.gens,I2.codes⟩
 ·rcases Wy ha with z|z
  ·rw [z];exact ⟨_,Heap.get?_push_size _ rfl⟩
  ·exact I2.rel.hid a z
 ·obtain ⟨a,h1,h2⟩:=I.rel.obj i o e;exact ⟨a,h1,HRel.up (h2.hide hD) (K:=K.withH (s.heap.objs.size::K.hid)) (Up.push _ _)⟩
theorem In0.unhide {ι:List Addr} {σ:St} {s:Shared} {D:Addr} {H:List Addr} (I:In0 (K.withH (D::H)) T ι σ s):In0 (K.withH H) T ι σ s:=
 ⟨I.top,⟨I.rel.len,I.rel.nodup,I.rel.low,fun a ha=>I.rel.hid a (Qj _ ha),fun i o e=>let ⟨a,h1,h2⟩:=I.rel.obj i o e;⟨a,h1,h2.unhide⟩⟩,I.gens,I.codes⟩
theorem FrOk.sub {ι:List Addr} {h:Heap} {env:Env} {sc:Scope} {ρ ρ':Rho} (F:FrOk K ι h env sc ρ') (hs:∀ x b,ρ.lookup x=some b→ρ'.lookup x=some b):FrOk K ι h env sc ρ:=
 {F with
  ns:=let ⟨m,h1,h2,h3⟩:=F.ns;⟨m,h1,h2,fun x b hk hb=>h3 x b hk (hs x b hb)⟩
  cell:=fun x b hk hb=>F.cell x b hk (hs x b hb) }
theorem look_app {l m:Rho} {x:Str} (h:∀ y∈l,(x==y.1)=false):(l++m).lookup x=m.lookup x:=by
 rw [List.lookup_append,List.lookup_eq_none_iff.mpr fun y hy=>by unfold bne;rw [h y hy];rfl];rfl
theorem bindT_sub {sc:Scope} {t:Expr} {v:V} {ρ ρ':Rho} (e:bindT sc t v ρ=some ρ') (hn:(tnames t).all (fun x=>(ρ.lookup x).isNone)=true):∀ x b,ρ.lookup x=some b→ρ'.lookup x=some b:=by
 intro x b hb;have ne:∀ y,y∈tnames t→(x==y)=false:=by
  intro y hy;have:=List.all_eq_true.mp hn y hy;cases q:x==y with
  |false=>rfl
  |true=>rw [←eq_of_beq q,hb] at this;cases this
 refine iBindT e (fun y p q o_ q2=>?_) fun l xs k p q o_ hlen o_ q3=>?_
 ·rw [q2];exact (look_app (l:=[(y,.val v)]) fun z hz=>by rw [Wz hz];exact ne y (by rw [q];exact List.mem_singleton_self _)).trans hb
 ·rw [q3];refine (look_app fun z hz=>ne _ ?_).trans hb;have h1:=(List.of_mem_zip (List.mem_reverse.mp hz)).1;rw [q];show z.1∈(l.map fun x=>Expr.Name x.1 x.2).filterMap _;rw [List.filterMap_map];refine e12 (List.mem_map.mp h1) fun w hw hz=>?_;exact List.mem_filterMap.mpr ⟨w,hw,congrArg some hz⟩
section
variable {ι:List Addr} {s s':Shared} {D:Addr} {items:Array Value} {n:Nat} (hD:s.heap.get? D=some (lstObj items n)) (hh:D∈K.hid) (only:∀ b o,b≠D→s.heap.get? b=some o→s'.heap.get? b=some o)
include hD hh only
theorem hd_ne {b:Addr} {o:Obj} (e:s.heap.get? b=some o) (hs:∀ xs m,o.data≠.seq xs m):b≠D:=by
 rintro rfl;obtain rfl:o=lstObj items n:=Qw (e.symm.trans hD);exact hs _ _ rfl
theorem hd_kp:Kp K K.hid ι ι (fun o_=>True) s.heap s'.heap:=
 Kp.only (X:=fun b=>b=D) only (fun b o o_ o_ o_ hb o_ o_ z=>hb (z▸hh)) (fun b o fd hd e=>hd_ne hD hh only e (by rw [hd];exact fun o_ o_ y=>nomatch y)) (fun b o vs o_ hd e=>hd_ne hD hh only e (by rw [hd];exact fun o_ o_ y=>nomatch y))
  fun c v o_ x=>let ⟨_,e,hd⟩:=x;hd_ne hD hh only e (by rw [hd];exact fun o_ o_ y=>nomatch y)
theorem hd_calm:Calm K.hid ι s.heap s'.heap:=fun b o o_ o_ o_ hb o_ e=>only b o (fun z=>hb (z▸hh)) e
theorem hd_fr {env:Env} {sc:Scope} {ρ:Rho} (F:FrOk K ι s.heap env sc ρ):FrOk K ι s'.heap env sc ρ:=
 (hd_kp hD hh only).fr (fun o_=>trivial) F F.offL.1 fun m hm=>⟨m,As.ns (K:=K) hm fun o e=>.inl (only _ o (hd_ne hD hh only e (by
  obtain ⟨o2,es,ep,ho2,hd2,_⟩:=hm;rw [Qw (e.symm.trans ho2),hd2];exact fun o_ o_ y=>nomatch y)) e),rfl,fun o_ o_=>rfl⟩
theorem hd_inn {σ:St} (hT:Mono K T) (hN:K.N0≤D) (hi:D∉ι) (I:In0 K T ι σ s) (hg:s'.gens=s.gens) (hs:∃ o,s'.heap.get? D=some o):In0 K T ι σ s':=by
 refine ⟨hT I.top fun b o hb e=>.inl (only b o (fun z=>absurd hb (Ww (z▸hN))) e),⟨I.rel.len,I.rel.nodup,I.rel.low,fun b hb=>?_,fun i o e=>?_⟩,by rw [hg];exact I.gens,I.codes.keep ⟨rfl,rfl⟩ (fun P o hP e=>only P o (fun z=>absurd hP (Ww (z▸hN))) e) fun c o vs hi2 hc hd e=>⟨hi2,only c o (hd_ne hD hh only e (fun o_ o_ z=>by rw [hd] at z;cases z)) e⟩⟩
 ·by_cases z:b=D
  ·rw [z];exact hs
  ·obtain ⟨o,e⟩:=I.rel.hid b hb;exact ⟨o,only b o z e⟩
 ·obtain ⟨a,h1,h2⟩:=I.rel.obj i o e;have hne:a≠D:=fun z=>hi (z▸List.mem_of_getElem? h1);refine ⟨a,h1,(hd_kp hD hh only).hrel (fun o o_ o_ o_ e=>only _ o hne e) (fun d m hi hn o_=>⟨hi,fun o o_ e=>only d o (hd_ne hD hh only e ?_) e⟩) h2⟩;obtain ⟨o2,es,ep,ho2,hd2,_⟩:=hn;rw [Qw (e.symm.trans ho2),hd2];exact fun o_ o_ y=>nomatch y
end
theorem ifs_skip {A:Around} {E:Value→Shared→Prop} {env:Env} {s:Shared} {Q:Bool→Shared→Prop} (h:Q false s):∀ ifs:List Expr,
  wpAny (model prog w) A (forIn ifs false (fun c r=>if r=true then (do let ok←isTrue c env (eval c env);pure (ForInStep.yield ok)) else pure (ForInStep.yield r)):Sem Bool) Q E s:=by
 intro ifs
 induction ifs with
 |nil=>exact Qf h
 |cons c r ih=>
  rw [List.forIn_cons];exact ih
noncomputable def ifsW (ifs:List Expr) (env:Env):Sem Bool:=forIn ifs true (fun c r=>if r=true then (do let ok←isTrue c env (eval c env);pure (ForInStep.yield ok)) else pure (ForInStep.yield r))
theorem ifs_T {lo:Nat} {σ σ1 σ2:St} {z:Bool} {A:Around} {env:Env} {sc:Scope} {ρ:Rho} {x:Expr} {r:List Expr} (h1:BGood prog w K T lo σ σ1 true A env sc ρ (isTrue x env (eval x env))) (h2:BGood prog w K T lo σ1 σ2 z A env sc ρ (ifsW r env)):
  BGood prog w K T lo σ σ2 z A env sc ρ (ifsW (x::r) env):=by
 intro ι s Q E F I h;unfold ifsW;rw [List.forIn_cons,if_pos rfl];exact Qq (Qq (h1 F I fun s1 ι1 N1=>Qf (h2 (F.grow N1.grow) N1.inn fun s2 ι2 N2=>h _ _ (N1.trans N2))))
theorem ifs_F {lo:Nat} {σ σ1:St} {A:Around} {env:Env} {sc:Scope} {ρ:Rho} {x:Expr} {r:List Expr} (h1:BGood prog w K T lo σ σ1 false A env sc ρ (isTrue x env (eval x env))):
  BGood prog w K T lo σ σ1 false A env sc ρ (ifsW (x::r) env):=by
 intro ι s Q E F I h;unfold ifsW;rw [List.forIn_cons,if_pos rfl];exact Qq (Qq (h1 F I fun s1 ι1 N1=>Qf (ifs_skip (h _ _ N1) r)))
theorem compStart_go {A:Around} {R:Result→Shared→Prop} {s:Shared} {elt:Expr} {gens:List Comprehension} {g:Comprehension} {scope:Scope} {pos:Pos} {depth:Nat} {it acc:Value} {env:Env} (hg:gens[depth]?=some g) (ha:g.is_async=0)
  (h0:codeAny (model prog w) A (.compLoop (.ListComp elt gens scope pos) depth it acc env) R s)
  (h:wpAny (model prog w) A (pyIter it) (fun it' s'=>codeAny (model prog w) A (.compLoop (.ListComp elt gens scope pos) depth it' acc env) R s') (notedBy (model prog w) A env fun x s'=>R (.error x) s') s):
  codeAny (model prog w) A (.compStart (.ListComp elt gens scope pos) depth it acc env) R s:=by
 refine codeAny_of_tree ?_;show wpAny _ _ ((compStart (.ListComp elt gens scope pos) depth it acc env).onRaise (fun x=>do noteFrame x env;standAt theWindowsPlace)) _ _ s;refine wpAny_notedAt ?_;unfold compStart;have hg':(clausesOf (.ListComp elt gens scope pos))[depth]?=some g:=hg;rw [hg'];refine wF (c:=g.is_async !=0) (by rw [ha];rfl) (Qq (wpAny_askSetting (wpAny_ite (iteL (fun z=>z) (fun _=>?_) fun _=>?_))))
 ·first
   |exact Qq (Qf (Qf (And.intro rfl h0)))
   |exact Qf (And.intro rfl h0)
 ·first
   |exact Qq (wpAny_rule (Qq (wpAny_standAt (Qq (Wj h (fun it' s' h'=>Qf (And.intro rfl h')) fun o_ o_ x=>x)))))
   |(refine Qq (wpAny_rule ?_);exact Qq (wpAny_standAt (Qq (Wj h (fun it' s' h'=>Qf (And.intro rfl h')) fun o_ o_ x=>x))))
noncomputable def OwnD (env:Env) (sc:Scope) (D b:Addr):Prop:=Own env sc b∨b=D
theorem append_ok {D:Addr} {items:Array Value} {n:Nat} {x:Value} {A:Around} {E:Value→Shared→Prop} {s:Shared} {Q:Value→Shared→Prop} (hD:s.heap.get? D=some (lstObj items n)) (hsz:items.size≤sizeLine)
  (h:Q .none { s with heap:=s.heap.update D (Obj.mapSeq (·.push x)) }):wpAny (model prog w) A (PySem.call (.builtin "list.append") [.ref D,x]) Q E s:=by
 have hl:s.heap.IsList D items:=lstObj_isList hD;refine wpAny_call_entry slot_list_append hl.typeIs entry_list_append ?_ (args_list_append _ _);show wpAny _ _ (updateSeq D (·.push x) >>=fun o_=>ret .none) _ _ s;refine Qq ?_;exact wpAny_updateSeq hD rfl (Qf ⟨.none,rfl,h⟩) (by first|exact hsz|exact Qy hsz (Nat.le_succ _)|size_fits)
section defs
variable (prog:Program) (w:World) (C:Cfg) (K:Cst) (T:Heap→Prop)
noncomputable def CompGood (sc:Scope) (lo:Nat) (elt:Expr) (g:Comprehension) (gs:List Comprehension) (it:It) (ρ:Rho) (acc:List V) (σ:St) (acc':List V) (σ':St) (A:Around):Prop:=wellSc sc→
 ∀ {env ι s s0 ι0 gens scope pos depth D items n0 itv fp gp R} {Rr:Result→Shared→Prop},gens[depth]?=some g→gens.drop (depth+1)=gs→
 FrOk K ι s.heap env sc ρ→NxS K T lo (OwnD env sc D) σ ι0 ι s0 s→IterOk prog w K T A itv g.target fp gp it.nth R→R 0 ι s→env.locals∉fp→D∉fp→(∀ b∈fp,s0.heap.get? b=none)→(∀ g∈gp,s0.gens[g]?=none)→
 s.heap.get? D=some (lstObj items n0)→RVs K.hid ι s.heap items.toList acc→D∉ι→D∈K.hid→K.N0≤D→
 (∀ s' ι' items' n',NxS K T lo (OwnD env sc D) σ' ι0 ι' s0 s'→FrOk K ι' s'.heap env sc ρ→s'.heap.get? D=some (lstObj items' n')→D∉ι'→RVs K.hid ι' s'.heap items'.toList acc'→Rr (.ok .next) s')→
 codeAny (model prog w) A (.compLoop (.ListComp elt gens scope pos) depth itv (.ref D) env) Rr s
end defs
theorem mvd_of {H ι ι':List Addr} {h h':Heap} (h1:∀ a o items n,a∉ι→a∉H→(o=tupObj items n∨o=lstObj items n)→h.get? a=some o→h'.get? a=some o∧a∉ι') (h2:∀ (i:Nat) a,ι[i]?=some a→ι'[i]?=some a):Mvd H ι h H ι' h':=
 ⟨fun a o items n k1 k2 k3 k4=>let ⟨z1,z2⟩:=h1 a o items n k1 k2 k3 k4;⟨z2,k2,z1⟩,h2⟩
theorem RV.move {H ι ι':List Addr} {h h':Heap} (h1:∀ a o items n,a∉ι→a∉H→(o=tupObj items n∨o=lstObj items n)→h.get? a=some o→h'.get? a=some o∧a∉ι') (h2:∀ (i:Nat) a,ι[i]?=some a→ι'[i]?=some a) {v:Value} {x:V} (r:RV H ι h v x):RV H ι' h' v x:=r.imp (mvd_of h1 h2)
theorem RVs.move {H ι ι':List Addr} {h h':Heap} (h1:∀ a o items n,a∉ι→a∉H→(o=tupObj items n∨o=lstObj items n)→h.get? a=some o→h'.get? a=some o∧a∉ι') (h2:∀ (i:Nat) a,ι[i]?=some a→ι'[i]?=some a) {v:List Value} {x:List V} (r:RVs H ι h v x):RVs H ι' h' v x:=r.imp (mvd_of h1 h2)
section
variable {lo:Nat} {σ:St} {ι ι':List Addr} {s s':Shared} {env:Env} {sc:Scope} {ρ:Rho} {D:Addr} (N:NxS K T lo (OwnD env sc D) σ ι ι' s s') (F:FrOk K ι s.heap env sc ρ)
include N F
theorem nxsD_keep {a:Addr} {o:Obj} {items:Array Value} {n:Nat} (ha:a∉ι) (hD:a≠D) (ho:o=tupObj items n∨o=lstObj items n) (e:s.heap.get? a=some o):s'.heap.get? a=some o∧a∉ι':=by
 have hd:a∉ι.drop lo:=fun z=>ha (List.mem_of_mem_drop z);have hown:¬OwnD env sc D a:=by
  rintro (z|z)
  ·rcases ho with rfl|rfl
   ·exact own_off F e (fun o_ o_ z=>by cases z) (fun o_ z=>by cases z) z
   ·exact own_off F e (fun o_ o_ z=>by cases z) (fun o_ z=>by cases z) z
  ·exact hD z
 refine ⟨(N.keep a o hd hown e).get ?_,?_⟩
 ·rcases ho with rfl|rfl
  ·exact nf_tup _ _
  ·exact nf_lst _ _
 ·obtain ⟨news,rfl,hn⟩:=N.pre;intro hm;rcases Wx hm with hm|hm
  ·exact ha hm
  ·rw [hn a hm] at e;cases e
theorem nxsD_rvs (hDh:D∈K.hid) {vs:List Value} {xs:List V} (r:RVs K.hid ι s.heap vs xs):RVs K.hid ι' s'.heap vs xs:=by
 refine r.move (fun a o items n ha hh ho e=>nxsD_keep N F ha (fun z=>hh (z▸hDh)) ho e) fun i a e=>?_;refine e12 (N.pre) fun news qz1 o_=>?_;obtain rfl:=qz1;rw [List.getElem?_append_left (Qz e).1];exact e
end
theorem stbD_of {lo:Nat} {σ:St} {ι ι':List Addr} {s s':Shared} {env:Env} {sc:Scope} {ρ:Rho} {fp:List Addr} {gp:List Nat} {D:Addr} (ht:∀ b∈K.tabs,b<K.N0) (N:NxS K T lo (OwnD env sc D) σ ι ι' s s') (F:FrOk K ι s.heap env sc ρ) (fo:FpOk K fp ι s.heap)
  (hL:env.locals∉fp) (hDf:D∉fp) (hDh:D∈K.hid) (hDs:∃ items n,s.heap.get? D=some (lstObj items n)):Stb K T fp gp ι ι' s s':=by
 refine ⟨N.pre,fun b o hb hq e=>?_,N.gm,N.inn.top⟩;have hd:b∉ι.drop lo:=fun z=>hb (List.mem_of_mem_drop z);rcases hq with hq|⟨hh,items,n,rfl|rfl⟩|⟨⟨c,hc⟩,vs,hvs⟩
 ·obtain ⟨h1,h2,hp⟩:=fo.ok b hq;have hp:=hp o e;have hown:¬OwnD env sc D b:=by
   rintro ((rfl|⟨x,hk,hx⟩)|rfl)
   ·exact hL hq
   ·obtain ⟨_,_,v,o2,ho2,hd2⟩:=F.offC x b hx;obtain rfl:o=o2:=Qw (e.symm.trans ho2);exact np_cell hd2 hp
   ·exact hDf hq
  exact (N.keep b o hd hown e).off fun z=>absurd (ht b z) (Ww h1)
 ·refine (N.keep b _ hd ?_ e).get (nf_tup _ _);rintro (z|rfl)
  ·exact own_off F e (fun o_ o_ z=>by cases z) (fun o_ z=>by cases z) z
  ·exact hh hDh
 ·refine (N.keep b _ hd ?_ e).get (nf_lst _ _);rintro (z|rfl)
  ·exact own_off F e (fun o_ o_ z=>by cases z) (fun o_ z=>by cases z) z
  ·exact hh hDh
 ·refine (N.keep b _ hd ?_ e).cls hc;rintro (z|rfl)
  ·exact own_off F e (fun o_ o_ z=>by rw [hvs] at z;cases z) (fun o_ z=>by rw [hvs] at z;cases z) z
  ·obtain ⟨items,n,hDs⟩:=hDs;rw [hDs] at e;cases e;cases hvs
section
variable {elt:Expr} {gens:List Comprehension} {g g':Comprehension} {scope:Scope} {pos:Pos} {depth:Nat} {itv acc:Value} {env:Env} {A:Around} {Q:Fin→Shared→Prop} {E:Value→Shared→Prop} {R:Result→Shared→Prop} {s:Shared}
theorem comp_loop (I:Nat→Shared→Prop) (turn:∀ n s (Q:Fin→Shared→Prop) (E:Value→Shared→Prop),(∀ s',R (.ok .next) s'→Q (.done .next) s')→(∀ m s',m<n→I m s'→Q (.again (.compLoop (.ListComp elt gens scope pos) depth itv acc env)) s')→I n s→
  wpAny (model prog w) A (compTurn (.ListComp elt gens scope pos) depth itv acc env) Q E s) (n:Nat) (h:I n s):codeAny (model prog w) A (.compLoop (.ListComp elt gens scope pos) depth itv acc env) R s:=
 codeAny_loop' rfl I (fun n s hI=>by
  show wpAny _ _ ((compTurn (.ListComp elt gens scope pos) depth itv acc env).onRaise (fun x=>do noteFrame x env;theTreesLotGoes x)) _ _ s;exact wpAny_noted (turn n s _ _ (fun o_ h=>h) (fun m s' hm h=>.inl ⟨rfl,m,hm,h⟩) hI)) n h
noncomputable def ItemW (w:World) (prog:Program) (A:Around) (g:Comprehension) (itv:Value) (env:Env) (E:Value→Shared→Prop) (s:Shared) (K:Bool→Shared→Prop):Prop:=
 wpAny (model prog w) A (pyNext itv) (fun r s₁=>∃ v,r=some v∧wpAny (model prog w) A (letOwnedTupleGo g.target itv v) (fun o_ s₂=>wpAny (model prog w) A (assign g.target env v) (fun o_ s₃=>wpAny (model prog w) A (ifsW g.ifs env) K E s₃) E s₂) E s₁) E s
theorem turn_core (hg:gens[depth]?=some g) (ha:g.is_async=0):∃ tail:Bool→Sem Fin,(∀ (Q:Fin→Shared→Prop) (E:Value→Shared→Prop) s,wpAny (model prog w) A (pyNext itv) (fun r s₁=>(r=none∧Q (.done .next) s₁)∨∃ v,r=some v∧wpAny (model prog w) A (letOwnedTupleGo g.target itv v) (fun o_ s₂=>wpAny (model prog w) A (assign g.target env v) (fun o_ s₃=>wpAny (model prog w) A (ifsW g.ifs env) (fun ok s₄=>wpAny (model prog w) A (tail ok) Q E s₄) E s₃) E s₂) E s₁) E s→
   wpAny (model prog w) A (compTurn (.ListComp elt gens scope pos) depth itv acc env) Q E s)∧tail false=again (.compLoop (.ListComp elt gens scope pos) depth itv acc env)∧
  (gens[depth+1]?=none→∀ (Q:Fin→Shared→Prop) (E:Value→Shared→Prop) s,wpAny (model prog w) A (eval elt env) (fun v s₅=>wpAny (model prog w) A (PySem.call (.builtin "list.append") [acc,v]) (fun o_ s₆=>Q (.again (.compLoop (.ListComp elt gens scope pos) depth itv acc env)) s₆) E s₅) E s→wpAny (model prog w) A (tail true) Q E s)∧
  ∀ g',gens[depth+1]?=some g'→g'.is_async=0→(∀ xv,foldedSetIterable g'.iter env xv=pure xv)→∀ (Q:Fin→Shared→Prop) (E:Value→Shared→Prop) s,wpAny (model prog w) A (eval g'.iter env) (fun xv s₅=>wpAny (model prog w) A (pyIter xv) (fun itv5 s₆=>
    ∀ R':Result→Shared→Prop,(∀ s',Q (.again (.compLoop (.ListComp elt gens scope pos) depth itv acc env)) s'→R' (.ok .next) s')→codeAny (model prog w) A (.compStart (.ListComp elt gens scope pos) (depth+1) itv5 acc env) R' s₆) E s₅) E s→wpAny (model prog w) A (tail true) Q E s:=by
 exact ⟨_,fun Q E s h=>by
  unfold compTurn;simp only [hg,ha,bne_self_eq_false,Bool.false_eq_true,if_false];refine Qq (wpAny_standAt (Qq (Wj h (fun r s2 hr=>?_) fun o_ o_ x=>x)));rcases hr with ⟨rfl,hq⟩|⟨v,rfl,hv⟩
  ·exact Qf hq
  ·exact Qq (Wj hv (fun o_ s3 h3=>Qq (Wj h3 (fun o_ s4 h4=>Qq (Wj h4 (fun ok s5 h5=>h5) fun o_ o_ x=>x)) fun o_ o_ x=>x)) fun o_ o_ x=>x),by exact if_neg (by decide),fun hn Q E s h=>by
  rw [if_pos rfl];simp only [hn];exact Qq (Qq (Wj h (fun v s6 h6=>Qq (Wj h6 (fun o_ s7 h7=>Qf (Qf h7)) fun o_ o_ x=>x)) fun o_ o_ x=>x)),fun g' hn ha' hns Q E s h=>by
  rw [if_pos rfl];simp only [hn,ha',bne_self_eq_false,Bool.false_eq_true,if_false];exact Qq (Wj h (fun xv s6 h6=>Qq (wpAny_standAt (Qq (wpAny_of_eq (hns xv) (Qq (wpAny_holding (Wj h6 (fun itv5 s7 h7=>Qq (wpAny_runOwn (h:=none) (h7 _ fun s' q=>Qf q))) fun o_ o_ x=>x))))))) fun o_ o_ x=>x)⟩
end
section
variable {lo k n:Nat} {σ₁ σ₂:St} {ι0 ι':List Addr} {s0 s':Shared} {env:Env} {sc:Scope} {ρ ρ₂:Rho} {D:Addr} {g:Comprehension} {it:It} {itv:Value} {fp:List Addr} {gp:List Nat} {R:Nat→List Addr→Shared→Prop} {acc₁:List V} {items':Array Value} {n':Nat} {x:V} {ok:Bool} {A:Around} {E:Value→Shared→Prop} {P:Bool→Shared→Prop}
theorem item_ok (hT:Mono K T) (hw:wellSc sc) (hh:A.handled=none) (hb:bindT sc g.target x ρ=some ρ₂) (hf:BGood prog w K T lo σ₁ σ₂ ok A env sc ρ₂ (ifsW g.ifs env)) (hsub:∀ x b,ρ.lookup x=some b→ρ₂.lookup x=some b)
  (It:IterOk prog w K T A itv g.target fp gp it.nth R) (hn:it.nth σ₁ k=some (some x)) (R':R k ι' s') (hL:env.locals∉fp) (hDf:D∉fp) (hfp:∀ b∈fp,s0.heap.get? b=none) (hgp:∀ g∈gp,s0.gens[g]?=none)
  (N':NxS K T lo (OwnD env sc D) σ₁ ι0 ι' s0 s') (F':FrOk K ι' s'.heap env sc ρ) (hDh:D∈K.hid) (hD':s'.heap.get? D=some (lstObj items' n')) (hDi':D∉ι') (hacc':RVs K.hid ι' s'.heap items'.toList acc₁)
  (h:∀ s2 s4 ι4,NxS K T lo (OwnD env sc D) σ₁ ι0 ι' s0 s2→FrOk K ι' s2.heap env sc ρ→R (k+1) ι' s2→s2.heap.get? D=some (lstObj items' n')→NxS K T lo (OwnD env sc D) σ₂ ι' ι4 s2 s4→FrOk K ι4 s4.heap env sc ρ₂→s4.heap.get? D=some (lstObj items' n')→D∉ι4→RVs K.hid ι4 s4.heap items'.toList acc₁→P ok s4):
  ItemW w prog A g itv env E s' P:=by
 have fo:=It.fpok R';refine Wj (It.turn (Q:=fun v s2=>Qt K fp gp s' s2∧RV K.hid ι' s2.heap v x∧R (k+1) ι' s2) (E:=E) hn R' N'.inn fun v s2 q rv R2=>⟨q,rv,R2⟩) (fun r s2 hr=>?_) fun o_ o_ x=>x;refine nb fun kk=>?_;refine e12 (hr) fun v qz1 hv=>?_;obtain rfl:=qz1;refine kk ?_;refine ⟨v,rfl,Wj hv (fun o_ s2 hq=>?_) fun o_ o_ x=>x⟩;refine nb fun kk=>?_;refine e03 (hq) fun q rv R2=>?_;refine e02 (step_of hT hfp hgp fo hL N' F' q) fun N2 F2=>?_;refine kk ?_;have hD2:s2.heap.get? D=some (lstObj items' n'):=q.only D _ hDf hD';refine assign_ok (lo:=lo) hT hw hh hb F2 N2.inn rv fun s3 N3 F3=>?_;refine hf F3 N3.inn fun s4 ι4 N4=>?_;have M4:NxS K T lo (OwnD env sc D) σ₂ ι' ι4 s2 s4:=(N3.trans N4.toS).mono fun b o o_ z=>.inl z;have M4':NxS K T lo (Own env sc) σ₂ ι' ι4 s2 s4:=N3.trans N4.toS;refine h s2 s4 ι4 N2 F2 R2 hD2 M4 (F3.grow N4.grow) ((M4'.keep D _ (fun z=>hDi' (List.mem_of_mem_drop z)) (own_off F2 hD2 (fun o_ o_ z=>by cases z) (fun o_ z=>by cases z)) hD2).get (nf_lst _ _)) ?_ (nxsD_rvs M4 F2 hDh (hacc'.calm (q.calm fo)));refine e12 (M4'.pre) fun news qz1 hnn=>?_;obtain rfl:=qz1;intro hm;rcases Wx hm with hm|hm
 ·exact hDi' hm
 ·rw [hnn D hm] at hD2;cases hD2
end
end
section
variable {prog:Program} {w:World} {C:Cfg} {K:Cst} {T:Heap→Prop}
section
variable {ι:List Addr} {s s':Shared} {D:Addr} {m:Str→Option Value} (hD:s.heap.Ns D m) (hm:m ("_initial_size":Str)=none) (only:∀ b o,b≠D→s.heap.get? b=some o→s'.heap.get? b=some o)
include hD hm only
theorem cl_ne {b:Addr} {o:Obj} (e:s.heap.get? b=some o) (hs:∀ es n,o.data≠.dict es n):b≠D:=by
 rintro rfl;obtain ⟨o2,es,ep,ho2,hd2,_⟩:=hD;obtain rfl:o=o2:=Qw (e.symm.trans ho2);exact hs _ _ hd2
theorem cl_kp:Kp K K.hid ι ι (fun o_=>True) s.heap s'.heap:=
 Kp.only (X:=fun b=>b=D) only (fun b o o_ o_ o_ o_ ho e=>cl_ne hD hm only e (ho.elim (fun z=>by rw [z];exact fun o_ o_ y=>nomatch y) fun z=>by rw [z];exact fun o_ o_ y=>nomatch y)) (fun b o fd hd e=>cl_ne hD hm only e (by rw [hd];exact fun o_ o_ y=>nomatch y))
  (fun b o vs o_ hd e=>cl_ne hD hm only e (by rw [hd];exact fun o_ o_ y=>nomatch y)) fun c v o_ x=>let ⟨_,e,hd⟩:=x;cl_ne hD hm only e (by rw [hd];exact fun o_ o_ y=>nomatch y)
theorem cl_calm:Calm K.hid ι s.heap s'.heap:=fun b o items n h1 h2 ho e=>((cl_kp hD hm only).seq b o items n h1 h2 ho e).2.2
theorem cl_fr {env:Env} {sc:Scope} {ρ:Rho} (F:FrOk K ι s.heap env sc ρ) (hL:env.locals≠D):FrOk K ι s'.heap env sc ρ:=
 (cl_kp hD hm only).fr (fun o_=>trivial) F F.offL.1 fun m hm'=>⟨m,As.ns (K:=K) hm' fun o e=>.inl (only _ o hL e),rfl,fun o_ o_=>rfl⟩
theorem cl_inn {σ:St} (hT:Mono K T) (hN:K.N0≤D) (hi:D∉ι) (hh:D∉K.hid) (I:In0 K T ι σ s) (hg:s'.gens=s.gens):In0 K T ι σ s':=by
 refine ⟨hT I.top fun b o hb e=>.inl (only b o (fun z=>absurd hb (Ww (z▸hN))) e),⟨I.rel.len,I.rel.nodup,I.rel.low,fun b hb=>?_,fun i o e=>?_⟩,by rw [hg];exact I.gens,I.codes.keep ⟨rfl,rfl⟩ (fun P o hP e=>only P o (fun z=>absurd hP (Ww (z▸hN))) e) fun c o vs hi2 hc hd e=>⟨hi2,only c o (cl_ne hD hm only e (fun o_ o_ z=>by rw [hd] at z;cases z)) e⟩⟩
 ·obtain ⟨o,e⟩:=I.rel.hid b hb;exact ⟨o,only b o (fun z=>hh (z▸hb)) e⟩
 ·obtain ⟨a,h1,h2⟩:=I.rel.obj i o e;have hne:a≠D:=fun z=>hi (z▸List.mem_of_getElem? h1);refine ⟨a,h1,(cl_kp hD hm only).hrel (fun o o_ o_ o_ e=>only _ o hne e) (fun d m' hi hn hk=>⟨hi,fun o o_ e=>only d o (fun z=>hk ?_) e⟩) h2⟩;rw [z] at hn;exact (ns_eq hn hD _).trans hm
end
theorem track_mvd {H ι:List Addr} {h:Heap} {D:Addr}:Mvd (D::H) ι h H (ι++[D]) h:=
 ⟨fun a o o_ o_ h1 h2 o_ e=>⟨fun z=>(Wx z).elim h1 fun z=>h2 (by rw [Wz z];exact Qk ..),fun z=>h2 (Qj _ z),e⟩,fun i a e=>by rw [List.getElem?_append_left (Qz e).1];exact e⟩
theorem RVs.track {H ι:List Addr} {h:Heap} {D:Addr} {v:List Value} {x:List V} (r:RVs (D::H) ι h v x):RVs H (ι++[D]) h v x:=r.imp track_mvd
theorem HRel.track {ι:List Addr} {h:Heap} {D a:Addr} {o:HO} {H:List Addr} (hD:∃ items n,h.get? D=some (lstObj items n)) (r:HRel (K.withH (D::H)) ι h a o):HRel (K.withH H) (ι++[D]) h a o:=by
 cases r with
 |lst ho hr=>exact .lst ho hr.track
 |acc ho hd hn hk ht hr=>
  refine .acc ho (fun z=>?_) hn hk ht hr.track;rcases Wx z with z|z
  ·exact hd z
  ·obtain ⟨items,n,e⟩:=hD;obtain ⟨o2,es,ep,ho2,hd2,_⟩:=hn;rw [Wz z,e] at ho2;cases ho2;cases hd2
theorem off_seq {ι:List Addr} {h:Heap} {c D:Addr} {o:Obj} {vs:Array Value} {items:Array Value} {n:Nat} (hi:c∉ι) (hd:o.data=.fields vs) (hD:h.get? D=some (lstObj items n)) (e:h.get? c=some o):c∉ι++[D]:=by
 intro z;rcases Wx z with z|z
 ·exact hi z
 ·rw [Wz z,hD] at e;cases e;cases hd
theorem In0.track {ι:List Addr} {σ:St} {s:Shared} {D:Addr} {H:List Addr} {items:Array Value} {n:Nat} {vs:List V} (I:In0 (K.withH (D::H)) T ι σ s) (hD:s.heap.get? D=some (lstObj items n)) (hr:RVs (D::H) ι s.heap items.toList vs) (hi:D∉ι) (hN:K.N0≤D):
  In0 (K.withH H) T (ι++[D]) (σ++[HO.lst vs]) s:=by
 refine ⟨I.top,⟨by rw [Qu,Qu,I.rel.len];rfl,?_,?_,fun a ha=>I.rel.hid a (Qj _ ha),fun i o e=>?_⟩,I.gens,I.codes.keep ⟨rfl,rfl⟩ (fun o_ o_ o_ e=>e) fun c o vs hi2 hc hd e=>⟨off_seq hi2 hd hD e,e⟩⟩
 ·rw [List.nodup_append];refine ⟨I.rel.nodup,by simp,fun a ha b hb=>?_⟩;rw [Wz hb];exact fun z=>hi (z▸ha)
 ·intro a ha;rcases Wx ha with ha|ha
  ·exact I.rel.low a ha
  ·rw [Wz ha];exact hN
 ·by_cases hlt:i<σ.length
  ·rw [List.getElem?_append_left hlt] at e;refine nb fun kk=>?_;refine e12 (I.rel.obj i o e) fun a h1 h2=>?_;refine kk ?_;refine ⟨a,?_,h2.track (xi2 _ _ hD)⟩;rw [List.getElem?_append_left (Qz h1).1];exact h1
  ·have hge:σ.length≤i:=Nat.le_of_not_lt hlt;rw [List.getElem?_append_right hge] at e;have hi0:i-σ.length=0:=by
    cases q:i-σ.length with
    |zero=>rfl
    |succ k=>rw [q] at e;simp at e
   rw [hi0] at e;obtain rfl:HO.lst vs=o:=by simpa using e
   refine ⟨D,?_,.lst hD hr.track⟩;have hi1:i=ι.length:=(Nat.le_antisymm (Nat.le_of_sub_eq_zero hi0) hge).trans I.rel.len.symm;rw [hi1];simp
theorem made_ok {lo:Nat} {ι ι':List Addr} {σ:St} {s s':Shared} {D:Addr} {items:Array Value} {n:Nat} {vs:List V} {v:V} {σ':St} {keep:Bool} (hT:Mono K T)
  (I:In0 (K.withH (D::K.hid)) T ι' σ s') (pre:∃ news,ι'=ι++news∧∀ a∈news,s.heap.get? a=none) (kp:∀ b o,b∉ι.drop lo→s.heap.get? b=some o→As K.tabs s'.heap b o) (there:∀ b o,s.heap.get? b=some o→∃ o',s'.heap.get? b=some o')
  (os:s'.os=s.os) (gm:∀ (g:Nat) x,s.gens[g]?=some x→s'.gens[g]?=some x)
  (hD:s'.heap.get? D=some (lstObj items n)) (hr:RVs (D::K.hid) ι' s'.heap items.toList vs) (hi:D∉ι') (hN:K.N0≤D) (hf:s.heap.get? D=none) (hh:D∉K.hid)
  (e:(if keep then (V.ref σ.length,σ++[HO.lst vs]) else (V.fro vs,σ))=(v,σ')):
  ∃ ι'',Nx K T lo σ' ι ι'' s s'∧RV K.hid ι'' s'.heap (.ref D) v∧(∀ a,a∈ι''→a∈ι'∨a=D):=by
 have kp':∀ b o,b∉ι→s.heap.get? b=some o→As K.tabs s'.heap b o:=fun b o hb e=>kp b o (fun z=>hb (List.mem_of_mem_drop z)) e;cases keep with
 |true=>
  simp only [if_true,Prod.mk.injEq] at e;refine nb fun kk=>?_;refine e02 (e) fun qz0 qz1=>?_;obtain rfl:=qz0;obtain rfl:=qz1;refine e12 (pre) fun news qz1 hn=>?_;obtain rfl:=qz1;refine kk ?_;refine ⟨ι++news++[D],⟨⟨⟨news++[D],by simp,fun a ha=>?_⟩,kp',fun b o o_ e=>there b o e⟩,kp,I.track hD hr hi hN,os,gm⟩,.ref ?_,fun a ha=>?_⟩
  ·rcases Wx ha with ha|ha
   ·exact hn a ha
   ·rw [Wz ha];exact hf
  ·rw [←I.rel.len];simp
  ·rcases Wx ha with ha|ha
   ·exact .inl ha
   ·exact .inr (Wz ha)
 |false=>
  simp only [Bool.false_eq_true,if_false,Prod.mk.injEq] at e;refine nb fun kk=>?_;refine e02 (e) fun qz0 qz1=>?_;obtain rfl:=qz0;obtain rfl:=qz1;refine kk ?_;exact ⟨ι',⟨⟨pre,kp',fun b o o_ e=>there b o e⟩,kp,I.unhide,os,gm⟩,.fro hi hh hD hr.unhide,fun a ha=>.inl ha⟩
theorem FrOk.hide {ι:List Addr} {h:Heap} {D:Addr} {env:Env} {sc:Scope} {ρ:Rho} (hD:h.get? D=none) (F:FrOk K ι h env sc ρ):FrOk (K.withH (D::K.hid)) ι h env sc ρ:=
 {kind:=F.kind,names:=F.names,glob:=F.glob,blt:=F.blt,hasCell:=F.hasCell,offL:=F.offL,offC:=F.offC,own:=F.own,apart:=F.apart,well:=F.well,code:=F.code
  ns:=by
   refine nb fun kk=>?_;refine e13 (F.ns) fun m hm hi hv=>?_;refine kk ?_;exact ⟨m,hm,hi,fun x b hk hb=>let ⟨v,e,r⟩:=hv x b hk hb;⟨v,e,r.hide hD⟩⟩
  cell:=fun x b hk hb=>let ⟨c,v,e,hc,r⟩:=F.cell x b hk hb;⟨c,v,e,hc,r.hide hD⟩ }
theorem lookup_filter {p:Str→Bool}:∀ {ρ:Rho} {x:Str} {b:B},(ρ.filter fun y=>p y.1).lookup x=some b→p x=true∧ρ.lookup x=some b
 |[],_,_,h=>by simp at h
 |(y,j)::r,x,b,h=>by
  rw [List.lookup_cons]
  by_cases hp:p y=true
  ·rw [List.filter_cons_of_pos (by exact hp),List.lookup_cons] at h;cases q:x==y with
   |true=>
    rw [q] at h;refine ⟨?_,h⟩;rw [eq_of_beq q];exact hp
   |false=>
    rw [q] at h;exact lookup_filter h
  ·rw [List.filter_cons_of_neg (by exact hp)] at h;refine nb fun kk=>?_;refine e02 (lookup_filter h) fun h1 h2=>?_;refine kk ?_;cases q:x==y with
   |true=>rw [eq_of_beq q] at h1;exact absurd h1 hp
   |false=>exact ⟨h1,h2⟩
theorem kindIn_relabel {s:Scope} {env:Env} {x:Str}:kindIn (relabel s env) x=kindIn s x∨(kindIn s x=some .free∧kindIn (relabel s env) x=some .cell):=by
 unfold kindIn relabel;dsimp only;generalize s.names=l
 induction l with
 |nil=>exact .inl rfl
 |cons p l ih=>
  refine nb fun kk=>?_;obtain ⟨n,k⟩:=p;refine kk ?_;rw [List.map_cons,List.lookup_cons];dsimp only
  by_cases hc:(k==NameKind.free&&env.scope.kind==.function&&env.kindOf n==some .cell)=true
  ·rw [if_pos hc,List.lookup_cons];cases q:x==n with
   |true=>
    simp only;refine .inr ⟨?_,trivial⟩;simp only [Bool.and_eq_true,beq_iff_eq] at hc;rw [hc.1.1]
   |false=>exact ih
  ·rw [if_neg hc,List.lookup_cons];cases q:x==n with
   |true=>exact .inl rfl
   |false=>exact ih
theorem nil_of_size {h:Heap} {a:Addr} (ha:h.objs.size≤a):h.get? a=none:=by
 cases e:h.get? a with
 |none=>rfl
 |some o'=>exact absurd (Heap.lt_size e) (Ww ha)
variable {sc:Scope} {lo:Nat} {elt:Expr} {g:Comprehension} {gs:List Comprehension} {sc':Scope} {pos:Pos} {ρ:Rho} {σ σ1 σ2 σ':St} {vs:List V} {v:V} {it:It} {A:Around} {env:Env} {keep:Bool}
@[reducible] noncomputable def LcOk (prog:Program) (w:World) (K:Cst) (T:Heap→Prop) (sc:Scope) (lo:Nat) (elt:Expr) (g:Comprehension) (gs:List Comprehension) (sc':Scope) (ρ:Rho) (σ σ1 σ2:St) (it:It) (vs:List V) (A:Around) (env:Env) (keep:Bool) (v:V) (σ':St):Prop:=(okSc sc'=true)∧(okFree sc sc'=true)∧(g.is_async=0)∧(notGen g.iter=true)∧(∀ x,foldedSetIterable g.iter env x=pure x)∧(IGood prog w K T lo g.iter σ σ1 it A env sc ρ g.target)∧(∀ D,CompGood prog w (K.withH (D::K.hid)) T sc' lo elt g gs it (ρ.filter fun x=>kindIn sc' x.1==some .free) [] σ1 vs σ2 A)∧((if keep then (V.ref σ2.length,σ2++[HO.lst vs]) else (V.fro vs,σ2))=(v,σ'))
section
variable {prog:Program} {w:World} {K:Cst} {T:Heap→Prop} {sc:Scope} {lo:Nat} {elt:Expr} {g:Comprehension} {gs:List Comprehension} {sc':Scope} {ρ:Rho} {σ σ1 σ2:St} {it:It} {vs:List V} {A:Around} {env:Env} {keep:Bool} {v:V} {σ':St} (h:LcOk prog w K T sc lo elt g gs sc' ρ σ σ1 σ2 it vs A env keep v σ')
include h
theorem LcOk.ok:okSc sc'=true:=h.1
theorem LcOk.free:okFree sc sc'=true:=h.2.1
theorem LcOk.asy:g.is_async=0:=h.2.2.1
theorem LcOk.gen:notGen g.iter=true:=h.2.2.2.1
theorem LcOk.itr:IGood prog w K T lo g.iter σ σ1 it A env sc ρ g.target:=h.2.2.2.2.2.1
theorem LcOk.comp:∀ D,CompGood prog w (K.withH (D::K.hid)) T sc' lo elt g gs it (ρ.filter fun x=>kindIn sc' x.1==some .free) [] σ1 vs σ2 A:=h.2.2.2.2.2.2.1
theorem LcOk.made:(if keep then (V.ref σ2.length,σ2++[HO.lst vs]) else (V.fro vs,σ2))=(v,σ'):=h.2.2.2.2.2.2.2
end
theorem lc_core (hT:Mono K T) (ht:∀ b∈K.tabs,b<K.N0) {cpos:Pos} (e:LcOk prog w K T sc lo elt g gs sc' ρ σ σ1 σ2 it vs A env keep v σ') {ι:List Addr} {s:Shared} (F:FrOk K ι s.heap env sc ρ) (I:In0 K T ι σ s)
  {use:Option (Value→Sem Unit)} {Q:Value→Shared→Prop} {E:Value→Shared→Prop}
  (hP:∀ rv s' ι' Cc,Nx K T lo σ' ι ι' s s'→RV K.hid ι' s'.heap rv v→(∃ m,s'.heap.Ns Cc m∧m ("_initial_size":Str)=none)→Cc∉ι'→K.N0≤Cc→s.heap.get? Cc=none→compPost (model prog w) A E use Q rv Cc (.ok .next) s'):
  wpAny (model prog w) A (comprehension (.ListComp elt (g::gs) sc' pos) sc' env cpos (newList []) false (eval g.iter env) use) Q E s:=by
 refine nb fun kk=>?_;obtain ⟨hok,hfree,hasy,hgn,hfold,h1,h2,e3⟩:=e;have S:=okSc_iff hok;refine e13 (closure_ok F hfree) fun cl hcl hcl1 hcl2=>?_;refine kk ?_;have hnames:∀ x∈sc'.names,x.2=.local→sc'.names.lookup x.1=some .local:=fun x hx hl=>nodupN_lookup S.nodup (by rw [←hl];exact hx);refine wpAny_comprehension_free rfl hfold hcl S.kind hnames (h1 F I fun itv s2 ι2 fp gp R N2 hIt R0 hRR hfp hgp=>?_);refine nb fun kk=>?_;refine e02 (hRR hgn) fun hR hfx=>?_;refine kk ?_;have hDn:s2.heap.get? s2.heap.objs.size=none:=nil_of_size (Nat.le_refl _);have F2:=F.grow N2.grow;have I3:=N2.inn.hideNew hT;refine wpAny_newObj_type ?_ (show (0:Nat)≤sizeLine by decide);generalize hs3:({ s2 with heap:=s2.heap.push { cls:=.type "list",dict:=none,data:=.seq ([]:List Value).toArray } }:Shared)=s3;have hs3':s3={ s2 with heap:=s2.heap.push (lstObj #[] 0) }:=hs3.symm;rw [←hs3'] at I3;have hD3:s3.heap.get? s2.heap.objs.size=some (lstObj #[] 0):=by rw [hs3'];exact Heap.get?_push_size _ rfl
 have up3:Up K.tabs s2.heap s3.heap:=by rw [hs3'];exact Up.push _ _
 have hsz3:s3.heap.objs.size=s2.heap.objs.size+1:=by rw [hs3'];exact Heap.size_push ..
 have F3:FrOk (K.withH (s2.heap.objs.size::K.hid)) ι2 s3.heap env sc ρ:=(F2.hide hDn).grow (K:=K.withH (s2.heap.objs.size::K.hid)) (up3.grow ι2);have hN3:K.N0≤s2.heap.objs.size:=by
  refine e12 (F2.ns) fun m hm o_=>?_;refine e12 (Heap.Ns.get hm) fun o ho o_=>?_;exact Qy F2.offL.2 (Wq (Heap.lt_size ho))
 have hL3:env.locals≤s3.heap.objs.size:=by
  refine e12 (F3.ns) fun m hm o_=>?_;refine e12 (Heap.Ns.get hm) fun o ho o_=>?_;exact Wq (Heap.lt_size ho)
 have hgen:(s2.heap.objs.size::K.hid)=(K.withH (s2.heap.objs.size::K.hid)).hid:=rfl;have hglob:=F.glob;rw [hglob];refine newEnv_ok (K:=K.withH (s2.heap.objs.size::K.hid)) (lo:=ι2.length) (bs:=[]) (ρ:=ρ.filter fun x=>kindIn sc' x.1==some .free) hT (show K.N0≤_ by rw [hsz3];exact Nat.le_succ_of_le hN3) S I3 (fun x c hm=>?_) (fun x y c hx hy=>?_) hcl2 (fun x b hb=>?_) (fun hs=>F.code (okFree_host hfree hs)) (fun p hp=>nomatch hp)
  (fun o ho=>by cases ho;exact F.blt) fun cenv s4 hl4 hsc4 o_ o_ o_ N4 F4 o_=>?_
 ·obtain ⟨q1,q2⟩:=hcl1 x c hm;refine nb fun kk=>?_;refine e03 (F3.offC x c q1) fun q3 q4 q5=>?_;refine kk ?_;exact ⟨q2,q3,q4,q5⟩
 ·exact F.apart x y c (hcl1 x c hx).1 (hcl1 y c hy).1
 ·obtain ⟨hk,hb⟩:=lookup_filter (p:=fun y=>kindIn sc' y==some .free) hb;have hk:kindIn sc' x=some .free:=by simpa using hk
  refine ⟨hk,fun c hm=>?_⟩;have hmem:(x,NameKind.free)∈sc'.names:=lookup_mem hk;have:=List.all_eq_true.mp (okFree_all hfree) _ hmem;have hk2:kindIn sc x=some .cell∨kindIn sc x=some .free:=by simpa using this
  refine nb fun kk=>?_;refine e23 (F3.cell x b hk2 hb) fun c' v' q1 q2 q3=>?_;refine kk ?_;obtain rfl:c'=c:=Qw (q1.symm.trans (hcl1 x c hm).1);exact ⟨v',q2,q3.mono hL3⟩
 have hCs:cenv.locals=s2.heap.objs.size+1:=hl4.trans hsz3;have F4':FrOk (K.withH (s2.heap.objs.size::K.hid)) ι2 s4.heap { cenv with scope:=relabel sc' env } sc' (ρ.filter fun x=>kindIn sc' x.1==some .free):=
  {F4 with kind:=S.kind,names:=fun x=>kindIn_relabel }
 have R0':R (s2.heap.objs.size::K.hid) 0 ι2 s2:=hR _ _ _ _ _ R0 hDn;have fo:=(hIt K.hid).fpok (K:=K.withH K.hid) R0;have fplt:∀ b∈fp,b<s2.heap.objs.size:=fun b hb=>by
  refine e11 (hfx b hb) fun o ho=>?_;exact Heap.lt_size ho
 have N24:∀ b o,s2.heap.get? b=some o→As K.tabs s4.heap b o:=fun b o eb=>
  (up3.keep b o eb).trans fun o' e'=>N4.keep b o' (by simp) e'
 have hnew:∀ b o,s.heap.get? b=some o→b<s2.heap.objs.size:=fun b o eb=>by
  refine e11 (N2.grow.stays eb) fun o' eb'=>?_;exact Heap.lt_size eb'
 have hos3:s3.os=s2.os:=by rw [hs3']
 have hgens3:s3.gens=s2.gens:=by rw [hs3']
 have N4':NxS (K.withH (s2.heap.objs.size::K.hid)) T lo (OwnD { cenv with scope:=relabel sc' env } sc' s2.heap.objs.size) σ1 ι ι2 s s4:=
  ⟨N2.grow.pre,fun b o hb o_ eb=>(N2.keep b o hb eb).trans fun o' eb'=>N24 b o' eb',fun b o eb=>by
   refine e11 (N2.grow.stays eb) fun o' eb'=>?_;exact (N24 b o' eb').isome,N4.inn,N4.os.trans (hos3.trans N2.os),fun q x eq=>N4.gm q x (by rw [hgens3];exact N2.gm q x eq)⟩
 have R4:R (s2.heap.objs.size::K.hid) 0 ι2 s4:=by
  refine (hIt (s2.heap.objs.size::K.hid)).stable R0' (fun o_=>hfx) ⟨⟨[],by simp,by simp⟩,fun b o o_ hc eb=>?_,fun q x eq=>N4.gm q x (by rw [hgens3];exact eq),N4.inn.top⟩;rcases hc with hc|⟨_,items,m,rfl|rfl⟩|⟨⟨c,hc⟩,_⟩
  ·exact (N24 b o eb).off fun hm=>absurd (ht b hm) (Ww (fo.ok b hc).1)
  ·exact (N24 b _ eb).get (nf_tup _ _)
  ·exact (N24 b _ eb).get (nf_lst _ _)
  ·exact (N24 b _ eb).cls hc
 have hD4:s4.heap.get? s2.heap.objs.size=some (lstObj #[] 0):=(N4.keep _ _ (by simp) hD3).get (nf_lst _ _);have loop:∀ s6,s6=s4→codeAny (model prog w) A (.compLoop (.ListComp elt (g::gs) sc' pos) 0 itv (.ref s2.heap.objs.size) { cenv with scope:=relabel sc' env })
   (compPost (model prog w) A E use Q (.ref s2.heap.objs.size) cenv.locals) s6:=by
  rintro s6 rfl;refine h2 _ S.well (ι0:=ι) (s0:=s) rfl rfl F4' N4' (hIt (s2.heap.objs.size::K.hid)) R4 (fun hm=>?_) (fun hm=>Nat.lt_irrefl _ (fplt _ hm)) hfp hgp hD4 .nil (fresh_not_mem N2.inn.rel) (Qk ..) hN3
   fun s5 ι5 items' n' N5 F5 hD5 hDi5 hr5=>?_
  ·have:=fplt _ hm;rw [show ({ cenv with scope:=relabel sc' env }:Env).locals=s2.heap.objs.size+1 from hCs] at this;exact absurd this (Ww (Nat.le_succ _))
  have hno:∀ b o,s.heap.get? b=some o→¬OwnD { cenv with scope:=relabel sc' env } sc' s2.heap.objs.size b:=by
   intro b o eb hw;have hlt:=hnew b o eb;rcases hw with (hw|⟨x,hk,hx⟩)|hw
   ·rw [hw,show ({ cenv with scope:=relabel sc' env }:Env).locals=s2.heap.objs.size+1 from hCs] at hlt;exact absurd hlt (Ww (Nat.le_succ _))
   ·have:=F4'.own x b hk hx;rw [show ({ cenv with scope:=relabel sc' env }:Env).locals=s2.heap.objs.size+1 from hCs] at this;exact absurd (Nat.lt_of_succ_lt this) (Ww (Wq hlt))
   ·rw [hw] at hlt;exact Nat.lt_irrefl _ hlt
  have hDs:s.heap.get? s2.heap.objs.size=none:=by
   cases q:s.heap.get? s2.heap.objs.size with
   |none=>rfl
   |some o=>exact absurd (hnew _ o q) (Nat.lt_irrefl _)
  have hCn:s.heap.get? cenv.locals=none:=by
   cases q:s.heap.get? cenv.locals with
   |none=>rfl
   |some o=>exact absurd (hnew _ o q) (by rw [hCs];exact Ww (Nat.le_succ _))
  refine e13 (made_ok (lo:=lo) hT N5.inn N5.pre (fun b o hb eb=>N5.keep b o hb (hno b o eb) eb) N5.there N5.os N5.gm hD5 hr5 hDi5 hN3 hDs (fresh_not_hid N2.inn.rel) e3) fun ι6 N6 r6 hm6=>?_;refine hP _ s5 ι6 cenv.locals N6 r6 ?_ (fun hm=>?_) (by rw [hCs];exact Nat.le_succ_of_le hN3) hCn
  ·obtain ⟨m,hm,hi,_⟩:=F5.ns;exact ⟨m,hm,hi⟩
  ·rcases hm6 _ hm with z|z
   ·exact F5.offL.1 z
   ·rw [hCs] at z;exact absurd z (Nat.succ_ne_self _)
 exact compStart_go rfl hasy (loop _ rfl) ((hIt (s2.heap.objs.size::K.hid)).again R4 (loop _ rfl))
theorem lc_ok (hT:Mono K T) (ht:∀ b∈K.tabs,b<K.N0) (e:LcOk prog w K T sc lo elt g gs sc' ρ σ σ1 σ2 it vs A env keep v σ'):SGood prog w K T lo σ σ' v A env sc ρ (eval (.ListComp elt (g::gs) sc' pos) env):=by
 intro ι s Q E F I h;have ha:g.is_async=0:=e.asy;rw [eval_ListComp];rw [show firstAsync (g::gs)=false from (by obtain ⟨t,i,fs,a⟩:=g;subst ha;rfl),show firstIter (g::gs) env=eval g.iter env from (by obtain ⟨t,i,fs,a⟩:=g;rfl)];refine lc_core hT ht e F I fun rv s' ι' Cc N r hns hC hCN hCs=>?_;refine e12 (hns) fun m hm hi=>?_;refine ⟨m,hm,fun h' hs'=>?_⟩;have only:∀ b o,b≠Cc→s'.heap.get? b=some o→({ s' with heap:=h' }:Shared).heap.get? b=some o:=fun b o hb eb=>by
  rw [←eb];exact hs'.2 b hb
 have hne:∀ b o,s.heap.get? b=some o→b≠Cc:=fun b o eb q=>by rw [q,hCs] at eb;cases eb
 have hCh:Cc∉K.hid:=fun hm=>by
  refine e11 (I.rel.hid _ hm) fun o eo=>?_;rw [hCs] at eo;cases eo
 have kp:∀ b o,s.heap.get? b=some o→∀ o',s'.heap.get? b=some o'→As K.tabs h' b o':=fun b o eb o' eb'=>.inl (only b o' (hne b o eb) eb');refine h _ _ ι' ⟨⟨N.grow.pre,fun b o hb eb=>(N.grow.keep b o hb eb).trans fun o' e'=>kp b o eb o' e',fun b o hb eb=>?_⟩,fun b o hb eb=>(N.keep b o hb eb).trans fun o' e'=>kp b o eb o' e',cl_inn hm hi only hT hCN hC hCh N.inn rfl,N.os,N.gm⟩ (r.calm (cl_calm hm hi only));refine nb fun kk=>?_;refine e11 (N.grow.there b o hb eb) fun o' eb'=>?_;refine kk ?_;exact ⟨o',only b o' (hne b o eb) eb'⟩
theorem lc_assign (hT:Mono K T) (ht:∀ b∈K.tabs,b<K.N0) {ρ':Rho} {py:Pos} {y:Str} (e:LcOk prog w K T sc lo elt g gs sc' ρ σ σ1 σ2 it vs A env keep v σ')
  (eb:bindT sc (.Name y py) v ρ=some ρ') (hw:wellSc sc) (hh:A.handled=none)
  {ι:List Addr} {s:Shared} {Q:Unit→Shared→Prop} {E:Value→Shared→Prop} (F:FrOk K ι s.heap env sc ρ) (I:In0 K T ι σ s)
  (h:∀ s' ι',NxS K T lo (Own env sc) σ' ι ι' s s'→FrOk K ι' s'.heap env sc ρ'→Q () s'):
  wpAny (model prog w) A (evalThenUse (.ListComp elt (g::gs) sc' pos) env (assign (.Name y py) env)) Q E s:=by
 have ha:g.is_async=0:=e.asy;unfold evalThenUse;dsimp only;rw [show firstAsync (g::gs)=false from (by obtain ⟨t,i,fs,a⟩:=g;subst ha;rfl),show firstIter (g::gs) env=eval g.iter env from (by obtain ⟨t,i,fs,a⟩:=g;rfl)];refine Qq (lc_core hT ht e F I fun rv s' ι' Cc N r hns hC hCN hCs=>?_);show wpAny _ _ (assign (.Name y py) env rv) _ _ _;refine assign_ok (lo:=ι'.length) hT hw hh eb (F.grow N.grow) N.inn r fun s2 N2 F2=>?_;refine nb fun kk=>?_;refine e12 (hns) fun m hm hi=>?_;refine kk ?_;have hne:∀ b o,s.heap.get? b=some o→b≠Cc:=fun b o eb q=>by rw [q,hCs] at eb;cases eb
 have hCO:¬Own env sc Cc:=fun hw=>by
  rcases hw with hw|⟨x,hk,hx⟩
  ·obtain ⟨m',hm',_⟩:=F.ns;refine e12 (Heap.Ns.get hm') fun o ho o_=>?_;exact hne _ o ho hw.symm
  ·obtain ⟨_,_,v,o,ho,_⟩:=F.offC x Cc hx;exact hne _ o ho rfl
 have hm2:s2.heap.Ns Cc m:=As.ns (K:=K) hm fun o eo=>N2.keep Cc o (by simp) hCO eo;refine ⟨m,hm2,fun h' hs'=>Qf ?_⟩;have only:∀ b o,b≠Cc→s2.heap.get? b=some o→({ s2 with heap:=h' }:Shared).heap.get? b=some o:=fun b o hb eb=>by
  rw [←eb];exact hs'.2 b hb
 have hCh:Cc∉K.hid:=fun hm=>by
  refine e11 (I.rel.hid _ hm) fun o eo=>?_;rw [hCs] at eo;cases eo
 have NN:=(N.toS (own:=Own env sc)).trans (NxS.mk N2.pre (fun b o hb=>N2.keep b o (by simp)) N2.there N2.inn N2.os N2.gm:NxS K T lo (Own env sc) σ' ι' ι' s' s2);refine h _ ι' ⟨NN.pre,fun b o hb ho eb=>(NN.keep b o hb ho eb).trans fun o' e'=>.inl (only b o' (hne b o eb) e'),fun b o eb=>?_,cl_inn hm2 hi only hT hCN hC hCh NN.inn rfl,NN.os,NN.gm⟩
  (cl_fr hm2 hi only F2 ?_)
 ·obtain ⟨o',e'⟩:=NN.there b o eb;exact ⟨o',only b o' (hne b o eb) e'⟩
 ·obtain ⟨m',hm',_⟩:=F.ns;refine e12 (Heap.Ns.get hm') fun o ho o_=>?_;exact hne _ o ho
noncomputable def Mv (H ι ι':List Addr) (h h':Heap):Prop:=(∀ a o items n,a∉ι→a∉H→(o=tupObj items n∨o=lstObj items n)→h.get? a=some o→h'.get? a=some o∧a∉ι')∧(∀ (i:Nat) a,ι[i]?=some a→ι'[i]?=some a)
theorem Mv.of_calm {H ι:List Addr} {h h':Heap} (c:Calm H ι h h'):Mv H ι ι h h':=⟨fun a o items n h1 h2 ho e=>⟨c a o items n h1 h2 ho e,h1⟩,fun o_ o_ e=>e⟩
theorem Mv.of_stb {fp ι ι':List Addr} {gp:List Nat} {s s':Shared} (q:Stb K T fp gp ι ι' s s'):Mv K.hid ι ι' s.heap s'.heap:=by
 refine e12 (q.pre) fun news qz1 hn=>?_;obtain rfl:=qz1;refine ⟨fun a o items n h1 h2 ho e=>⟨q.keep a o h1 (.inr (.inl ⟨h2,items,n,ho⟩)) e,fun hm=>?_⟩,fun i a e=>?_⟩
 ·rcases Wx hm with hm|hm
  ·exact h1 hm
  ·rw [hn a hm] at e;cases e
 ·rw [List.getElem?_append_left]
  ·exact e
  ·exact (Qz e).1
theorem not_news {ι ι':List Addr} {h:Heap} {b:Addr} {o:Obj} (pre:∃ news,ι'=ι++news∧∀ a∈news,h.get? a=none) (hb:b∉ι) (e:h.get? b=some o):b∉ι':=by
 refine e12 (pre) fun news qz1 hn=>?_;obtain rfl:=qz1;intro hi;rcases Wx hi with z|z
 ·exact hb z
 ·rw [hn b z] at e;cases e
structure Mk (prog:Program) (w:World) (K:Cst) (T:Heap→Prop) (A:Around) (it:Value) (target:Expr) (fp:List Addr) (nth:St→Nat→Option (Option V)) (P:Nat→Heap→Prop) (D:List Addr→List Addr→Heap→Prop):Prop where
 frame:∀ {k h h'},P k h→(∀ b∈fp,∀ o,h.get? b=some o→h'.get? b=some o)→P k h'
 priv:∀ {k h},P k h→∀ b∈fp,∃ o,h.get? b=some o∧privObj o
 move:∀ {H ι ι' h h'},D H ι h→Mv H ι ι' h h'→D H ι' h'
 hide:∀ {H Dd ι h},D H ι h→h.get? Dd=none→D (Dd::H) ι h
 turn:∀ {H k x ι σ s} {Q:Value→Shared→Prop} {E:Value→Shared→Prop},nth σ k=some (some x)→P k s.heap→D H ι s.heap→In0 (K.withH H) T ι σ s→(∀ b∈fp,b∉ι)→
  (∀ v h' tk,P (k+1) h'→(∀ b o,b∉fp→s.heap.get? b=some o→h'.get? b=some o)→(Calm H ι s.heap h'→RV H ι h' v x)→Q v { s with heap:=h',toks:=tk })→
  wpAny (model prog w) A (pyNext it) (fun r s₁=>∃ v,r=some v∧wpAny (model prog w) A (letOwnedTupleGo target it v) (fun o_ s₂=>Q v s₂) E s₁) E s
 fin:∀ {H k ι σ s} {Q:Shared→Prop} {E:Value→Shared→Prop},nth σ k=some none→P k s.heap→D H ι s.heap→In0 (K.withH H) T ι σ s→(∀ b∈fp,b∉ι)→
  (∀ h' tk,(∀ b o,b∉fp→s.heap.get? b=some o→h'.get? b=some o)→Q { s with heap:=h',toks:=tk })→wpAny (model prog w) A (pyNext it) (fun r s₁=>r=none∧Q s₁) E s
 again:∀ {k s} {Q:Value→Shared→Prop} {E:Value→Shared→Prop},P k s.heap→Q it s→wpAny (model prog w) A (pyIter it) Q E s
noncomputable def MkR (K:Cst) (fp:List Addr) (P:Nat→Heap→Prop) (D:List Addr→List Addr→Heap→Prop) (H:List Addr) (k:Nat) (ι:List Addr) (s:Shared):Prop:=P k s.heap∧(∀ b∈fp,K.N0≤b∧b∉ι∧b∉H)∧D H ι s.heap
theorem Mk.ok {A:Around} {it:Value} {target:Expr} {fp:List Addr} {nth:St→Nat→Option (Option V)} {P:Nat→Heap→Prop} {D:List Addr→List Addr→Heap→Prop}
  (M:Mk prog w K T A it target fp nth P D) (H:List Addr):IterOk prog w (K.withH H) T A it target fp [] nth (MkR K fp P D H) where
 fpok:=fun {k ι s} ⟨hp,hb,hd⟩=>⟨fun b hm=>⟨(hb b hm).1,(hb b hm).2.1,fun o e=>by obtain ⟨o',e',h'⟩:=M.priv hp b hm;rw [Qw (e.symm.trans e')];exact h'⟩,fun b hm=>(hb b hm).2.2⟩
 again:=fun ⟨hp,_,_⟩ hQ=>M.again hp hQ
 stable:=fun {k ι ι' s s'} ⟨hp,hb,hd⟩ _ q=>⟨M.frame hp fun b hm o e=>q.keep b o (hb b hm).2.1 (.inl hm) e,fun b hm=>⟨(hb b hm).1,let ⟨o,e,_⟩:=M.priv hp b hm;not_news q.pre (hb b hm).2.1 e,(hb b hm).2.2⟩,M.move hd (Mv.of_stb (K:=K.withH H) q)⟩
 turn:=fun {k x ι σ s Q E} hn ⟨hp,hb,hd⟩ I h=>M.turn hn hp hd I (fun b hm=>(hb b hm).2.1) fun v h' tk hp' only hr=>by
  have q:Qt (K.withH H) fp [] s { s with heap:=h',toks:=tk }:=⟨only,fun z=>z,fun o_ o_ o_ e=>e,rfl⟩
  have f:FpOk (K.withH H) fp ι s.heap:=⟨fun b hm=>⟨(hb b hm).1,(hb b hm).2.1,fun o e=>by obtain ⟨o',e',h'⟩:=M.priv hp b hm;rw [Qw (e.symm.trans e')];exact h'⟩,fun b hm=>(hb b hm).2.2⟩
  have c:Calm H ι s.heap h':=q.calm f;exact h v _ q (hr c) ⟨hp',hb,M.move hd (Mv.of_calm c)⟩
 fin:=fun {k ι σ s Q E} hn ⟨hp,hb,hd⟩ I h=>M.fin hn hp hd I (fun b hm=>(hb b hm).2.1) fun h' tk only=>
  h _ ⟨only,fun z=>z,fun o_ o_ o_ e=>e,rfl⟩
theorem Mk.hidden {A:Around} {it:Value} {target:Expr} {fp:List Addr} {nth:St→Nat→Option (Option V)} {P:Nat→Heap→Prop} {D:List Addr→List Addr→Heap→Prop}
  (M:Mk prog w K T A it target fp nth P D):∀ H Dd k ι s,MkR K fp P D H k ι s→s.heap.get? Dd=none→MkR K fp P D (Dd::H) k ι s:=
 fun H Dd k ι s ⟨hp,hb,hd⟩ e=>⟨hp,fun b hm=>⟨(hb b hm).1,(hb b hm).2.1,fun z=>by
  rcases Wy z with z|z
  ·obtain ⟨o,e2,_⟩:=M.priv hp b hm;rw [z,e] at e2;cases e2
  ·exact (hb b hm).2.2 z⟩,M.hide hd e⟩
theorem letOwned_other {A:Around} {E:Value→Shared→Prop} {s:Shared} {target:Expr} {it:Addr} {v:Value} {Q:Unit→Shared→Prop} {o:Obj} {c:String} (ho:s.heap.get? it=some o) (hc:o.cls=.type c)
  (hn:(["enumerate","zip","dict_itemiterator","dict_reverseitemiterator","odict_iterator","itertools.zip_longest","itertools.pairwise"].contains c)=false) (h:Q () s):wpAny (model prog w) A (letOwnedTupleGo target (.ref it) v) Q E s:=by
 have body:wpAny (model prog w) A (do
   let (.ref r,.ref a):=(Value.ref it,v)|return
   let o←load r
   match o.cls,o.data with
   |.type n,.fields vs=>
    if ["enumerate","zip","dict_itemiterator","dict_reverseitemiterator","odict_iterator","itertools.zip_longest","itertools.pairwise"].contains n&&vs[0]?==some (rawInt a) then
     rule "for.unpacks-the-owned-tuple"
     updateField r 0 .none
   |_,_=>pure ()) Q E s:=by
  cases v with
  |ref a=>
   refine Qq (wpAny_load ho ?_);rw [hc];cases o.data with
   |fields vs=>
    dsimp only;rw [hn,Bool.false_and];exact Qf h
   |_=>exact Qf h
  |_=>exact Qf h
 cases target<;>first|exact body|exact Qf h
theorem priv_listiter {h:Heap} {it l:Addr} {k:Nat} (x:h.IsListIter it l k):∃ o,h.get? it=some o∧privObj o:=by
 obtain ⟨o,ho,hc,hd⟩:=x;exact ⟨o,ho,⟨_,hc,by decide⟩,.inl ⟨_,hd⟩⟩
theorem listiter_frame {h h':Heap} {it l:Addr} {k:Nat} (x:h.IsListIter it l k) (f:∀ b∈[it],∀ o,h.get? b=some o→h'.get? b=some o):h'.IsListIter it l k:=by
 obtain ⟨o,ho,hc,hd⟩:=x;exact ⟨o,f it (by simp) o ho,hc,hd⟩
noncomputable def DFro (l:Addr) (items:Array Value) (n:Nat) (xs:List V) (H ι:List Addr) (h:Heap):Prop:=l∉ι∧l∉H∧h.get? l=some (lstObj items n)∧RVs H ι h items.toList xs
theorem DFro.move {l:Addr} {items:Array Value} {n:Nat} {xs:List V} {H ι ι':List Addr} {h h':Heap} (d:DFro l items n xs H ι h) (m:Mv H ι ι' h h'):DFro l items n xs H ι' h':=
 ⟨(m.1 l _ items n d.1 d.2.1 (.inr rfl) d.2.2.1).2,d.2.1,(m.1 l _ items n d.1 d.2.1 (.inr rfl) d.2.2.1).1,RVs.move m.1 m.2 d.2.2.2⟩
theorem DFro.hide {l:Addr} {items:Array Value} {n:Nat} {xs:List V} {H ι:List Addr} {h:Heap} {Dd:Addr} (d:DFro l items n xs H ι h) (e:h.get? Dd=none):DFro l items n xs (Dd::H) ι h:=by
 refine ⟨d.1,fun hm=>?_,d.2.2.1,d.2.2.2.hide e⟩;rcases Wy hm with z|z
 ·have:=d.2.2.1;rw [z,e] at this;cases this
 ·exact d.2.1 z
theorem some_get {xs:List V} {items:Array Value} {H ι:List Addr} {h:Heap} {k:Nat} {x:V} (r:RVs H ι h items.toList xs) (e:xs[k]?=some x):∃ v,items[k]?=some v∧RV H ι h v x:=by
 refine nb fun kk=>?_;refine e12 (r.get e) fun v e1 e2=>?_;refine kk ?_;exact ⟨v,by simpa using e1,e2⟩
theorem none_get {xs:List V} {items:Array Value} {H ι:List Addr} {h:Heap} {k:Nat} (r:RVs H ι h items.toList xs) (e:xs[k]?=none):items[k]?=none:=by
 have:=r.length;rw [List.getElem?_eq_none_iff] at e;rw [Array.getElem?_eq_none_iff];exact Qy (Nat.le_of_eq (Array.length_toList.symm.trans this)) e
theorem mk_fro {A:Around} {it l:Addr} {target:Expr} {items:Array Value} {n:Nat} {xs:List V} (hh:A.handled=none):Mk prog w K T A (.ref it) target [it] (It.fix xs).nth (fun k h=>h.IsListIter it l k) (DFro l items n xs) where
 frame:=listiter_frame
 priv:=fun hp b hm=>by rw [Wz hm];exact priv_listiter hp
 move:=DFro.move
 hide:=DFro.hide
 turn:=fun {H k x ι σ s Q E} hn hp hd I hf h=>by
  have hn:xs[k]?=some x:=Qw hn;refine nb fun kk=>?_;refine e12 (some_get hd.2.2.2 hn) fun v e1 e2=>?_;refine kk ?_;refine wpAny_pyNext_list_item hp (lstObj_isList hd.2.2.1) e1 fun h' hit' hs=>⟨v,rfl,?_⟩
  refine nb fun kk=>?_;obtain ⟨o,ho,hc,_⟩:=id hit';refine kk ?_;refine letOwned_other (s:={ s with heap:=h' }) ho hc (by decide) ?_;exact h v h' s.toks hit' (fun b o hb e=>hs.extBut b o (fun z=>hb (by simp -iota [z])) e) fun c=>e2.calm c
 fin:=fun {H k ι σ s Q E} hn hp hd I hf h=>by
  have hn:xs[k]?=none:=Qw hn;refine wpAny_pyNext_list_end hh hp (lstObj_isList hd.2.2.1) (none_get hd.2.2.2 hn) fun h' hx=>?_;exact ⟨rfl,h h' s.toks fun b o hb e=>hx b o (fun z=>hb (by simp -iota [z])) e⟩
 again:=fun hp hQ=>wpAny_pyIter_listiter hp hQ
section
variable {A:Around} {E:Value→Shared→Prop} {s:Shared}
theorem newStop {M:Model} {Q:Value→Shared→Prop} (h:∀ h' a o,(∀ b o,s.heap.get? b=some o→h'.get? b=some o)→h'.get? a=some o→o.cls=.type "StopIteration"→Q (.ref a) { s with heap:=h' }):wpAny M A (newExc (.type "StopIteration") []) Q E s:=by
 delta newExc newTuple
 refine Qq (wpAny_newObj_type ?_ (by size_fits));refine Qq (m:=firstArgMember _ _) (wpAny_of_eq (a:=Value.none) (by first|rfl|(simp -iota only [firstArgMember];rfl)) ?_);exact wpAny_newObj_type (h _ _ _ (fun b o hb=>Qg _ (Qg _ hb)) (Heap.get?_push_size _ rfl) rfl) (by size_fits)
noncomputable def Stop (P:Shared→Prop) (e:Value) (s:Shared):Prop:=∃ a o,e=.ref a∧s.heap.get? a=some o∧o.cls=.type "StopIteration"∧P s
theorem stop_ok {M:Model} {α:Type} {P:Shared→Prop} {Q:α→Shared→Prop} (hh:A.handled=none) (h:∀ h',(∀ b o,s.heap.get? b=some o→h'.get? b=some o)→P { s with heap:=h' }):wpAny M A (newExc (.type "StopIteration") [] >>=raiseNew:Sem α) Q (Stop P) s:=
 Qq (newStop fun h' a o k e c=>wpAny_raiseNew_none hh ⟨a,o,rfl,e,c,h h' k⟩)
theorem next_of {v:Value} {T id:String} {B:Builtin} {Q:Option Value→Shared→Prop} (hT:s.TypeIs v T) (sl:Slot T "__next__" id) (en:entryFor table id=some B) (ar:argsOk id ⟨[v],[]⟩)
  (h:wpAny (model prog w) A.in1 (B ⟨[v],[]⟩) (fun fin s'=>∃ v,fin=.done (.ret v)∧Q (some v) s') (Stop (Q none)) s):wpAny (model prog w) A (pyNext v) Q E s:=by
 unfold pyNext;refine Qq (wpAny_attempt (wpAny_callSpecial?_slot (name:=Str.ofString "__next__") hT sl (wpAny_call_entry sl hT en (Wj h (fun fin s' z=>?_) fun e s' z=>?_) ar)))
 ·exact z.elim fun v z=>⟨v,z.1,Qf z.2⟩
 ·obtain ⟨a,o,rfl,h1,h2,q⟩:=z;exact Qq (wpAny_isInstance (T:="StopIteration") (b:=true) ⟨o,h1,h2⟩ isSubtype_stop (wT rfl (Qf q)))
theorem next_seq {it l:Addr} {i:Nat} {items:Array Value} {ol:Obj} {nl:Nat} {Q:Option Value→Shared→Prop} (hh:A.handled=none) (hit:s.heap.IsListIter it l i) (hol:s.heap.get? l=some ol) (hdl:ol.data=.seq items nl)
  (hQ:∀ h',(∀ x,items[i]?=some x→h'.IsListIter it l (i+1))→Heap.ExtBut it s.heap h'→Q items[i]? { s with heap:=h' }):wpAny (model prog w) A (pyNext (.ref it)) Q E s:=by
 obtain ⟨o,ho,hc,hd⟩:=id hit;refine next_of hit.typeIs slot_listiter_next entry_listiter_next (args_listiter_next _) ?_;refine Qq (m:=field (.ref it) 0) (wpAny_field ho hd (x:=.ref l) rfl ?_);refine wF rfl (Qq (m:=field (.ref it) 1) (wpAny_field ho hd (x:=.int i 0) rfl (Qq (m:=seqItems? (.ref l)) (wpAny_seqItems hol hdl ?_))));show wpAny _ _ (match items[i]? with|some x=>_|none=>_) _ _ _;cases hx:items[i]? with
 |some x=>
  rw [hx] at hQ;refine Qq (wpAny_setField ho hd (by simp) (Qf ⟨x,rfl,hQ _ (fun o_ o_=>?_) (Heap.SameBut.update ..).extBut⟩));exact ⟨_,Heap.get?_update_self _ ho (Obj.isFreed_of_fields (Obj.data_mapFields hd _)),(Obj.cls_mapFields ..).trans hc,by
   rw [Obj.data_mapFields hd];simp -iota [rawInt]⟩
 |none=>
  rw [hx] at hQ;exact Qq (wpAny_rule (Qq (wpAny_setField ho hd (by simp) (stop_ok hh fun h' k=>hQ _ (fun o_ z=>by cases z) fun b o hb z=>k _ _ ((Heap.SameBut.update ..).extBut b o hb z)))))
end
theorem mk_dyn {A:Around} {it l:Addr} {target:Expr} {i:Nat} (hh:A.handled=none):Mk prog w K T A (.ref it) target [it] (It.dyn i).nth (fun k h=>h.IsListIter it l k) (fun o_ ι o_=>ι[i]?=some l) where
 frame:=listiter_frame
 priv:=fun hp b hm=>by rw [Wz hm];exact priv_listiter hp
 move:=fun hd m=>m.2 _ _ hd
 hide:=fun hd o_=>hd
 turn:=fun {H k x ι σ s Q E} hn hp hd I hf h=>by
  refine mI (show (seqOf _ _).map _=_ from hn) fun xs e1 e2=>?_;refine nb fun kk=>?_;refine e33 (seqOf_at I.rel e1 (.ref hd)) fun l' items n z e3 e5=>?_;obtain rfl:=Value.ref.inj z;refine e12 (some_get e5 e2) fun v e6 e7=>?_;refine kk ?_;refine next_seq hh hp e3 rfl fun h' hit' hs=>?_;rw [e6];refine ⟨v,rfl,?_⟩;refine nb fun kk=>?_;obtain ⟨o,ho,hc,hd'⟩:=hit' v e6;refine kk ?_;refine letOwned_other (s:={ s with heap:=h' }) ho hc (by decide) ?_;exact h v h' s.toks ⟨o,ho,hc,hd'⟩ (fun b o hb e=>hs b o (fun z=>hb (by simp [z])) e) fun c=>e7.calm c
 fin:=fun {H k ι σ s Q E} hn hp hd I hf h=>by
  refine mI (show (seqOf _ _).map _=_ from hn) fun xs e1 e2=>?_;refine nb fun kk=>?_;refine e33 (seqOf_at I.rel e1 (.ref hd)) fun l' items n z e3 e5=>?_;refine kk ?_;obtain rfl:=Value.ref.inj z;have e6:=none_get e5 e2;refine next_seq hh hp e3 rfl fun h' hit' hs=>?_;rw [e6];exact ⟨rfl,h h' s.toks fun b o hb e=>hs b o (fun z=>hb (by simp [z])) e⟩
 again:=fun hp hQ=>wpAny_pyIter_listiter hp hQ
theorem rangeL_get {a b c:Int} {k:Nat}:(rangeL a b c)[k]?=if (k:Int)<Builtin.Range.rangeSize a b c then some (V.int (a+k*c)) else none:=by
 unfold rangeL;rw [Qb]
 by_cases h:(k:Int)<Builtin.Range.rangeSize a b c
 ·rw [if_pos h,List.getElem?_range (by omega)];rfl
 ·rw [if_neg h,List.getElem?_eq_none (by simp;omega)];rfl
set_option tactic.hygienic true in
theorem mk_range {A:Around} {it:Addr} {target:Expr} {a b c:Int} (hh:A.handled=none):Mk prog w K T A (.ref it) target [it] (It.fix (rangeL a b c)).nth (fun k h=>IsRangeIter h it (a+k*c) (Builtin.Range.rangeSize a b c-k) c) (fun o_ o_ o_=>True) where
 frame:=fun hp f=>f it (by simp) _ hp
 priv:=fun hp b hm=>by rw [Wz hm];exact ⟨_,hp,⟨_,rfl,by decide⟩,.inl ⟨_,rfl⟩⟩
 move:=fun hd m=>trivial
 hide:=fun hd o_=>trivial
 turn:=fun {H k x ι σ s Q E} hn hp hd I hf h=>by
  have hn:(rangeL a b c)[k]?=some x:=Qw hn;rw [rangeL_get] at hn
  split at hn
  ·cases hn;refine wpAny_pyNext_range_item hp (by omega) fun h' hit' hs=>⟨_,rfl,?_⟩
   refine letOwned_other (s:={ s with heap:=h',toks:=s.toks+1 }) hit' rfl (by decide) ?_;refine h _ h' _ ?_ (fun b o hb e=>hs.extBut b o (fun z=>hb (by simp [z])) e) fun c=>.int _ _;have e1:a+((k+1:Nat):Int)*c=a+k*c+c:=by push_cast;rw [Int.add_mul];omega
   have e2:Builtin.Range.rangeSize a b c-((k+1:Nat):Int)=Builtin.Range.rangeSize a b c-k-1:=by omega
   rw [e1,e2];exact hit'
  ·cases hn
 fin:=fun {H k ι σ s Q E} hn hp hd I hf h=>by
  have hn:(rangeL a b c)[k]?=none:=Qw hn;rw [rangeL_get] at hn
  split at hn
  ·cases hn
  ·rename_i hlt
   exact wpAny_pyNext_range_end hh hp (by omega) fun h' hx=>⟨rfl,h h' s.toks fun b o hb e=>hx b o (fun z=>hb (by simp [z])) e⟩
 again:=fun hp hQ=>wpAny_pyIter_rangeiter hp hQ
theorem asc_all {x:Str} (h:asc x=true):x.cps.all (·<128)=true:=by
 unfold asc at h;rw [←Array.all_toList];exact h
theorem priv_striter {h:Heap} {it:Addr} {x:Str} {t:Tok} {k:Nat} (p:h.IsStrIter it "str_ascii_iterator" x t k):∃ o,h.get? it=some o∧privObj o:=by
 obtain ⟨o,ho,hc,hd⟩:=p;exact ⟨o,ho,⟨_,hc,by decide⟩,.inl ⟨_,hd⟩⟩
theorem priv_enum {h:Heap} {e it:Addr} {i:Int} {old:Value} (p:IsEnum h e it i old):∃ o,h.get? e=some o∧privObj o:=⟨_,p,⟨_,rfl,by decide⟩,.inl ⟨_,rfl⟩⟩
theorem zip_get {α:Type} {f:α×Nat→V} {xs:List α} {k:Nat}:(xs.zipIdx.map f)[k]?=xs[k]?.map fun x=>f (x,k):=by
 rw [Qb,List.getElem?_zipIdx];cases xs[k]?<;>simp
theorem mk_enumL {A:Around} {e it l:Addr} {es:List Expr} {x1} {tp:Pos} {items:Array Value} {n:Nat} {xs:List V} (hne:e≠it) (hh:A.handled=none):
  Mk prog w K T A (.ref e) (.Tuple es x1 tp) [e,it] (It.fix (xs.zipIdx.map fun (v,k)=>.tup [.int k,v])).nth (fun k h=>(∃ old,IsEnum h e it (k:Int) old)∧h.IsListIter it l k) (DFro l items n xs) where
 frame:=fun {k h h'} hp f=>⟨let ⟨old,z⟩:=hp.1;⟨old,f e (by simp) _ z⟩,let ⟨o,ho,hr⟩:=hp.2;⟨o,f it (by simp) o ho,hr⟩⟩
 priv:=fun hp b hm=>by
  simp only [List.mem_cons,List.not_mem_nil,or_false] at hm;rcases hm with rfl|rfl
  ·obtain ⟨old,z⟩:=hp.1;exact priv_enum z
  ·exact priv_listiter hp.2
 move:=DFro.move
 hide:=DFro.hide
 turn:=fun {H k x ι σ s Q E} hn hp hd I hf h=>by
  have hn:(xs.zipIdx.map fun (v,k)=>V.tup [.int k,v])[k]?=some x:=Qw hn;rw [zip_get,Option.map_eq_some_iff] at hn;refine nb fun kk=>?_;refine e12 (hn) fun y e1 qz2=>?_;obtain rfl:=qz2;refine e12 (some_get hd.2.2.2 e1) fun v e2 e3=>?_;refine e02 (hp) fun qz0 hl=>?_;obtain ⟨old,he⟩:=qz0;refine kk ?_;refine wpAny_pyNext_enum_item he hl (lstObj_isList hd.2.2.1) e2 hne fun h' ho hit' ht hsz keep=>⟨_,rfl,?_⟩
  refine wpAny_letOwnedTupleGo_enum (s:={ s with heap:=h',toks:=s.toks+1 }) ho fun h'' he' hs=>?_;have hlt:e<s.heap.objs.size:=Heap.lt_size he;have hlt2:it<s.heap.objs.size:=let ⟨o,ho,_⟩:=hl;Heap.lt_size ho
  refine h _ h'' _ ⟨⟨_,by simpa using he'⟩,?_⟩ (fun b o hb eb=>?_) fun c=>?_
  ·obtain ⟨o,ho,hr⟩:=hit';exact ⟨o,hs.extBut it o (Ne.symm hne) ho,hr⟩
  ·simp only [List.mem_cons,List.not_mem_nil,or_false,not_or] at hb;exact hs.extBut b o hb.1 (keep b o hb.1 hb.2 eb)
  ·refine .tup (fresh_not_mem I.rel) (fresh_not_hid I.rel) (hs.extBut _ _ (Nat.ne_of_gt hlt) ht) ?_;exact .cons (.int _ _) (.cons (e3.calm c) .nil)
 fin:=fun {H k ι σ s Q E} hn hp hd I hf h=>by
  have hn:(xs.zipIdx.map fun (v,k)=>V.tup [.int k,v])[k]?=none:=Qw hn;rw [zip_get,Option.map_eq_none_iff] at hn;refine nb fun kk=>?_;refine e02 (hp) fun qz0 hl=>?_;obtain ⟨old,he⟩:=qz0;refine kk ?_;exact wpAny_pyNext_enum_end hh he hl (lstObj_isList hd.2.2.1) (none_get hd.2.2.2 hn) fun h' hx=>⟨rfl,h h' s.toks fun b o hb e=>hx b o (fun z=>hb (by simp [z])) e⟩
 again:=fun hp hQ=>let ⟨_,z⟩:=hp.1;wpAny_pyIter_enum z hQ
end
section
variable {prog:Program} {w:World} {C:Cfg} {K:Cst} {T:Heap→Prop} {mg mb:Str→Option Value}
structure Facts (K:Cst) (T:Heap→Prop) (mg mb:Str→Option Value):Prop where
 mono:Mono K T
 tabs:∀ b∈K.tabs,b<K.N0
 codes:∀ {h},T h→∀ x∈K.codes,CodeHd h x.1 x.2∧x.2∈K.tabs
 lim:∀ {h},T h→h.NoLimit
 bmod:∀ {h},T h→∀ P∈K.tabs,h.BuiltinsAt mg P∧mainGlobals≠P
 glob:∀ {h},T h→h.Ns mainGlobals mg
 blt:∀ {h},T h→h.Ns builtinsNs mb
 types:∀ f∈["range","enumerate","str"],mg (Str.ofString f)=none∧mb (Str.ofString f)=some (.type f)
 fns:∀ f∈["len","sum","max","min","sorted"],mg (Str.ofString f)=none∧mb (Str.ofString f)=some (.builtin f)
theorem Facts.withH (G:Facts K T mg mb) (H:List Addr):Facts (K.withH H) T mg mb:=⟨G.mono,G.tabs,G.codes,G.lim,G.bmod,G.glob,G.blt,G.types,G.fns⟩
section
variable {A:Around} {E:Value→Shared→Prop} {s:Shared} {env:Env} {sc:Scope} {ρ:Rho} {ι:List Addr} {σ:St}
theorem glob_kind {x:Str} (F:FrOk K ι s.heap env sc ρ) (hk:kindIn sc x=some .globalImplicit):env.kindOf x=some .globalImplicit:=by
 rcases F.names x with z|⟨z,_⟩
 ·exact z.trans hk
 ·rw [hk] at z;cases z
theorem glob_blt {x:Str} {p:Pos} {v:Value} {Q:Value→Shared→Prop} (G:Facts K T mg mb) (F:FrOk K ι s.heap env sc ρ) (I:In0 K T ι σ s) (hk:kindIn sc x=some .globalImplicit) (hv:mg x=none∧mb x=some v)
  (hd:(x==("__debug__":Str))=false) (h:Q v s):wpAny (model prog w) A (eval (.Name x p) env) Q E s:=
 Name_function_global F.kind (glob_kind F hk) (loadGlobal_builtin (by rw [F.glob];exact G.glob I.top) hv.1 (by rw [F.blt];exact G.blt I.top) hv.2 h) hd
theorem glob_own {x:Str} {p:Pos} {v:Value} {Q:Value→Shared→Prop} (G:Facts K T mg mb) (F:FrOk K ι s.heap env sc ρ) (I:In0 K T ι σ s) (hk:kindIn sc x=some .globalImplicit) (hv:mg x=some v)
  (hd:(x==("__debug__":Str))=false) (h:Q v s):wpAny (model prog w) A (eval (.Name x p) env) Q E s:=
 Name_function_global F.kind (glob_kind F hk) (loadGlobal_global (by rw [F.glob];exact G.glob I.top) hv h) hd
theorem evalArgs_any {f:Value} {l:List (Bool×Sem Value)} {Q:Args→Shared→Prop} (hp:l.any (·.1)=false)
  (h:wpAny (model prog w) A (spliced l) (fun vs s'=>Q ⟨vs,[]⟩ s') E s):wpAny (model prog w) A (evalArgs f true l []) Q E s:=by
 cases l with
 |nil=>
  unfold evalArgs;refine Qq (Wj h (fun vs s' h'=>?_) fun o_ o_ x=>x);refine wpAny_holding ?_;exact Qq (Qf (Qq (Qf (Qf h'))))
 |cons x r=>
  refine nb fun kk=>?_;obtain ⟨b,x⟩:=x;refine kk ?_;cases b with
  |true=>cases hp
  |false=>exact evalArgs_plain h
end
theorem itr_close {A:Around} {itv:Value} {target:Expr} {fp:List Addr} {nth:St→Nat→Option (Option V)} {P:Nat→Heap→Prop} {D:List Addr→List Addr→Heap→Prop} {lo:Nat} {σ':St} {ι ι1:List Addr} {s s1 s2:Shared} {Q:Value→Shared→Prop}
  (M:Mk prog w K T A itv target fp nth P D) (N:Nx K T lo σ' ι ι1 s s1) (N2:Nx K T lo σ' ι1 ι1 s1 s2) (hfp:∀ b∈fp,s1.heap.objs.size≤b) (hN:K.N0≤s1.heap.objs.size) (hp:P 0 s2.heap) (hd:D K.hid ι1 s2.heap)
  {e0:Expr} (h:∀ itv s' ι' fp gp (R:List Addr→Nat→List Addr→Shared→Prop),Nx K T lo σ' ι ι' s s'→(∀ H,IterOk prog w (K.withH H) T A itv target fp gp nth (R H))→R K.hid 0 ι' s'→(notGen e0=true→(∀ H D k ι s,R H k ι s→s.heap.get? D=none→R (D::H) k ι s)∧∀ b∈fp,∃ o,s'.heap.get? b=some o)→(∀ b∈fp,s.heap.get? b=none)→(∀ g∈gp,s.gens[g]?=none)→Q itv s'):Q itv s2:=by
 refine h itv s2 ι1 fp [] (MkR K fp P D) (N.trans N2) (fun H=>M.ok H) ⟨hp,fun b hb=>⟨Qy hN (hfp b hb),fun hm=>?_,fun hm=>?_⟩,hd⟩ (fun o_=>⟨M.hidden,fun b hb=>let ⟨o,e,_⟩:=M.priv hp b hb;⟨o,e⟩⟩) (fun b hb=>N.grow.fresh (nil_of_size (hfp b hb))) (fun o_ hm=>nomatch hm)
 ·exact absurd (lt_of_mem N.inn.rel hm) (Ww (hfp b hb))
 ·obtain ⟨o,e⟩:=N.inn.rel.hid b hm;exact absurd (Heap.lt_size e) (Ww (hfp b hb))
theorem n0_le {ι ι1:List Addr} {s s1:Shared} {env:Env} {sc:Scope} {ρ:Rho} (F:FrOk K ι s.heap env sc ρ) (G:Grow K.tabs ι ι1 s.heap s1.heap):K.N0≤s1.heap.objs.size:=by
 refine e12 (F.ns) fun m hm o_=>?_;refine e12 (Heap.Ns.get hm) fun o ho o_=>?_;refine e11 (G.stays ho) fun o' ho'=>?_;exact Qy F.offL.2 (Wq (Heap.lt_size ho'))
section defs
variable (prog:Program) (w:World) (C:Cfg) (K:Cst) (T:Heap→Prop)
noncomputable def SGen (mg:Str→Option Value):Prop:=∃ g o fd,mg ("_iter_escaped_chars":Str)=some (.ref g)∧o.data=Data.func fd∧(∀ {h:Heap},T h→h.get? g=some o)∧∀ {A:Around} {env:Env} {sc:Scope} {ρ:Rho} {n lo:Nat} {σ:St} {ι:List Addr} {s:Shared} {x:Str} {t:Tok} {target:Expr} {Q:Value→Shared→Prop} {E:Value→Shared→Prop},Ok A (n+1)→
 FrOk K ι s.heap env sc ρ→In0 K T ι σ s→asc x=true→
 (∀ itv s' ι' fp gp (R:List Addr→Nat→List Addr→Shared→Prop),Nx K T lo σ ι ι' s s'→(∀ H,IterOk prog w (K.withH H) T A itv target fp gp (It.fix (escGo 0 false x.cps.toList)).nth (R H))→R K.hid 0 ι' s'→(∀ b∈fp,s.heap.get? b=none)→(∀ g∈gp,s.gens[g]?=none)→Q itv s')→
 wpAny (model prog w) A (PySem.call (.ref g) [.str x t]) (fun v s1=>wpAny (model prog w) A (pyIter v) Q E s1) E s
end defs
section
variable {A:Around} {env:Env} {sc:Scope} {ρ:Rho} {lo:Nat} {σ σ1:St} {e target:Expr} {args:List Expr} {p q:Pos} {xs:List V}
theorem rng_close (hh:A.handled=none) {ι ι1:List Addr} {s s1:Shared} {Q:Value→Shared→Prop} {E:Value→Shared→Prop} (F:FrOk K ι s.heap env sc ρ) (N1:Nx K T lo σ1 ι ι1 s s1) (hT:Mono K T) (h:ItrCont prog w K T lo e σ1 (.fix xs) A target ι s Q) (a b:Int) (t u v:Tok) (tk:Tok)
  (hx:rangeV a b 1=some xs):wpAny (model prog w) A (pyIter (.ref s1.heap.objs.size)) Q E { s1 with heap:=s1.heap.push { cls:=.type "range",data:=.fields #[.int a t,.int b u,.int 1 v] },toks:=tk }:=by
 refine rangeV_is hx fun hs q=>?_;subst q;refine wpAny_pyIter_range (IsRange.new _ _ _ _ _ _ _) hs ?_;refine itr_close (mk_range (target:=target) hh) N1 (Nx.heap hT N1.inn ((Ux.push _ _).trans (Ux.push _ _)) tk) (fun b hb=>by rw [Wz hb,Heap.size_push];exact Nat.le_succ _) (n0_le F N1.grow) ?_ trivial h;rw [show a+((0:Nat):Int)*1=a by simp,show Builtin.Range.rangeSize a b 1-((0:Nat):Int)=Builtin.Range.rangeSize a b 1 by simp];exact Heap.get?_push_size _ rfl
theorem rng_road (G:Facts K T mg mb) {vs:List V} (hk:kindIn sc ("range":Str)=some .globalImplicit) (h1:LGood prog w K T lo σ σ1 vs A env sc ρ args) {ι:List Addr} {s:Shared} {Q:Value→Shared→Prop} {E:Value→Shared→Prop} (F:FrOk K ι s.heap env sc ρ) (I:In0 K T ι σ s)
  (h:∀ rvs s1 ι1,Nx K T lo σ1 ι ι1 s s1→RVs K.hid ι1 s1.heap rvs vs→wpAny (model prog w) A (PySem.call (.type "range") rvs) (fun x s₁=>wpAny (model prog w) A (pyIter x) Q E s₁) E s1):
  wpAny (model prog w) A (eval (.Call (.Name ("range":Str) p) args [] q) env) (fun x s₁=>wpAny (model prog w) A (pyIter x) Q E s₁) E s:=by
 refine wpAny_Call_NameR (glob_blt G F I hk (G.types "range" (by simp)) (by decide) ?_);exact PySem.callWith_type (h1.plain _) (evalArgs_any (h1.plain _) (h1.run F I fun rvs s1 ι1 N1 r1=>h rvs s1 ι1 N1 r1))
theorem rng1_ok (G:Facts K T mg mb) (hh:A.handled=none) {m:Int} (hk:kindIn sc ("range":Str)=some .globalImplicit) (h1:LGood prog w K T lo σ σ1 [.int m] A env sc ρ args) (hx:rangeV 0 m 1=some xs):
  IGood prog w K T lo (.Call (.Name ("range":Str) p) args [] q) σ σ1 (.fix xs) A env sc ρ target:=fun F I h=>rng_road G hk h1 F I fun rvs s1 ι1 N1 r1=>
 rvs1 r1 fun u z r=>rvInt r fun t z2=>by rw [z,z2];exact call_range_1 (rng_close hh F N1 G.mono h 0 _ _ _ _ _ hx)
theorem one_arg {f:Value} {Q:Args→Shared→Prop} {E:Value→Shared→Prop} {s:Shared} (he:evOk e=true) (h:wpAny (model prog w) A (eval e env) (fun v s'=>Q ⟨[v],[]⟩ s') E s):wpAny (model prog w) A (evalArgs f true (backTo q (starEach [e] env)) []) Q E s:=by
 rw [show backTo q (starEach [e] env)=[(false,eval e env)] from by rw [ok_starred he];rfl];exact evalArgs_plain (spliced_cons (Wj h (fun o_ o_ h=>spliced_nil h) fun o_ o_ h=>h))
theorem enum_ok (G:Facts K T mg mb) (hh:A.handled=none) (ht:tupT target=true) (hk:kindIn sc ("enumerate":Str)=some .globalImplicit) (he:evOk e=true) (h1:SGood prog w K T lo σ σ1 (.fro xs) A env sc ρ (eval e env)):
  IGood prog w K T lo (.Call (.Name ("enumerate":Str) p) [e] [] q) σ σ1 (.fix (xs.zipIdx.map fun (v,k)=>.tup [.int k,v])) A env sc ρ target:=by
 intro ι s Q E F I h;refine nb fun kk=>?_;obtain ⟨es,x1,tp,rfl⟩:∃ es x1 tp,target=.Tuple es x1 tp:=by
  cases target<;>first|exact (xi3 _ _ _ rfl)|exact noB' ht
 refine kk ?_;refine wpAny_Call_NameR (glob_blt G F I hk (G.types "enumerate" (by simp)) (by decide) ?_);refine PySem.callWith_type (by rw [ok_starred he];rfl) (one_arg he (h1 F I fun rv s1 ι1 N1 r1=>rvFro r1 fun a items n z ha hhd ho hr=>?_));rw [z];refine call_enumerate_1 ho fun h' he' hl' hsz keep=>?_;refine wpAny_pyIter_enum he' ?_;exact itr_close (mk_enumL (Nat.succ_ne_self _) hh) N1 (Nx.heap G.mono N1.inn (Ux.of_keep keep) s1.toks) (fun b hb=>by
   simp only [List.mem_cons,List.not_mem_nil,or_false] at hb;rcases hb with rfl|rfl
   ·exact Nat.le_succ _
   ·exact Nat.le_refl _) (n0_le F N1.grow) ⟨⟨_,he'⟩,hl'⟩ (DFro.move ⟨ha,hhd,ho,hr⟩ (Mv.of_calm fun b o items n o_ o_ o_ e=>keep b o e)) h
theorem esc_ok (G:Facts K T mg mb) {n:Nat} (hA:Ok A (n+1)) (hgen:SGen prog w K T mg) {x:Str} (hk:kindIn sc ("_iter_escaped_chars":Str)=some .globalImplicit) (he:evOk e=true) (h1:SGood prog w K T lo σ σ1 (.str x) A env sc ρ (eval e env)):
  IGood prog w K T lo (.Call (.Name ("_iter_escaped_chars":Str) p) [e] [] q) σ σ1 (.fix (escGo 0 false x.cps.toList)) A env sc ρ target:=by
 intro ι s Q E F I h;refine nb fun kk=>?_;obtain ⟨g,o,fd,hg,q2,q1,hgen⟩:=hgen;refine kk ?_;refine wpAny_Call_NameR (glob_own G F I hk hg (by decide) ?_);refine callWith_function (o:=o) (fd:=fd) (one_arg he (h1 F I fun rv s1 ι1 N1 r1=>rvStr r1 fun t z ht=>?_));rw [z];refine ⟨⟨q1 N1.inn.top,q2⟩,hgen (target:=target) hA (F.grow N1.grow) N1.inn ht fun itv s' ι' fp gp R N2 a b d e=>h itv s' ι' fp gp R (N1.trans N2) a b (fun z=>noB' z) (fun b hb=>N1.grow.fresh (d b hb)) fun g hg=>?_⟩;cases q:s.gens[g]? with
 |none=>rfl
 |some z=>exact absurd (N1.gm g z q) (by rw [e g hg];exact fun z=>by cases z)
theorem fro_ok (G:Facts K T mg mb) (hh:A.handled=none) (h1:SGood prog w K T lo σ σ1 (.fro xs) A env sc ρ (eval e env)):IGood prog w K T lo e σ σ1 (.fix xs) A env sc ρ target:=fun F I h=>h1 F I fun rv s1 ι1 N1 r1=>rvFro r1 fun a items n z ha hhd ho hr=>by
 rw [z];refine wpAny_pyIter_list (lstObj_isList ho) ?_;exact itr_close (mk_fro (target:=target) hh) N1 (Nx.heap G.mono N1.inn (Ux.push _ _) s1.toks) (fun b hb=>by rw [Wz hb];exact Nat.le_refl _) (n0_le F N1.grow)
  ⟨_,Heap.get?_push_size _ rfl,rfl,rfl⟩ (DFro.move ⟨ha,hhd,ho,hr⟩ (Mv.of_calm fun b o items n o_ o_ o_ e=>Qg _ e)) h
theorem ref_ok (G:Facts K T mg mb) (hh:A.handled=none) {j:Nat} (hs:seqOf σ1 (.ref j)=some xs) (h1:SGood prog w K T lo σ σ1 (.ref j) A env sc ρ (eval e env)):IGood prog w K T lo e σ σ1 (.dyn j) A env sc ρ target:=fun F I h=>h1 F I fun rv s1 ι1 N1 r1=>rvRef r1 fun a z hi=>by
 rw [z];refine e33 (seqOf_at N1.inn.rel hs (.ref hi)) fun l' items n z2 ho hr=>?_;obtain rfl:=Value.ref.inj z2;exact wpAny_pyIter_list (lstObj_isList ho) (itr_close (mk_dyn (target:=target) hh) N1 (Nx.heap G.mono N1.inn (Ux.push _ _) s1.toks) (fun b hb=>by rw [Wz hb];exact Nat.le_refl _) (n0_le F N1.grow)
   ⟨_,Heap.get?_push_size _ rfl,rfl,rfl⟩ hi h)
end
theorem aug_ok {A:Around} {E:Value→Shared→Prop} {s:Shared} {op:Operator} {a b:Int} {t u:Tok} {c:V} {Q:Value→Shared→Prop} (e:augV op a b=some c) (h:∀ i tk,c=.int i→Q (.int i s.toks) { s with toks:=tk }):
  wpAny (model prog w) A (inplaceOp op (.int a t) (.int b u)) Q E s:=by
 cases op with
 |Add=>exact AutoIntOps.iadd_0 (h _ _ (Qw e).symm)
 |Sub=>exact AutoIntOps.isub_0 (h _ _ (Qw e).symm)
 |_=>exact noN e
theorem inter {env:Env} {sc:Scope} {ρ:Rho} {ι:List Addr} {h:Heap} (F:FrOk K ι h env sc ρ):interactive env=false:=by
 unfold interactive;rw [F.kind];rfl
section
variable {A:Around} {env:Env} {sc:Scope} {ρ ρ':Rho} {lo:Nat} {σ σ1 σ2 σ3 σ4 σ':St} {e o i:Expr} {p q xp:Pos} {x:Str} {a b v c:V}
theorem expr_ok (hc:isCall e=true) (h1:SGood prog w K T lo σ σ' v A env sc ρ (eval e env)):XGood prog w K T lo σ σ' .next ρ ρ A env sc (exec (.Expr e p) env):=fun F I h=>by
 refine wpAny_Expr_any (h1 F I fun rv s1 ι1 N1 r1=>h _ _ _ N1.toS (F.grow N1.grow) .next) (inter F) ?_;cases e<;>first|rfl|exact noB' hc
theorem name_ok (G:Facts K T mg mb) (hw:wellSc sc) (hc:canSet sc x=true) (hs:∀ t l env,swapsWith e t l env=pure false) (h1:SGood prog w K T lo σ σ' v A env sc ρ (eval e env)):XGood prog w K T lo σ σ' .next ρ ((x,.val v)::ρ) A env sc (exec (.Assign [.Name x xp] e p) env):=fun F I h=>
 wpAny_Assign_Name (h1 F I fun rv s1 ι1 N1 r1=>store_ok G.mono hw hc (F.grow N1.grow) N1.inn (.val r1) fun s2 N2 F2 o_ o_=>h _ _ _ (N1.toS.trans N2) F2 .next) (hs _ _ _)
theorem setsub_ok (G:Facts K T mg mb) (hs:swapsWith e (some (.Subscript o i q)) p.line env=pure false) (h1:SGood prog w K T lo σ σ1 v A env sc ρ (eval e env)) (h2:SGood prog w K T lo σ1 σ2 a A env sc ρ (eval o env)) (h3:SGood prog w K T lo σ2 σ3 b A env sc ρ (eval i env)) (h4:setItemV lo σ3 a b v=some σ'):
  XGood prog w K T lo σ σ' .next ρ ρ A env sc (exec (.Assign [.Subscript o i q] e p) env):=fun F I h=>by
 refine wpAny_Assign_Subscript (h1 F I fun rv s1 ι1 N1 r1=>h2 (F.grow N1.grow) N1.inn fun ro s2 ι2 N2 r2=>h3 ((F.grow N1.grow).grow N2.grow) N2.inn fun ri s3 ι3 N3 r3=>?_) hs;refine setItem_ok G.mono N3.inn h4 (r2.grow N3.grow) r3 ((r1.grow N2.grow).grow N3.grow) fun s4 N4=>?_;exact h _ _ _ ((N1.trans N2).trans (N3.trans N4)).toS ((((F.grow N1.grow).grow N2.grow).grow N3.grow).grow N4.grow) .next
theorem augname_ok (G:Facts K T mg mb) (hw:wellSc sc) {k m:Int} {op:Operator} (hc:canSet sc x=true) (hb:ρ.lookup x=some (.val (.int k))) (h1:SGood prog w K T lo σ σ' (.int m) A env sc ρ (eval e env)) (h2:augV op k m=some v):
  XGood prog w K T lo σ σ' .next ρ ((x,.val v)::ρ) A env sc (exec (.AugAssign (.Name x xp) op e p) env):=fun F I h=>by
 refine wpAny_AugAssign_Name (loadB F (well_ne (canSet_own hc) hw.2.1) (canSet_own hc) hb fun old rb=>h1 F I fun rv s1 ι1 N1 r1=>?_);refine rvInt rb.rv fun t z=>rvInt r1 fun u z2=>?_;rw [z,z2];refine aug_ok h2 fun k tk hk=>?_;subst hk;have N2:Nx K T lo σ' ι1 ι1 s1 { s1 with toks:=tk }:=Nx.tok N1.inn tk;exact store_ok G.mono hw hc ((F.grow N1.grow).grow N2.grow) N2.inn (.val (.int _ _)) fun s2 N3 F2 o_ o_=>h _ _ _ ((N1.trans N2).toS.trans N3) F2 .next
theorem augsub_ok (G:Facts K T mg mb) {k m:Int} {op:Operator} (h1:SGood prog w K T lo σ σ1 a A env sc ρ (eval o env)) (h2:SGood prog w K T lo σ1 σ2 b A env sc ρ (eval i env)) (h3:getLst σ2 a b=some (.int k)) (h4:SGood prog w K T lo σ2 σ3 (.int m) A env sc ρ (eval e env))
  (h5:augV op k m=some c) (h6:setItemV lo σ3 a b c=some σ') (hi:evOk i=true):XGood prog w K T lo σ σ' .next ρ ρ A env sc (exec (.AugAssign (.Subscript o i q) op e p) env):=fun F I h=>by
 refine wpAny_AugAssign_Subscript_any (h1 F I fun ro s1 ι1 N1 r1=>h2 (F.grow N1.grow) N1.inn fun ri s2 ι2 N2 r2=>?_) (ok_aug hi);refine bI h3 fun l e3a e3=>getItem_ok N2.inn.rel e3 (r1.grow N2.grow) r2 fun va tk ra=>?_;have N3:Nx K T lo σ2 ι2 ι2 s2 { s2 with toks:=tk }:=Nx.tok N2.inn tk;have F3:=((F.grow N1.grow).grow N2.grow).grow N3.grow;refine h4 F3 N3.inn fun rv s4 ι4 N4 r4=>?_;refine rvInt (ra.grow N4.grow) fun t z=>rvInt r4 fun u z2=>?_;rw [z,z2];refine aug_ok h5 fun k tk2 hk=>?_;subst hk;have N5:Nx K T lo σ3 ι4 ι4 s4 { s4 with toks:=tk2 }:=Nx.tok N4.inn tk2;refine setItem_ok G.mono N5.inn h6 ((((r1.grow N2.grow).grow N3.grow).grow N4.grow).grow N5.grow) (((r2.grow N3.grow).grow N4.grow).grow N5.grow) (.int _ _) fun s6 N6=>?_;exact h _ _ _ ((((N1.trans N2).trans N3).trans N4).trans (N5.trans N6)).toS (((F3.grow N4.grow).grow N5.grow).grow N6.grow) .next
noncomputable def Wh (tst:Rho→St→Bool→St→Prop) (body:Rho→St→Fl→Rho→St→Prop) (m:Nat):Rho→St→Fl→Rho→St→Prop:=
 Nat.rec (fun o_ o_ o_ o_ o_=>False) (fun o_ r ρ σ fl ρ' σ'=>(tst ρ σ false σ'∧fl=.next∧ρ'=ρ)∨∃ σ1 f ρ2 σ2,tst ρ σ true σ1∧body ρ σ1 f ρ2 σ2∧After (fun a fl a'=>r a.1 a.2 fl a'.1 a'.2) f (ρ2,σ2) fl (ρ',σ')) m
theorem while_ok {t:Expr} {b:List Stmt} {n:Nat} {fl:Fl} {TT:Rho→St→Bool→St→Prop} {B:Rho→St→Fl→Rho→St→Prop} (hT:∀ {ρ σ z σ'},TT ρ σ z σ'→BGood prog w K T lo σ σ' z A env sc ρ (isTrue t env (eval t env))) (hB:∀ {ρ σ fl ρ' σ'},B ρ σ fl ρ' σ'→XGood prog w K T lo σ σ' fl ρ ρ' A env sc (execs b env))
  (e:Wh TT B n ρ σ fl ρ' σ'):XGood prog w K T lo σ σ' fl ρ ρ' A env sc (exec (.While t b [] p) env):=by
 intro ι s Q E F I h;refine wpAny_While (codeAny_whileLoop (fun m s'=>∃ ρ₁ σ₁ ι',Wh TT B m ρ₁ σ₁ fl ρ' σ'∧NxS K T lo (Own env sc) σ₁ ι ι' s s'∧FrOk K ι' s'.heap env sc ρ₁) ?_ n (xi3 ρ σ ι ⟨e,(Nx.refl I).toS,F⟩));rintro m s' ⟨ρ₁,σ₁,ι',e1,N,F'⟩;cases m with
 |zero=>exact e1.elim
 |succ m=>
  rcases e1 with ⟨e2,e3,e4⟩|⟨σ2,f,ρ3,σ3,e2,hq,e3⟩
  ·refine hT e2 F' N.inn fun s2 ι2 N2=>?_;subst e3 e4;exact wpAny_execs_nil (h _ _ _ (N.trans (N2.toS (own:=Own env sc))) (F'.grow N2.grow) .next)
  ·refine hT e2 F' N.inn fun s2 ι2 N2=>?_;have NN:=N.trans (N2.toS (own:=Own env sc));refine hB hq (F'.grow N2.grow) N2.inn fun rf s3 ι3 N3 F3 R3=>?_;cases R3 with
   |next=>exact ⟨m,Nat.lt_succ_self _,ρ3,σ3,ι3,e3,NN.trans N3,F3⟩
   |cont=>exact ⟨m,Nat.lt_succ_self _,ρ3,σ3,ι3,e3,NN.trans N3,F3⟩
   |brk=>obtain ⟨rfl,q⟩:=e3;cases q;exact h _ _ _ (NN.trans N3) F3 .next
   |ret r=>obtain ⟨rfl,q⟩:=e3;cases q;exact h _ _ _ (NN.trans N3) F3 (.ret r)
end
set_option tactic.hygienic true in
theorem names_bind {lo:Nat} {env:Env} {sc:Scope} {A:Around} {E:Value→Shared→Prop} (hT:Mono K T) (hw:wellSc sc):∀ (es:List Str) (vs:List Value) (xs:List V) (ρ:Rho) (σ:St) (ι:List Addr) (s:Shared) (Q:Unit→Shared→Prop),
  es.length=xs.length→(∀ x∈es,canSet sc x=true)→FrOk K ι s.heap env sc ρ→In0 K T ι σ s→RVs K.hid ι s.heap vs xs→
  (∀ s',NxS K T lo (Own env sc) σ ι ι s s'→FrOk K ι s'.heap env sc ((es.zip (xs.map B.val)).reverse++ρ)→Q () s')→
  wpAny (model prog w) A (assignInOrder (es.map fun x=>bindName env x) vs) Q E s:=by
 intro es
 induction es with
 |nil=>
  intro vs xs ρ σ ι s Q hlen _ F I r h;cases r with
  |nil=>exact (Qf (h s (Nx.refl I).toS F):wpAny (model prog w) A (pure ()) Q E s)
  |cons=>cases hlen
 |cons x es ih=>
  intro vs xs ρ σ ι s Q hlen hc F I r h;cases r with
  |nil=>cases hlen
  |cons a b=>
   rename_i v y vs ys
   refine wpAny_assignInOrder_more (bindName_ (store_ok (lo:=lo) hT hw (hc x (Qk ..)) F I (.val a) fun s1 N1 F1 o_ c1=>?_));refine ih vs ys _ σ ι s1 Q (by simpa using hlen) (fun z hz=>hc z (Qj _ hz)) F1 N1.inn (b.calm c1) fun s2 N2 F2=>?_;refine h s2 (N1.trans N2) ?_;simpa using F2
theorem filter_all {f:Expr→Option Str}:∀ (l:List (Str×Pos)),(∀ x∈l,f (.Name x.1 x.2)=some x.1∨f (.Name x.1 x.2)=none)→((l.map fun x=>Expr.Name x.1 x.2).filterMap f).length=l.length→(l.map fun x=>Expr.Name x.1 x.2).filterMap f=l.map (·.1)
 |[],_,_=>rfl
 |x::l,hf,hl=>by
  have hle:((l.map fun x=>Expr.Name x.1 x.2).filterMap f).length≤l.length:=by
   have:=List.length_filterMap_le f (l.map fun x=>Expr.Name x.1 x.2);simpa using this
  rcases hf x (Qk ..) with h|h
  ·rw [List.map_cons,List.filterMap_cons_some h] at hl⊢;rw [filter_all l (fun y hy=>hf y (Qj _ hy)) (by simpa using hl)]
   rfl
  ·rw [List.map_cons,List.filterMap_cons_none h] at hl;simp only [List.length_cons] at hl;omega
theorem notFT {b:Bool} (h:(!b)=false):b=true:=by cases b<;>first|rfl|cases h
noncomputable def SwP (l:List (Str×Pos)) (z:Sem (Option (List Str))):Prop:=z=pure none∨(z=pure (some (l.map (·.1)))∧(l.length=2∨l.length=3)∧(l.map (·.1)).eraseDups.length=(l.map (·.1)).length)
theorem orF {a b:Bool} (h:¬(a||b)=true):a=false∧b=false:=Bool.or_eq_false_iff.mp (Bool.eq_false_iff.mpr h)
theorem swapped_is {l:List (Str×Pos)} {k} {tp:Pos} {e:Expr} {env:Env} (hok:swapOk (.Tuple (l.map fun x=>Expr.Name x.1 x.2) k tp) e=true):SwP l (swappedStores [.Tuple (l.map fun x=>Expr.Name x.1 x.2) k tp] e env):=by
 cases e with
 |Tuple vs kk pp=>
  have hok:(vs.all (foldedForSure 8)||!vs.all (constantsAlone 8))=true:=hok;refine iteL (SwP l) (fun o_=>.inl rfl) fun h1=>iteL (SwP l) (fun o_=>.inl rfl) fun o_=>iteL (SwP l) (fun o_=>.inl rfl) fun h3=>iteL (SwP l) (fun o_=>.inl rfl) fun h4=>iteL (SwP l) (fun h5=>absurd hok ?_) fun o_=>.inr ?_
  ·rw [Bool.eq_false_iff.mpr h4,h5];exact fun h=>noB' h
  ·have hn:=filter_all l (fun x o_=>iteL (fun z=>z=some x.1∨z=none) (fun o_=>.inl rfl) (fun o_=>.inr rfl)) ((bne_eq_false_iff_eq.mp (orF h3).1).trans (Qx _));refine ⟨congrArg (fun z=>pure (some z)) hn,?_,?_⟩
   ·have h:=(orF (Bool.eq_false_iff.mp (orF h1).1)).1;rw [Qx] at h;exact (Bool.or_eq_true_iff.mp (notFT h)).imp eq_of_beq eq_of_beq
   ·have h:=bne_eq_false_iff_eq.mp (orF h3).2;rw [←hn];exact h
 |_=>exact .inl rfl
theorem look_rev (z:Str):∀ (m:List (Str×B)),(m.map (·.1)).Nodup→m.reverse.lookup z=m.lookup z
 |[],_=>rfl
 |(x,b)::m,h=>by
  have h:=List.nodup_cons.mp h;rw [List.reverse_cons,List.lookup_append,look_rev z m h.2,List.lookup_cons,List.lookup_cons];cases hz:z==x with
  |false=>exact Option.or_none
  |true=>
   have hn:m.lookup z=none:=by
    rw [eq_of_beq hz];exact List.lookup_eq_none_iff.mpr fun p hp=>by
     exact bne_iff_ne.mpr fun q=>h.1 (List.mem_map.mpr ⟨p,hp,q.symm⟩)
   rw [hn];rfl
theorem nodup_dups:∀ {l:List Str},l.length=2∨l.length=3→l.eraseDups.length=l.length→l.Nodup
 |[x,y],_,h=>by
  rw [List.eraseDups_cons] at h;cases q:y==x with
  |true=>rw [List.filter_cons_of_neg (by rw [q];decide)] at h;cases h
  |false=>simp [(beq_eq_false_iff_ne.mp q).symm]
 |[x,y,u],_,h=>by
  rw [List.eraseDups_cons] at h;cases q:y==x with
  |true=>
   rw [List.filter_cons_of_neg (by rw [q];decide)] at h;cases q2:u==x with
   |true=>rw [List.filter_cons_of_neg (by rw [q2];decide)] at h;cases h
   |false=>rw [List.filter_cons_of_pos (by rw [q2];decide)] at h;cases h
  |false=>
   rw [List.filter_cons_of_pos (by rw [q];decide)] at h;cases q2:u==x with
   |true=>rw [List.filter_cons_of_neg (by rw [q2];decide)] at h;cases h
   |false=>
    rw [List.filter_cons_of_pos (by rw [q2];decide),List.filter_nil,List.eraseDups_cons] at h;cases q3:u==y with
    |true=>rw [List.filter_cons_of_neg (by rw [q3];decide)] at h;cases h
    |false=>simp [(beq_eq_false_iff_ne.mp q).symm,(beq_eq_false_iff_ne.mp q2).symm,(beq_eq_false_iff_ne.mp q3).symm]
theorem rev_sub {l:List Str} {bs:List B} (hlen:l.length=bs.length) (h23:l.length=2∨l.length=3) (hnd:l.eraseDups.length=l.length) (ρ:Rho):∀ z b,((l.zip bs).reverse++ρ).lookup z=some b→((l.reverse.zip bs.reverse).reverse++ρ).lookup z=some b:=by
 intro z b h;have hk:((l.zip bs).map (·.1)).Nodup:=by rw [List.map_fst_zip (Nat.le_of_eq hlen)];exact nodup_dups h23 hnd
 rw [show l.reverse.zip bs.reverse=(l.zip bs).reverse from (List.reverse_zipWith (f:=Prod.mk) hlen).symm,List.reverse_reverse,List.lookup_append,←look_rev z _ hk,←List.lookup_append];exact h
theorem RVs.reverse {H ι:List Addr} {h:Heap}:∀ {vs:List Value} {xs:List V},RVs H ι h vs xs→RVs H ι h vs.reverse xs.reverse
 |_,_,.nil=>.nil
 |_,_,.cons a r=>by
  rw [List.reverse_cons,List.reverse_cons];exact (RVs.reverse r).append (.cons a .nil)
set_option tactic.hygienic true in
theorem tup_ok (G:Facts K T mg mb) {sc:Scope} {lo:Nat} {es:List Expr} {k} {tp:Pos} {e:Expr} {p:Pos} {ρ ρ':Rho} {σ σ':St} {v:V} (hw:wellSc sc) {A:Around} {env:Env} (hh:A.handled=none) (hs:∀ t l,swapsWith e (some t) l env=pure false∨isLC e=true)
  (hsw:swapOk (.Tuple es k tp) e=true) (e1:SGood prog w K T lo σ σ' v A env sc ρ (eval e env)) (e2:bindT sc (.Tuple es k tp) v ρ=some ρ'):XGood prog w K T lo σ σ' .next ρ ρ' A env sc (exec (.Assign [.Tuple es k tp] e p) env):=by
 intro ι s Q E F I h;have e2':=e2;refine iBindT e2 (fun o_ o_ z=>nomatch z) fun l xs k' p' z q2 hlen hcan q3=>?_;injection z with z1 z2 z3
 subst z1 q2 q3;have hs:swapsWithSole [.Tuple (l.map fun x=>Expr.Name x.1 x.2) k tp] e p.line env=pure false:=by
  rcases hs (.Tuple (l.map fun x=>Expr.Name x.1 x.2) k tp) p.line with hn|hn
  ·exact hn
  ·cases e<;>first|rfl|exact noB' hn
 rcases swapped_is (env:=env) hsw with hsp|⟨hsp,h23,hnd⟩
 ·refine Assign_Tuple (e1 F I fun rv s1 ι1 N1 r1=>?_) hs hsp;exact assign_ok G.mono hw hh e2' (F.grow N1.grow) N1.inn r1 fun s2 N2 F2=>h _ _ _ (N1.toS.trans N2) F2 .next
 ·refine Assign_Tuple_swapped (e1 F I fun rv s1 ι1 N1 r1=>?_) hs hsp;cases r1 with
  |tup ha hhd ho hr=>
   rename_i a items m
   have hsz:=hr.size;rw [show (l.map (·.1)).length=items.size from by rw [Qx,hlen,hsz]];refine PyProof.Rows.unpackItems_tuple hh ⟨_,ho,rfl,_,rfl⟩ fun h' hx=>?_;have N2:=Nx.heap (lo:=lo) G.mono N1.inn (Ux.ext hx) s1.toks;refine names_bind (lo:=lo) G.mono hw _ _ xs.reverse _ _ ι1 _ _ (by simp [hlen]) (fun x hx=>?_) ((F.grow N1.grow).grow N2.grow) N2.inn (hr.grow N2.grow).reverse fun s3 N3 F3=>?_
   ·obtain ⟨y,hy,rfl⟩:=List.mem_map.mp (List.mem_reverse.mp hx);exact hcan y hy
   ·refine h _ _ _ ((N1.trans N2).toS.trans N3) (F3.sub ?_) .next;have:=rev_sub (l:=l.map (·.1)) (bs:=xs.map B.val) (by simp [hlen]) (by simpa using h23) hnd ρ;rw [List.map_reverse];exact this
theorem In0.hideList {ι:List Addr} {σ:St} {s:Shared} {items:Array Value} {n:Nat} (hT:Mono K T) (I:In0 K T ι σ s):In0 (K.withH (s.heap.objs.size::K.hid)) T ι σ { s with heap:=s.heap.push (lstObj items n) }:=by
 obtain hD:s.heap.get? s.heap.objs.size=none:=nil_of_size (Nat.le_refl _);obtain I2:=I.up (s':={ s with heap:=s.heap.push (lstObj items n) }) hT (Ux.push _ _) I.gens;refine ⟨I2.top,⟨I.rel.len,I.rel.nodup,I.rel.low,fun a ha=>?_,fun i o e=>?_⟩,I.gens,I2.codes⟩
 ·rcases Wy ha with z|z
  ·rw [z];exact ⟨_,Heap.get?_push_size _ rfl⟩
  ·exact I2.rel.hid a z
 ·obtain ⟨a,h1,h2⟩:=I.rel.obj i o e;exact ⟨a,h1,HRel.up (h2.hide hD) (K:=K.withH (s.heap.objs.size::K.hid)) (Up.push _ _)⟩
theorem newList_ok {lo:Nat} {ι:List Addr} {σ σ':St} {s:Shared} {items:Array Value} {n:Nat} {vs:List V} {v:V} {keep:Bool} (hT:Mono K T) (hN:K.N0≤s.heap.objs.size) (I:In0 K T ι σ s) (hr:RVs K.hid ι s.heap items.toList vs)
  (e:(if keep then (V.ref σ.length,σ++[HO.lst vs]) else (V.fro vs,σ))=(v,σ')):
  ∃ ι',Nx K T lo σ' ι ι' s { s with heap:=s.heap.push (lstObj items n) }∧RV K.hid ι' (s.heap.push (lstObj items n)) (.ref s.heap.objs.size) v:=by
 obtain hD:s.heap.get? s.heap.objs.size=none:=nil_of_size (Nat.le_refl _);obtain U:Up K.tabs s.heap (s.heap.push (lstObj items n)):=Up.push _ _;obtain hr2:RVs (s.heap.objs.size::K.hid) ι (s.heap.push (lstObj items n)) items.toList vs:=RVs.hide hD hr|>.grow (tb:=K.tabs) (U.grow ι)
 refine nb fun kk=>?_;obtain ⟨ι',N,r,_⟩:=made_ok (lo:=lo) (s:=s) (ι:=ι) hT (I.hideList (items:=items) (n:=n) hT) ⟨[],by simp,by simp⟩ (fun b o o_ e=>U.keep b o e) (fun b o e=>(U.keep b o e).isome) rfl (fun o_ o_ e=>e) (Heap.get?_push_size _ rfl) hr2 (fresh_not_mem I.rel) hN hD (fresh_not_hid I.rel) e;refine kk ?_;exact ⟨ι',N,r⟩
theorem seq_type {ι:List Addr} {σ:St} {s:Shared} (r:StRel K ι s.heap σ) {vo:Value} {o:V} (ho:RV K.hid ι s.heap vo o) (hs:(∃ l,o=.tup l)∨(∃ x,o=.str x)∨(∃ l,seqOf σ o=some l)):
  ∃ T id,s.TypeIs vo T∧typeLookup (.type T) "__getitem__"=pure (some (.builtin id)):=by
 rcases hs with ⟨l,q⟩|⟨x,q⟩|⟨l,hl⟩
 ·exact rvTup (q▸ho) fun a items n z o_ o_ ho hr=>by rw [z];exact (xi2 ("tuple") _ ⟨⟨_,ho,rfl⟩,slot_tuple_getitem.lookup⟩)
 ·exact rvStr (q▸ho) fun t z o_=>by rw [z];exact (xi2 ("str") _ ⟨typeIs_str _ _ _,F.slot_str_getitem.lookup⟩)
 ·obtain ⟨a,items,n,z,h2,h3⟩:=seqOf_at r hl ho;rw [z];exact (xi2 ("list") _ ⟨⟨_,h2,rfl⟩,slot_list_getitem.lookup⟩)
theorem item_seq {σ:St} {o i c:V} (e:getItemV σ o i=some c):(∃ l,o=.tup l)∨(∃ x,o=.str x)∨(∃ l,seqOf σ o=some l):=by
 refine bI (show (asI i).bind _=_ from e) fun k o_ e=>?_;cases o with
 |tup l=>exact .inl ⟨l,rfl⟩
 |str x=>exact .inr (.inl ⟨x,rfl⟩)
 |fro l=>exact .inr (.inr ⟨l,rfl⟩)
 |ref j=>exact bI (show (seqOf σ (.ref j)).bind _=_ from e) fun l hl o_=>.inr (.inr ⟨l,hl⟩)
 |_=>exact noN e
theorem slice_seq {σ:St} {o i j c:V} (e:sliceV σ o i j=some c):(∃ l,o=.tup l)∨(∃ x,o=.str x)∨(∃ l,seqOf σ o=some l):=by
 cases o with
 |str x=>exact .inr (.inl ⟨x,rfl⟩)
 |fro l=>exact .inr (.inr ⟨l,rfl⟩)
 |ref j=>exact bI (show (seqOf σ (.ref j)).bind _=_ from e) fun l hl o_=>.inr (.inr ⟨l,hl⟩)
 |_=>exact noN e
section
variable {A:Around} {env:Env} {sc:Scope} {ρ:Rho} {lo n:Nat} {σ σ1 σ2 σ3 σ':St} {e l r o i:Expr} {p q:Pos} {a b c v:V}
theorem bin_good (G:Facts K T mg mb) {op:Operator} (h1:SGood prog w K T lo σ σ1 a A env sc ρ (eval l env)) (h2:SGood prog w K T lo σ1 σ2 b A env sc ρ (eval r env)) (h3:binV σ2 op a b=some c):SGood prog w K T lo σ σ2 c A env sc ρ (eval (.BinOp l op r p) env):=
 fun F I h=>wpAny_BinOp (h1 F I fun ra s1 ι1 N1 r1=>h2 (F.grow N1.grow) N1.inn fun rb s2 ι2 N2 r2=>bin_ok G.mono N2.inn h3 (r1.grow N2.grow) r2 fun rv s3 N3 r3=>h _ _ _ ((N1.trans N2).trans N3) r3)
theorem if_good {t:Expr} {z:Bool} (h1:BGood prog w K T lo σ σ1 z A env sc ρ (isTrue t env (eval t env))) (h2:SGood prog w K T lo σ1 σ2 v A env sc ρ (if z then eval l env else eval r env)):SGood prog w K T lo σ σ2 v A env sc ρ (eval (.IfExp t l r p) env):=
 fun F I h=>wpAny_IfExp (h1 F I fun s1 ι1 N1=>by
  cases z with
  |true=>exact h2 (F.grow N1.grow) N1.inn fun rv s2 ι2 N2 r2=>h _ _ _ (N1.trans N2) r2
  |false=>exact h2 (F.grow N1.grow) N1.inn fun rv s2 ι2 N2 r2=>h _ _ _ (N1.trans N2) r2)
theorem cmp_good {ops:List CmpOp} {rs:List Expr} {z:Bool} (h1:SGood prog w K T lo σ σ1 a A env sc ρ (eval l env)) (h2:CGood prog w K T lo σ1 σ2 a z A env sc ρ ops rs):SGood prog w K T lo σ σ2 (.bool z) A env sc ρ (eval (.Compare l ops rs p) env):=
 fun F I h=>by
  rw [arm_eval_Compare];exact Qq (h1 F I fun ra s1 ι1 N1 r1=>(h2 (F.grow N1.grow) N1.inn r1).1 fun s2 ι2 N2=>h _ _ _ (N1.trans N2) (.bool _))
theorem list_good (G:Facts K T mg mb) {es:List Expr} {vs:List V} {keep:Bool} (hn:vs.length≤4096) (h1:LGood prog w K T lo σ σ1 vs A env sc ρ es) (h2:(if keep then (V.ref σ1.length,σ1++[HO.lst vs]) else (V.fro vs,σ1))=(v,σ')):SGood prog w K T lo σ σ' v A env sc ρ (eval (.List es p) env):=
 fun F I h=>wpAny_List_spliced (h1.run F I fun rvs s1 ι1 N1 r1=>⟨by rw [r1.length];exact Qy hn (by decide),by
  refine nb fun kk=>?_;refine e12 (newList_ok (lo:=lo) (items:=rvs.toArray) (n:=0) G.mono (n0_le F N1.grow) N1.inn (by simpa using r1) h2) fun ι2 N2 r2=>?_;refine kk ?_;exact h _ _ _ (N1.trans N2) r2⟩)
theorem tup_good (G:Facts K T mg mb) {es:List Expr} {vs:List V} {k:Nat} (hn:vs.length≤4096) (h1:LGood prog w K T lo σ σ1 vs A env sc ρ es):SGood prog w K T lo σ σ1 (.tup vs) A env sc ρ (eval (.Tuple es k p) env):=
 fun F I h=>wpAny_Tuple_spliced (h1.run F I fun rvs s1 ι1 N1 r1=>⟨by rw [r1.length];exact Qy hn (by decide),
  h _ _ _ (N1.trans (Nx.heap G.mono N1.inn (Ux.push _ _) s1.toks)) (RV.newTup (items:=rvs.toArray) (n:=0) N1.inn.rel (by simpa using r1))⟩)
theorem item_good (he:evOk i=true) (h1:SGood prog w K T lo σ σ1 a A env sc ρ (eval o env)) (h2:SGood prog w K T lo σ1 σ2 b A env sc ρ (eval i env)) (h3:getItemV σ2 a b=some v):SGood prog w K T lo σ σ2 v A env sc ρ (eval (.Subscript o i p) env):=
 fun F I h=>Subscript_ (h1 F I fun ro s1 ι1 N1 r1=>h2 (F.grow N1.grow) N1.inn fun ri s2 ι2 N2 r2=>by
  refine nb fun kk=>?_;refine e22 (seq_type N2.inn.rel (r1.grow N2.grow) (item_seq h3)) fun Ty id hT hl=>?_;refine kk ?_;exact PyProof.Rows.tail_any hT hl (getItem_ok N2.inn.rel h3 (r1.grow N2.grow) r2 fun rv tk rr=>h _ _ _ ((N1.trans N2).trans (Nx.tok N2.inn tk)) rr) (ok_slice he _ _))
theorem slice_good (G:Facts K T mg mb) {x y:Option Expr} {u t:V} (h1:SGood prog w K T lo σ σ1 a A env sc ρ (eval o env)) (h2:SGood prog w K T lo σ1 σ2 u A env sc ρ (evalPart x env)) (h3:SGood prog w K T lo σ2 σ3 t A env sc ρ (evalPart y env)) (h4:sliceV σ3 a u t=some v):
  SGood prog w K T lo σ σ3 v A env sc ρ (eval (.Subscript o (.Slice x y none q) p) env):=
 fun F I h=>by
  refine Subscript_ (h1 F I fun ro s1 ι1 N1 r1=>wpAny_Slice (h2 (F.grow N1.grow) N1.inn fun rl s2 ι2 N2 r2=>h3 ((F.grow N1.grow).grow N2.grow) N2.inn fun ru s3 ι3 N3 r3=>Qf ?_));obtain N4:Nx K T lo σ3 ι3 ι3 s3 { s3 with heap:=s3.heap.push { cls:=.type "slice",data:=.fields #[rl,ru,.none] } }:=Nx.heap G.mono N3.inn (Ux.push _ _) s3.toks;obtain ro4:=((r1.grow N2.grow).grow N3.grow).grow N4.grow;refine nb fun kk=>?_;refine e22 (seq_type N4.inn.rel ro4 (slice_seq h4)) fun Ty id hT hl=>?_;refine kk ?_;refine PyProof.Rows.tail_any hT hl ?_ rfl;refine slice_ok (lo0:=lo) G.mono N4.inn h4 ro4 ((r2.grow N3.grow).grow N4.grow) (r3.grow N4.grow) (Heap.IsSliceOf.new _ _ _ _) fun rv s5 N5 r5=>?_;exact h _ _ _ (((N1.trans N2).trans N3).trans (N4.trans N5)) r5
end
section
variable {A:Around} {E:Value→Shared→Prop} {s:Shared} {ι:List Addr} {σ:St}
theorem lst_type {a:Addr} {items:Array Value} {n:Nat} (ho:s.heap.get? a=some (lstObj items n)):s.TypeIs (.ref a) "list":=⟨_,ho,rfl⟩
theorem size_line {k:Nat} (h:k≤4096):k≤sizeLine:=Qy h (by decide)
theorem append_meth {lo i:Nat} {a:Addr} {xs:List V} {v:Value} {x:V} {Q:Value→Shared→Prop} (hT:Mono K T) (I:In0 K T ι σ s) (hi:ι[i]?=some a) (hlo:lo≤i) (hσ:σ[i]?=some (.lst xs)) (hlen:xs.length<4096) (hv:RV K.hid ι s.heap v x)
  (h:∀ s',Nx K T lo (σ.set i (.lst (xs++[x]))) ι ι s s'→Q .none s'):wpAny (model prog w) A (PySem.call (.builtin "list.append") [.ref a,v]) Q E s:=by
 refine nb fun kk=>?_;refine e22 (rel_lst I.rel hσ hi) fun items n ho hr=>?_;refine kk ?_;refine append_ok ho (size_line (by rw [hr.size];exact Wq hlen)) ?_;refine nb fun kk=>?_;refine e12 (update_lst ho (·.push v)) fun m h1 h2=>?_;refine kk ?_;refine h _ (Nx.setL hT I hi hlo hσ h2 _ h1 ?_);rw [Array.toList_push];exact hr.append (.cons hv .nil)
theorem RVs.dropLast {H ι:List Addr} {h:Heap} {vs:List Value} {xs:List V} (r:RVs H ι h vs xs):RVs H ι h vs.dropLast xs.dropLast:=by
 rw [List.dropLast_eq_take,List.dropLast_eq_take,r.length];exact r.take _
theorem erase_last (items:Array Value):(items.eraseIdxIfInBounds (items.size-1)).toList=items.toList.dropLast:=by
 rw [Array.toList_eraseIdxIfInBounds,List.eraseIdx_eq_take_drop_succ,List.drop_eq_nil_of_le (by rw [Array.length_toList];exact le_pred1 _),List.append_nil,List.dropLast_eq_take,Array.length_toList]
theorem pop_meth {lo i:Nat} {a:Addr} {xs:List V} {x:V} {Q:Value→Shared→Prop} (hT:Mono K T) (I:In0 K T ι σ s) (hi:ι[i]?=some a) (hlo:lo≤i) (hσ:σ[i]?=some (.lst xs)) (hx:xs.getLast?=some x) (hlen:xs.length≤4096)
  (h:∀ v s',Nx K T lo (σ.set i (.lst xs.dropLast)) ι ι s s'→RV K.hid ι s'.heap v x→Q v s'):wpAny (model prog w) A (PySem.call (.builtin "list.pop") [.ref a]) Q E s:=by
 refine nb fun kk=>?_;refine e22 (rel_lst I.rel hσ hi) fun items n ho hr=>?_;refine kk ?_;obtain hsz:=hr.size;rw [List.getLast?_eq_getElem?] at hx;refine nb fun kk=>?_;refine e12 (some_get hr hx) fun v e1 e2=>?_;refine kk ?_;refine call_meets F.slot_list_pop (lst_type ho) F.entry_list_pop (F.args_list_pop_1 _) (MeetsSeq.list_pop_last a items n v (by rw [hsz];exact e1) (size_line (by rw [hsz];exact hlen))) ⟨ho,?_⟩;refine nb fun kk=>?_;refine e12 (update_lst ho fun xs=>xs.eraseIdxIfInBounds (items.size-1)) fun m h1 h2=>?_;refine kk ?_;obtain N:=Nx.setL (lo:=lo) (ys:=xs.dropLast) hT I hi hlo hσ h2 s.toks h1 (by
  rw [erase_last];exact RVs.dropLast hr)
 exact h v _ N (e2.grow N.grow)
theorem insert_meth {lo i:Nat} {a:Addr} {xs:List V} {k:Int} {u:Tok} {v:Value} {x:V} {Q:Value→Shared→Prop} (hT:Mono K T) (I:In0 K T ι σ s) (hi:ι[i]?=some a) (hlo:lo≤i) (hσ:σ[i]?=some (.lst xs)) (hk:0≤k∧k≤xs.length∧xs.length<4096)
  (hv:RV K.hid ι s.heap v x) (h:∀ s',Nx K T lo (σ.set i (.lst (xs.take k.toNat++x::xs.drop k.toNat))) ι ι s s'→Q .none s'):wpAny (model prog w) A (PySem.call (.builtin "list.insert") [.ref a,.int k u,v]) Q E s:=by
 refine nb fun kk=>?_;refine e22 (rel_lst I.rel hσ hi) fun items n ho hr=>?_;refine kk ?_;obtain hsz:=hr.size;obtain hfit:Builtin.List.listFitsIndex k=true:=by
  unfold Builtin.List.listFitsIndex;simp only [Bool.and_eq_true,decide_eq_true_eq];omega
 refine call_meets F.slot_list_insert (lst_type ho) F.entry_list_insert (F.args_list_insert_3 _ _ _) (AutoListH.list_insert_list_int_val_1 a items n k u v (by simp [hfit]) (size_line (by rw [hsz];omega))) ⟨ho,?_⟩;refine nb fun kk=>?_;refine e12 (update_lst ho fun xs=>have k:=if k<0 then (k+((xs.size:Nat):Int)).toNat else min k.toNat xs.size;(xs.extract 0 k).push v++xs.extract k) fun m h1 h2=>?_;refine kk ?_;refine h _ (Nx.setL hT I hi hlo hσ h2 _ h1 ?_);dsimp only;rw [if_neg (by omega),Nat.min_eq_left (Int.toNat_le.mpr (hsz▸hk.2.1))];obtain e:((items.extract 0 k.toNat).push v++items.extract k.toNat).toList=items.toList.take k.toNat++v::items.toList.drop k.toNat:=by
  simp only [Array.toList_append,Array.toList_push,Array.toList_extract,List.extract_eq_take_drop,Nat.sub_zero,List.drop_zero,List.append_assoc,List.singleton_append];rw [List.take_of_length_le (l:=items.toList.drop k.toNat) (by simp)]
 rw [e];exact (hr.take _).append (.cons hv (hr.drop _))
theorem str_nil_right (x:PySem.Str):x++(⟨#[]⟩:PySem.Str)=x:=by
 show (⟨x.cps++#[]⟩:PySem.Str)=x;simp
theorem asc_app {x y:PySem.Str} (hx:asc x=true) (hy:asc y=true):asc (x++y)=true:=by
 show (x.cps++y.cps).toList.all (·<128)=true;rw [Array.toList_append,List.all_append,Bool.and_eq_true];exact ⟨hx,hy⟩
theorem join_cons (x:PySem.Str) (r:List PySem.Str):PySem.Str.join ⟨#[]⟩ (x::r)=x++PySem.Str.join ⟨#[]⟩ r:=by
 cases r with
 |nil=>exact (str_nil_right x).symm
 |cons y r=>
  show x++⟨#[]⟩++PySem.Str.join ⟨#[]⟩ (y::r)=_;rw [str_nil_right]
theorem join_is {H:List Addr} {h:Heap} {l:List V}:∀ {vs:List Value} {t:PySem.Str},RVs H ι h vs l→joinStr l=some t→∃ ys:List PySem.Str,StrsAre vs ys∧PySem.Str.join ⟨#[]⟩ ys=t∧(ys.map (·.length)).sum=t.length∧asc t=true:=by
 induction l with
 |nil=>intro vs t r e;rw [r.nil',←Qw e];exact ⟨[],.nil,rfl,rfl,rfl⟩
 |cons x l ih=>
  intro vs t r e;refine nb fun kk=>?_;refine e23 (r.cons') fun u us qz2 a b=>?_;obtain rfl:=qz2;refine kk ?_;cases x with
  |str x=>
   refine rvStr a fun tk z ha=>mI e fun t' e1 q=>?_;refine nb fun kk=>?_;refine e14 (ih b e1) fun ys h1 h2 h3 h4=>?_;refine kk ?_;rw [z,←q];exact ⟨_::ys,.cons _ _ h1,by rw [join_cons,h2],by rw [List.map_cons,List.sum_cons,h3,PySem.Str.length_append],asc_app ha h4⟩
  |_=>exact noN e
theorem join_meth {a:Addr} {items:Array Value} {n:Nat} {l:List V} {x t:PySem.Str} {tk:Tok} {Q:Value→Shared→Prop} (ho:s.heap.get? a=some (lstObj items n)) (hr:RVs K.hid ι s.heap items.toList l) (hx:x.cps.size=0) (e:joinStr l=some t) (hsz:t.cps.size≤4096)
  (h:∀ u k,RV K.hid ι s.heap (.str t u) (.str t)→Q (.str t u) { s with toks:=k }):wpAny (model prog w) A (PySem.call (.builtin "str.join") [.str x tk,.ref a]) Q E s:=by
 refine nb fun kk=>?_;refine e14 (join_is hr e) fun ys h1 h2 h3 h4=>?_;refine kk ?_;obtain hx':x=⟨#[]⟩:=by
  obtain ⟨c⟩:=x;exact congrArg PySem.Str.mk (Array.eq_empty_of_size_eq_zero hx)
 subst hx';refine join_list (lstObj_isList ho) h1 ?_ fun u k=>?_
 ·rw [h3];show t.cps.size+ys.length*0≤16777216;omega
 ·obtain e2:Txt.join ⟨#[]⟩ ys=t:=(StrLaws.glued_eq_join _ _).trans h2;rw [e2];exact h u k (.str u h4)
end
theorem base_plain {o:Expr} {name:Str} {apos pos:Pos} {args:List Expr} {env:Env} (h:methOk o apos pos args=true):attributeBase o name env (eval o env)=eval o env∧(apos.endLine==pos.line)=true∧args.length<30:=by
 refine ⟨?_,and_l (and_l h),of_decide_eq_true (and_r (and_l h))⟩;have h:=and_r h;cases o with
 |Call f as kw p=>
  cases f with
  |Name=>cases as with
   |nil=>cases kw with
    |nil=>exact noB' h
    |cons=>rfl
   |cons=>rfl
  |_=>rfl
 |_=>rfl
section defs
variable (prog:Program) (w:World) (C:Cfg) (K:Cst) (T:Heap→Prop)
noncomputable def SAccMeth:Prop:=∀ {sc lo o name apos args pos ρ σ σ1 σ2 vs k v σ' A env},SGood prog w K T lo σ σ1 k A env sc ρ (eval o env)→tagV σ1 k=some 2→LGood prog w K T lo σ1 σ2 vs A env sc ρ args→tagV σ2 k=some 2→methV lo σ2 k name vs=some (v,σ')→methOk o apos pos args=true→
 ∀ {n},Ok A (n+1)→SGood prog w K T lo σ σ' v A env sc ρ (eval (.Call (.Attribute o name apos) args [] pos) env)
end defs
theorem few_args {sc:Scope} {lo:Nat} {args:List Expr} {ρ:Rho} {σ σ':St} {vs:List V} {A:Around} {env:Env} {pos:Pos} (e:LGood prog w K T lo σ σ' vs A env sc ρ args) (hl:args.length<30):
  ((backTo pos (starEach args env)).all (fun x=>!x.1)&&(backToKw pos (keywordEach [] env)).all (fun x=>x.1.isSome)&&decide (args.length+([]:List Keyword).length+(if ([]:List Keyword).isEmpty then 0 else 1)<30))=true:=by
 rw [←List.not_any_eq_all_not,e.plain];have:decide (args.length+([]:List Keyword).length+(if ([]:List Keyword).isEmpty then 0 else 1)<30)=true:=by
  rw [decide_eq_true_eq];simpa using hl
 rw [this];rfl
theorem meth_road {sc:Scope} {lo:Nat} {o:Expr} {name:Str} {apos pos:Pos} {args:List Expr} {ρ:Rho} {σ σ1 σ2:St} {k:V} {vs:List V} {Ty id:String} {A:Around} {env:Env}
  (e1:SGood prog w K T lo σ σ1 k A env sc ρ (eval o env)) (e2:LGood prog w K T lo σ1 σ2 vs A env sc ρ args) (hok:methOk o apos pos args=true) {ι:List Addr} {s:Shared} {Q:Value→Shared→Prop} {E:Value→Shared→Prop}
  (F:FrOk K ι s.heap env sc ρ) (I:In0 K T ι σ s) (pa:PlainAttrs Ty) (slot:Slot Ty name id) (hty:typeOf (.builtin id)=pure (.type "method_descriptor"))
  (hT:∀ {ι1:List Addr} {s1:Shared} {rv:Value},StRel K ι1 s1.heap σ1→RV K.hid ι1 s1.heap rv k→s1.TypeIs rv Ty∧∀ a,rv=.ref a→∃ ob,s1.heap.get? a=some ob∧ob.dict=none)
  (h:∀ rv rvs s2 ι2,Nx K T lo σ2 ι ι2 s s2→RV K.hid ι2 s2.heap rv k→RVs K.hid ι2 s2.heap rvs vs→wpAny (model prog w) A (PySem.call (.builtin id) (rv::rvs)) Q E s2):wpAny (model prog w) A (eval (.Call (.Attribute o name apos) args [] pos) env) Q E s:=by
 refine nb fun kk=>?_;refine e03 (base_plain (name:=name) (env:=env) hok) fun b1 b2 b3=>?_;refine kk ?_;refine wpAny_Call_method b1 (few_args e2 b3) b2 pa slot hty (e1 F I fun rv s1 ι1 N1 r1=>⟨(hT N1.inn.rel r1).1,(hT N1.inn.rel r1).2,?_⟩);refine Calls.callWith_builtin (e2.plain _) (evalArgs_any (e2.plain _) (e2.run (F.grow N1.grow) N1.inn fun rvs s2 ι2 N2 r2=>?_));exact h rv rvs s2 ι2 (N1.trans N2) (r1.grow N2.grow) r2
theorem tag_list {ι:List Addr} {σ:St} {s:Shared} {rv:Value} {k:V} {l:List V} (hs:seqOf σ k=some l) (r:StRel K ι s.heap σ) (h:RV K.hid ι s.heap rv k):s.TypeIs rv "list"∧∀ a,rv=.ref a→∃ ob,s.heap.get? a=some ob∧ob.dict=none:=by
 refine nb fun kk=>?_;refine e33 (seqOf_at r hs h) fun p items n qz3 ho o_=>?_;obtain rfl:=qz3;refine kk ?_;exact ⟨⟨_,ho,rfl⟩,fun a z=>by rw [←Value.ref.inj z];exact ⟨_,ho,rfl⟩⟩
theorem tag_seq {σ:St} {k:V} (ht:tagV σ k=some 0):∃ l,seqOf σ k=some l:=by
 cases k with
 |fro l=>exact ⟨l,rfl⟩
 |ref i=>
  unfold tagV at ht;unfold seqOf;dsimp only at ht⊢;cases hq:σ[i]? with
  |none=>rw [hq] at ht;exact noN ht
  |some o=>cases o with
   |lst xs=>exact ⟨xs,rfl⟩
   |acc=>rw [hq] at ht;cases ht
 |_=>cases ht
noncomputable def MRun (prog:Program) (w:World) (K:Cst) (T:Heap→Prop) (lo:Nat) (σ σ':St) (k:V) (vs:List V) (v:V) (A:Around) (id:String):Prop:=
 ∀ {ι s rv rvs} {Q:Value→Shared→Prop} {E:Value→Shared→Prop},In0 K T ι σ s→RV K.hid ι s.heap rv k→RVs K.hid ι s.heap rvs vs→(∀ v' s',Nx K T lo σ' ι ι s s'→RV K.hid ι s'.heap v' v→Q v' s')→wpAny (model prog w) A (PySem.call (.builtin id) (rv::rvs)) Q E s
theorem list_road {sc:Scope} {lo:Nat} {o:Expr} {name:Str} {apos pos:Pos} {args:List Expr} {ρ:Rho} {σ σ1 σ2 σ':St} {k v:V} {vs:List V} {id:String}
  {A:Around} {env:Env} (e1:SGood prog w K T lo σ σ1 k A env sc ρ (eval o env)) (ht:tagV σ1 k=some 0) (e2:LGood prog w K T lo σ1 σ2 vs A env sc ρ args) (hok:methOk o apos pos args=true) (slot:Slot "list" name id) (hty:typeOf (.builtin id)=pure (.type "method_descriptor"))
  (m:MRun prog w K T lo σ2 σ' k vs v A id):SGood prog w K T lo σ σ' v A env sc ρ (eval (.Call (.Attribute o name apos) args [] pos) env):=by
 intro ι s Q E Fr0 I h;refine nb fun kk=>?_;refine e11 (tag_seq ht) fun l hl=>?_;refine kk ?_;exact meth_road e1 e2 hok Fr0 I F.plainAttrs_list slot hty (fun r q=>tag_list hl r q) fun rv rvs s2 ι2 N r rs=>m N.inn r rs fun v' s3 N3 r3=>h _ _ _ (N.trans N3) r3
theorem methL_run {lo i:Nat} {xs ys vs:List V} {v:V} {name:Str} {σ:St} {A:Around} (hT:Mono K T) (hlo:lo≤i) (hσ:σ[i]?=some (.lst xs)) (e:methL xs name vs=some (v,ys)) {G:Prop}
  (j:∀ id,Slot "list" name id→typeOf (.builtin id)=pure (.type "method_descriptor")→MRun prog w K T lo σ (σ.set i (.lst ys)) (.ref i) vs v A id→G):G:=by
 refine iMethL e (fun q1 q2 hl hx q3=>?_) (fun u q1 q2 hl q3 q4=>?_) fun k u q1 q2 hk q3 q4=>?_
 ·rw [q1] at j;refine j _ F.slot_list_pop F.type_list_pop fun I r rs h=>rvRef r fun a z hi=>?_;rw [q2] at rs;rw [rs.nil',z];exact pop_meth hT I hi hlo hσ hx hl (q3▸h)
 ·rw [q1] at j;refine j _ F.slot_list_append F.type_list_append fun I r rs h=>rvRef r fun a z hi=>rvs1 (q2▸rs) fun ru z2 ra=>?_;rw [z2,z];exact append_meth hT I hi hlo hσ hl ra fun s' N=>h _ _ (q4▸N) (q3▸.none)
 ·rw [q1] at j;refine j _ F.slot_list_insert F.type_list_insert fun I r rs h=>rvRef r fun a z hi=>rvs2 (q2▸rs) fun r1 r2 z2 ra rb=>rvInt ra fun t z3=>?_;rw [z2,z,z3];exact insert_meth hT I hi hlo hσ hk rb fun s' N=>h _ _ (q4▸N) (q3▸.none)
theorem meth_good (G:Facts K T mg mb) (hacc:SAccMeth prog w K T) {sc:Scope} {lo n tag:Nat} {o:Expr} {name:Str} {apos pos:Pos} {args:List Expr} {ρ:Rho} {σ σ1 σ2 σ':St} {k v:V} {vs:List V} {A:Around} {env:Env}
  (hok:methOk o apos pos args=true) (e1:SGood prog w K T lo σ σ1 k A env sc ρ (eval o env)) (et:tagV σ1 k=some tag) (e2:LGood prog w K T lo σ1 σ2 vs A env sc ρ args) (et2:tagV σ2 k=some tag) (hm:methV lo σ2 k name vs=some (v,σ')) (hA:Ok A (n+1)):
  SGood prog w K T lo σ σ' v A env sc ρ (eval (.Call (.Attribute o name apos) args [] pos) env):=by
 intro ι s Q E Fr0 I h;have zero:(∃ l,seqOf σ2 k=some l)→tag=0∧tagV σ1 k=some 0:=by
  rintro ⟨l,hl⟩;have:tag=0:=iSeq hl (fun q=>by rw [q] at et2;exact (Qw et2).symm) fun i q hs=>by
   rw [q] at et2;unfold tagV at et2;dsimp only at et2;rw [hs] at et2;exact (Qw et2).symm
  exact ⟨this,this▸et⟩
 refine iMethV hm (fun x u l t q1 q2 q3 hx el ej ht q4 q5=>?_) (fun i xs ys q hlo hs e q5=>?_) fun i k0 xs ys q hlo hs o_ o_=>?_
 ·subst q1 q5;refine meth_road e1 e2 hok Fr0 I F.plainAttrs_str F.slot_str_join F.type_str_join (fun o_ r=>?_) fun rv rvs s2 ι2 N r rs=>rvStr (q2▸r) fun tk z o_=>rvs1 (q3▸rs) fun ru z2 ra=>?_
  ·exact rvStr (q2▸r) fun t z o_=>by rw [z];exact ⟨typeIs_str _ _ _,fun a z=>nomatch z⟩
  ·obtain ⟨a,items,m,z3,ho,hr⟩:=seqOf_at N.inn.rel el ra;rw [z2,z,z3];exact join_meth ho hr hx ej ht fun u j rr=>h _ _ _ (N.trans (Nx.tok N.inn j)) (q4▸rr)
 ·subst q q5;exact methL_run G.mono hlo hs e fun id sl ty m=>list_road e1 (zero ⟨xs,by unfold seqOf;dsimp only;rw [hs]⟩).2 e2 hok sl ty m Fr0 I h
 ·have:tag=2:=by
   rw [q] at et2;unfold tagV at et2;dsimp only at et2;rw [hs] at et2;exact (Qw et2).symm
  exact hacc e1 (this▸et) e2 (this▸et2) hm hok hA Fr0 I h
section
variable {A:Around} {E:Value→Shared→Prop} {s:Shared} {ι:List Addr} {σ:St}
theorem smallN_is {n:Nat} {i:Int} (h:smallN n=some i):n≤4096∧i=n:=by
 unfold smallN at h
 split at h
 ·cases h;exact ⟨by assumption,rfl⟩
 ·cases h
set_option tactic.hygienic true in
theorem len_ok {v:Value} {x:V} {i:Int} {Q:Value→Shared→Prop} (r:StRel K ι s.heap σ) (hna:∀ j k xs,x=.ref j→σ[j]?≠some (.acc k xs)) (e:lenV σ x=some i) (hv:RV K.hid ι s.heap v x)
  (h:∀ t k,Q (.int i t) { s with toks:=k }):wpAny (model prog w) A (PySem.call (.builtin "len") [v]) Q E s:=by
 cases hv with
 |str t ht=>
  refine nb fun kk=>?_;refine e02 (smallN_is e) fun h1 qz1=>?_;obtain rfl:=qz1;refine kk ?_;exact len_str (by omega) (h _ _)
 |fro ha hh ho hr=>
  refine nb fun kk=>?_;refine e02 (smallN_is e) fun h1 qz1=>?_;obtain rfl:=qz1;refine kk ?_;obtain hsz:=hr.size;rw [←hsz] at h;exact Calls.call_len_list (lstObj_isList ho) (by rw [hsz];omega) (h _ _)
 |tup ha hh ho hr=>
  refine nb fun kk=>?_;refine e02 (smallN_is e) fun h1 qz1=>?_;obtain rfl:=qz1;refine kk ?_;obtain hsz:=hr.size;rw [←hsz] at h;exact PyProof.Rows.len_tuple ⟨_,ho,rfl,_,rfl⟩ (by rw [hsz];omega) (h _ _)
 |ref hi=>
  rename_i a j
  unfold lenV at e;dsimp only at e;cases hq:σ[j]? with
  |none=>rw [hq] at e;cases e
  |some o=>
   cases o with
   |lst xs=>
    rw [hq] at e;refine nb fun kk=>?_;refine e02 (smallN_is e) fun h1 qz1=>?_;obtain rfl:=qz1;refine e22 (rel_lst r hq hi) fun items n ho hr=>?_;refine kk ?_;obtain hsz:=hr.size;rw [←hsz] at h;exact Calls.call_len_list (lstObj_isList ho) (by rw [hsz];omega) (h _ _)
   |acc k xs=>exact absurd hq (hna j k xs rfl)
 |_=>cases e
end
theorem Ok.deeper {A:Around} {n:Nat} {env:Env} (h:Ok A (n+1)):Ok (A.deeper env) n:=by
 obtain ⟨h1,h2,h3⟩:=h;exact ⟨(Nat.add_right_comm A.depth 1 n▸h1:A.depth+1+n+40<900),Nat.lt_of_le_of_lt (show A.units+3+16*n+1000≤A.units+16*(n+1)+1000 from Nat.add_le_add_right (by rw [Nat.add_assoc];exact Nat.add_le_add_left (by rw [Nat.add_comm 3];exact Nat.add_le_add_left (by decide) (16*n)) A.units) 1000) h2,h3⟩
theorem body_call {n:Nat} (G:Facts K T mg mb) {sc:Scope} {lo:Nat} {body:List Stmt} {ρ ρ':Rho} {σ σ':St} {fl:Fl} {A:Around} (e:∀ env',∀ {env},Ok (A.deeper env') n→env.scope=sc→wellSc sc→XGood prog w K T lo σ σ' fl ρ ρ' (A.deeper env') env sc (execs body env)) (hA:Ok A (n+1))
  {a:Addr} {o:Obj} {fd:FuncData} {args:Args} {bs:List (Str×Value×B)} {ι:List Addr} {s:Shared} {Q:Value→Shared→Prop} {E:Value→Shared→Prop} (I:In0 K T ι σ s) (hN:K.N0≤s.heap.objs.size) (S:ScOk sc) (hsc:fd.scope=sc)
  (hcl:fd.closure=[]) (hfree:∀ x,(x,NameKind.free)∉sc.names) (ho:s.heap.get? a=some o) (hd:o.data=.func fd) (hb:fd.body=.stmts body) (hgl:fd.globals=mainGlobals) (hbt:fd.builtins=builtinsNs)
  (hcd:s.heap.CodeRec fd.code fd.qualname) (hlim:∀ {h:Heap},T h→h.NoLimit) (hcode:hostSc sc=true→∃ x∈K.codes,fd.code=.ref x.1) (hbind:BindsTo s fd args (bs.map fun p=>(p.1,p.2.1)))
  (hbs:∀ p∈bs,canSet sc p.1=true∧RB ι s.heap K s.heap.objs.size p.2.1 p.2.2) (hρ:(bs.map fun p=>(p.1,p.2.2)).reverse=ρ)
  (h:∀ rf s' ι',Nx K T lo σ' ι ι' s s'→RFl K.hid ι' s'.heap rf fl→Q (match rf with|.ret v=>v|_=>.none) s'):wpAny (model prog w) A (PySem.call (.ref a) args.pos args.kw) Q E s:=by
 refine wpAny_call (codeAny_call_function (Nat.lt_trans hA.room (by decide)) ho hd (by rw [hsc];exact S.co) (by rw [hsc];exact S.gen) hb hcd (hbind _ _ _ _ ?_));rw [hsc,hcl,hgl,hbt];refine newEnv_ok (lo:=lo) (ρ:=[]) G.mono hN S I (fun x c hm=>nomatch hm) (fun x y c hm=>nomatch hm) (fun x hx=>absurd hx (hfree x)) (fun x b hb=>by simp -iota at hb) hcode hbs (fun o ho=>nomatch ho) fun env s2 hl he o_ o_ o_ N2 F2 o_=>⟨hlim N2.inn.top,codeAny_func ?_⟩
 rw [List.append_nil,hρ] at F2;refine e _ hA.deeper he S.well F2 N2.inn fun rf s3 ι3 N3 F3 R3=>?_;obtain hno:∀ b o,s.heap.get? b=some o→¬Own env sc b:=by
  intro b o eb hw;obtain hlt:=Heap.lt_size eb;rcases hw with hw|⟨x,hk,hx⟩
  ·rw [hw,hl] at hlt;exact Nat.lt_irrefl _ hlt
  ·have:=F2.own x b hk hx;rw [hl] at this;exact absurd (Nat.lt_trans this hlt) (Nat.lt_irrefl _)
 exact h rf s3 ι3 ((N2.toS.trans N3).toNx hno) R3
theorem frz0_ok {H ι ι':List Addr} {h h':Heap} {rv:Value} {v v':V} (e:frz0 v=some v') (r:RV H ι h rv v):RV H ι' h' rv v':=by
 refine mI e fun d ed q=>?_;rw [←q];cases v with
 |none=>exact rvNone r fun z=>by rw [z];exact .none
 |bool b=>exact rvBool r fun z=>by rw [z];exact .bool b
 |int i=>exact rvInt r fun t z=>by rw [z];exact .int i t
 |str x=>exact rvStr r fun t z a=>by rw [z];exact .str t a
 |_=>exact noN ed
theorem mapO_rv {H ι ι':List Addr} {h h':Heap} {f:V→Option V} (one:∀ rv v v',f v=some v'→RV H ι h rv v→RV H ι' h' rv v'):∀ (l l':List V) (vs:List Value),mapO f l=some l'→RVs H ι h vs l→RVs H ι' h' vs l':=by
 intro l
 induction l with
 |nil=>intro l' vs e r;rw [r.nil',←Qw e];exact .nil
 |cons x l ih=>
  intro l' vs e r;refine e23 (r.cons') fun u us qz2 a b=>?_;obtain rfl:=qz2;exact iMapO e fun y ys e1 e2 q=>q▸.cons (one _ _ _ e1 a) (ih _ _ e2 b)
theorem frz_ok {ι ι':List Addr} {σ':St} {s s':Shared} {lo:Nat} (hlo:lo=ι.length) (I:In0 K T ι' σ' s') (pre:∃ news,ι'=ι++news∧∀ a∈news,s.heap.get? a=none) (hid:∀ a∈K.hid,∃ o,s.heap.get? a=some o):
  ∀ (n:Nat) (rv:Value) (v v':V),frz σ' lo n v=some v'→RV K.hid ι' s'.heap rv v→RV K.hid ι s'.heap rv v':=by
 refine nb fun kk=>?_;refine e12 (pre) fun news qz1 hn=>?_;obtain rfl:=qz1;refine kk ?_;have off:∀ a,a∉ι++news→a∉ι:=fun a h hm=>h (List.mem_append_left _ hm);intro n
 induction n with
 |zero=>exact fun rv v v' e r=>frz0_ok e r
 |succ n ih=>
  intro rv v v' e r;cases v with
  |tup l=>exact mI e fun l' e1 q=>rvTup r fun a items m z ha hh ho hr=>by rw [z,←q];exact .tup (off _ ha) hh ho (mapO_rv ih _ _ _ e1 hr)
  |fro l=>exact mI e fun l' e1 q=>rvFro r fun a items m z ha hh ho hr=>by rw [z,←q];exact .fro (off _ ha) hh ho (mapO_rv ih _ _ _ e1 hr)
  |ref i=>
   refine rvRef r fun a z hi=>iB e (fun hlt e=>?_) fun hge e=>bI e fun xs ex e=>mI e fun l' e1 q=>?_
   ·have hlt:=of_decide_eq_true hlt;rw [z,←Qw e];refine .ref ?_;rw [List.getElem?_append_left (by omega)] at hi;exact hi
   ·have hge:=of_decide_eq_false hge;refine e33 (seqOf_at I.rel ex r) fun p items m z2 ho hr=>?_;obtain rfl:a=p:=Value.ref.inj (z.symm.trans z2);rw [List.getElem?_append_right (by omega)] at hi;have hm:a∈news:=List.mem_of_getElem? hi;rw [z,←q];refine .fro (fun hmi=>(List.nodup_append.mp I.rel.nodup).2.2 a hmi a hm rfl) (fun hh=>?_) ho (mapO_rv ih _ _ _ e1 hr);refine e11 (hid a hh) fun o eo=>?_;rw [hn a hm] at eo;cases eo
  |none=>exact frz0_ok (v:=.none) e r
  |bool b=>exact frz0_ok (v:=.bool b) e r
  |int i=>exact frz0_ok (v:=.int i) e r
  |str x=>exact frz0_ok (v:=.str x) e r
  |fn=>exact frz0_ok (v:=.fn) e r
theorem pure_nx {lo:Nat} {ι ι':List Addr} {σ σ':St} {s s':Shared} (hT:Mono K T) (I:In0 K T ι σ s) (N:Nx K T σ.length σ' ι ι' s s'):Nx K T lo σ ι ι s s':=by
 have U:Up K.tabs s.heap s'.heap:=⟨fun b o e=>N.keep b o (by rw [←I.rel.len];simp) e⟩
 exact ⟨U.grow ι,fun b o o_ e=>U.keep b o e,⟨N.inn.top,I.rel.up U,N.inn.gens,N.inn.codes.keep ⟨rfl,rfl⟩ (fun o_ o_ o_ e=>e) fun c o vs hi o_ o_ e=>⟨fun z=>hi (N.grow.pre.elim fun news q=>q.1▸List.mem_append_left _ z),e⟩⟩,N.os,N.gm⟩
inductive RKs (K:Cst) (ι:List Addr) (h:Heap) (L:Addr):List (Str×Value)→List (Str×B)→Prop
 |nil:RKs K ι h L [] []
 |cons {k:Str} {v:Value} {b:B} {rs:List (Str×Value)} {ks:List (Str×B)}:RB ι h K L v b→RKs K ι h L rs ks→RKs K ι h L ((k,v)::rs) ((k,b)::ks)
@[reducible] noncomputable def FnAt (K:Cst) (T:Heap→Prop) (mg:Str→Option Value) (f:Str) (fn:Fn) (a:Addr) (o:Obj) (fd:FuncData):Prop:=(mg f=some (.ref a))∧((f==("__debug__":Str))=false)∧(o.data=.func fd)∧(fd.body=.stmts fn.body)∧(fd.scope=fn.scope)∧(fd.closure=[])∧(∀ x,(x,NameKind.free)∉fn.scope.names)∧(fd.globals=mainGlobals)∧(fd.builtins=builtinsNs)∧(∀ {h:Heap},T h→h.get? a=some o)∧(hostSc fn.scope=true→∃ x∈K.codes,fd.code=.ref x.1)∧(∀ {h:Heap},T h→h.CodeRec fd.code fd.qualname)∧(∀ {h:Heap},T h→h.NoLimit)∧(∀ {vs:List V} {ks:List (Str×B)} {ρ:Rho},bindV fn.params vs ks=some ρ→∀ {H ι:List Addr} {s:Shared} {rvs:List Value} {rks:List (Str×Value)},T s.heap→RVs H ι s.heap rvs vs→RKs (K.withH H) ι s.heap s.heap.objs.size rks ks→∃ bs:List (Str×Value×B),BindsTo s fd ⟨rvs,rks⟩ (bs.map fun p=>(p.1,p.2.1))∧(bs.map fun p=>(p.1,p.2.2))=ρ∧∀ p∈bs,canSet fn.scope p.1=true∧RB ι s.heap (K.withH H) s.heap.objs.size p.2.1 p.2.2)
section
variable {K:Cst} {T:Heap→Prop} {mg:Str→Option Value} {f:Str} {fn:Fn} {a:Addr} {o:Obj} {fd:FuncData} (h:FnAt K T mg f fn a o fd)
include h
theorem FnAt.glob:mg f=some (.ref a):=h.1
theorem FnAt.dbg:(f==("__debug__":Str))=false:=h.2.1
theorem FnAt.data:o.data=.func fd:=h.2.2.1
theorem FnAt.body:fd.body=.stmts fn.body:=h.2.2.2.1
theorem FnAt.scope:fd.scope=fn.scope:=h.2.2.2.2.1
theorem FnAt.closure:fd.closure=[]:=h.2.2.2.2.2.1
theorem FnAt.free:∀ x,(x,NameKind.free)∉fn.scope.names:=h.2.2.2.2.2.2.1
theorem FnAt.globals:fd.globals=mainGlobals:=h.2.2.2.2.2.2.2.1
theorem FnAt.builtins:fd.builtins=builtinsNs:=h.2.2.2.2.2.2.2.2.1
theorem FnAt.there:∀ {h:Heap},T h→h.get? a=some o:=h.2.2.2.2.2.2.2.2.2.1
theorem FnAt.host:hostSc fn.scope=true→∃ x∈K.codes,fd.code=.ref x.1:=h.2.2.2.2.2.2.2.2.2.2.1
theorem FnAt.code:∀ {h:Heap},T h→h.CodeRec fd.code fd.qualname:=h.2.2.2.2.2.2.2.2.2.2.2.1
theorem FnAt.lim:∀ {h:Heap},T h→h.NoLimit:=h.2.2.2.2.2.2.2.2.2.2.2.2.1
theorem FnAt.binds:∀ {vs:List V} {ks:List (Str×B)} {ρ:Rho},bindV fn.params vs ks=some ρ→∀ {H ι:List Addr} {s:Shared} {rvs:List Value} {rks:List (Str×Value)},T s.heap→RVs H ι s.heap rvs vs→RKs (K.withH H) ι s.heap s.heap.objs.size rks ks→∃ bs:List (Str×Value×B),BindsTo s fd ⟨rvs,rks⟩ (bs.map fun p=>(p.1,p.2.1))∧(bs.map fun p=>(p.1,p.2.2))=ρ∧∀ p∈bs,canSet fn.scope p.1=true∧RB ι s.heap (K.withH H) s.heap.objs.size p.2.1 p.2.2:=h.2.2.2.2.2.2.2.2.2.2.2.2.2
end
section defs
variable (prog:Program) (w:World) (C:Cfg) (K:Cst) (T:Heap→Prop)
noncomputable def FGood (lo:Nat) (σ:St) (vs:List V) (ks:List (Str×B)) (v:V) (σ':St) (A:Around) (a:Addr):Prop:=∀ {ι:List Addr} {s:Shared} {rvs:List Value} {rks:List (Str×Value)} {Q:Value→Shared→Prop} {E:Value→Shared→Prop},
 In0 K T ι σ s→K.N0≤s.heap.objs.size→RVs K.hid ι s.heap rvs vs→RKs K ι s.heap s.heap.objs.size rks ks→VCont K T lo σ' v ι s Q→wpAny (model prog w) A (PySem.call (.ref a) rvs rks) Q E s
end defs
theorem flV_rv {H ι:List Addr} {h:Heap} {rf:Flow} {fl:Fl} {v:V} (r:RFl H ι h rf fl) (e:flV fl=some v):RV H ι h (match (generalizing:=false) rf with|.ret v=>v|_=>.none) v:=by
 cases r with
 |next=>cases e;exact .none
 |ret r=>cases e;exact r
 |_=>cases e
section
variable {lo n:Nat} {σ σ1:St} {f:Str} {fn:Fn} {vs:List V} {ks:List (Str×B)} {u v:V} {A:Around} {a:Addr} {o:Obj} {fd:FuncData} {ρ ρ':Rho} {fl:Fl}
theorem fn_run (G:Facts K T mg mb) (D:FnAt K T mg f fn a o fd) (hok:okSc fn.scope=true) (hb:bindV fn.params vs ks=some ρ) (e:∀ env',∀ {env},Ok (A.deeper env') n→env.scope=fn.scope→wellSc fn.scope→XGood prog w K T lo σ σ1 fl ρ.reverse ρ' (A.deeper env') env fn.scope (execs fn.body env)) (hA:Ok A (n+1))
  {ι:List Addr} {s:Shared} {rvs:List Value} {rks:List (Str×Value)} {Q:Value→Shared→Prop} {E:Value→Shared→Prop} (I:In0 K T ι σ s) (hN:K.N0≤s.heap.objs.size) (hv:RVs K.hid ι s.heap rvs vs) (hk:RKs K ι s.heap s.heap.objs.size rks ks)
  (h1:∀ rf s' ι',Nx K T lo σ1 ι ι' s s'→RFl K.hid ι' s'.heap rf fl→Q (match rf with|.ret v=>v|_=>.none) s'):wpAny (model prog w) A (PySem.call (.ref a) rvs rks) Q E s:=by
 refine nb fun kk=>?_;refine e13 (D.binds hb (H:=K.hid) I.top hv hk) fun bs b1 b2 b3=>?_;refine kk ?_;exact body_call (args:=⟨rvs,rks⟩) G e hA I hN (okSc_iff hok) D.scope D.closure D.free (D.there I.top) D.data D.body D.globals D.builtins (D.code I.top) D.lim D.host b1 b3 (by rw [b2]) h1
theorem fn_imp (G:Facts K T mg mb) (D:FnAt K T mg f fn a o fd) (hok:okSc fn.scope=true) (hb:bindV fn.params vs ks=some ρ) (e:∀ env',∀ {env},Ok (A.deeper env') n→env.scope=fn.scope→wellSc fn.scope→XGood prog w K T lo σ σ1 fl ρ.reverse ρ' (A.deeper env') env fn.scope (execs fn.body env)) (hA:Ok A (n+1))
  (hf:flV fl=some v):FGood prog w K T lo σ vs ks v σ1 A a:=fun I hN hv hk h=>fn_run G D hok hb e hA I hN hv hk fun rf s1 ι1 N1 R1=>h _ _ _ N1 (flV_rv R1 hf)
theorem fn_pure (G:Facts K T mg mb) (D:FnAt K T mg f fn a o fd) (hok:okSc fn.scope=true) (hb:bindV fn.params vs ks=some ρ) (e:∀ env',∀ {env},Ok (A.deeper env') n→env.scope=fn.scope→wellSc fn.scope→XGood prog w K T σ.length σ σ1 fl ρ.reverse ρ' (A.deeper env') env fn.scope (execs fn.body env)) (hA:Ok A (n+1))
  (hf:flV fl=some u) (hz:frz σ1 σ.length 16 u=some v):FGood prog w K T lo σ vs ks v σ A a:=fun I hN hv hk h=>fn_run G D hok hb e hA I hN hv hk fun rf s1 ι1 N1 R1=>
 h _ _ _ (pure_nx G.mono I N1) (frz_ok I.rel.len.symm N1.inn N1.grow.pre I.rel.hid _ _ _ _ hz (flV_rv R1 hf))
end
section
variable {M:Model} {A:Around} {E:Value→Shared→Prop} {s:Shared} {name qual:Str} {params:Arguments} {body:Expr} {scope:Scope} {env:Env} {c P:Addr} {ps:Array Value} {pos:Pos} {firstLine:Nat} {mg:Str→Option Value}
 {clos:List (Str×Addr)} {Q:Value→Shared→Prop}
theorem fresh_fn (hcl:closureFor scope env=pure clos) (hge0:env.globals=mainGlobals) (hg:s.heap.Ns mainGlobals mg) (hcode:env.code=.ref c) (hC:CodeHd s.heap c P) (hP:s.heap.get? P=some (tabObj ps)) (ht:TriplesOk ps.toList)
  (hnf:codeAmong pos ps.toList=none) (hgP:mainGlobals≠P) (hb:s.heap.BuiltinsAt mg P)
  (h:∀ c' oc ctv h' tk,Heap.ExtBut P s.heap h'→s.heap.objs.size≤c'→c'<h'.objs.size→h'.CodeRec (.ref c') qual→h'.get? c'=some oc→oc.cls=.type "code"→h'.get? P=some (tabObj (ps++#[rawInt pos.line,rawInt pos.col,.ref c']))→
   Q (.ref h'.objs.size) { s with heap:=h'.push (kla_obj name qual params body scope clos ((mg "__name__").getD .none) c' ctv),toks:=tk }):
  wpAny M A (makeFunction name qual params (.expr body) scope env [] [] [] pos firstLine) Q E s:=by
 refine nb fun kk=>?_;obtain ⟨bm,ob,hbm,hne0,_,hneP,hbo,hcls,hdict,hdata⟩:=hb;refine kk ?_;rw [makeFunction_eq];simp only [List.zip_nil_right,List.filterMap_nil,List.isEmpty_nil,if_true,pure_bind];unfold makeTail;rw [hcl,hge0];refine Qq (Qf ?_);have rest:∀ (ctv:Value) (h0:Heap),(∀ b o,s.heap.get? b=some o→h0.get? b=some o)→s.heap.objs.size≤h0.objs.size→
   wpAny M A (functionCode env pos firstLine name qual params scope (.expr body)) (fun cd s1=>wpAny M A (builtinsFor mainGlobals env.builtins) (fun bi s2=>wpAny M A (nsGet mainGlobals "__name__") (fun pm s3=>
    wpAny M A (newObj (.type "function") (.func { name,qualname:=qual,params,body:=.expr body,scope,globals:=mainGlobals,closure:=clos,closureTuple:=ctv,code:=cd,builtins:=bi,defaults:=.none,kwdefaults:=.none,annotations:=none,pyModule:=pm.getD .none,doc:=.none })) Q E s3) E s2) E s1) E { s with heap:=h0 }:=by
  intro ctv h0 hk hsz;have hC0:CodeHd h0 c P:=hC.keeps hk;refine wpAny_functionCodeX hcode (hC0.code (hk _ _ hP) ht) (hC0.tab (hk _ _ hP)) hnf fun c' h' tk hx hge hlt o_ hrec htb hnew=>?_;have hx':Heap.ExtBut P s.heap h':=fun b o hb' e=>hx b o hb' (hk b o e);have hg':h'.Ns mainGlobals mg:=(hg.keeps hk).extBut hx hgP;refine wpAny_builtinsFor hg' hbm hne0 (hx' _ _ hneP hbo) hcls hdict hdata (wpAny_nsGet hg' ?_);refine e13 (hnew) fun P' o_ o_ qz=>?_;obtain ⟨⟨oc,vs,e1,e2,_⟩,_⟩:=qz;exact wpAny_newObj_type (h c' oc ctv h' tk hx' (Qy hsz hge) hlt hrec e1 e2 htb.2) (by size_fits)
 cases clos with
 |nil=>
  simp only [List.isEmpty_nil,if_true];refine Qq (Qf (Qq (Wj (rest .none s.heap (fun o_ o_ e=>e) (Nat.le_refl _)) (fun cd s1 h1=>Qq (Wj h1 (fun bi s2 h2=>Qq (Wj h2 (fun pm s3 h3=>Qq (Qf h3)) fun o_ o_ x=>x)) fun o_ o_ x=>x)) fun o_ o_ x=>x)))
 |cons q r=>
  simp only [List.isEmpty_cons,Bool.false_eq_true,if_false];refine Qq (wpAny_newTextTuple (Qq (Wj (rest _ _ (fun b o e=>Qg _ e) (by rw [Heap.size_push];exact Nat.le_succ _)) (fun cd s1 h1=>Qq (Wj h1 (fun bi s2 h2=>Qq (Wj h2 (fun pm s3 h3=>Qq (Qf h3)) fun o_ o_ x=>x)) fun o_ o_ x=>x)) fun o_ o_ x=>x)))
end
set_option tactic.hygienic true in
theorem among_snoc {pos pos':Pos} {c cv:Value}:∀ (l:List Value),TriplesOk l→codeAmong pos' (l++[rawInt pos.line,rawInt pos.col,c])=some cv→codeAmong pos' l=some cv∨cv=c:=by
 intro l ht
 fun_induction TriplesOk l with
 |case1=>
  intro h;simp only [List.nil_append,codeAmong,rawInt] at h
  split at h
  ·cases h;exact .inr rfl
  ·cases h
 |case2 a ta b tb d rest ih=>
  intro h;simp only [List.cons_append,codeAmong] at h⊢
  split
  ·rename_i hq
   rw [if_pos hq] at h;exact .inl h
  ·rename_i hq
   rw [if_neg hq] at h;exact ih ht h
 |case3=>exact absurd ht id
set_option tactic.hygienic true in
theorem caps_at {ρ:Rho}:∀ {l:List (Str×NameKind)} {caps:List (Str×V)},capsOf ρ l=some caps→∀ {y:Str} {v:V},caps.lookup y=some v→(∃ k,(y,k)∈l)∧ρ.lookup y=some (.val v)
 |[],caps,e,y,v,h=>by cases e;simp -iota at h
 |x::r,caps,e,y,v,h=>by
  refine bI e fun b e1 e=>bI e fun u e3 e=>mI e fun l e2 e=>?_
  ·cases e;have e1:ρ.lookup x.1=some (.val u):=by
    rw [e1];cases b with
    |val z=>exact congrArg (fun z=>some (B.val z)) (Qw e3)
    |_=>cases e3
   rw [List.lookup_cons] at h;cases q:y==x.1 with
   |true=>
    rw [q] at h;cases h;rw [eq_of_beq q];exact ⟨⟨x.2,Qk ..⟩,e1⟩
   |false=>
    rw [q] at h;refine nb fun kk=>?_;refine e02 (caps_at e2 h) fun qz0 h2=>?_;obtain ⟨k,hk⟩:=qz0;refine kk ?_;exact ⟨⟨k,Qj _ hk⟩,h2⟩
theorem lam_rb {ι:List Addr} {σ:St} {s:Shared} {env:Env} {sc sl:Scope} {ρ:Rho} {a:Arg} {body:Expr} {caps:List (Str×V)} {clos:List (Str×Addr)} {h2:Heap} {f c':Addr} {name qual q:Str} {pm ctv:Value} {oc:Obj}
  (F:FrOk K ι s.heap env sc ρ) (I:In0 K T ι σ s) (hs:okSc sl=true) (hf:okFree sc sl=true) (ec:capsOf ρ (sl.names.filter (·.2==.free))=some caps) (U:Up K.tabs s.heap h2)
  (hcl1:∀ x c,(x,c)∈clos→env.cells.lookup x=some c∧(x,.free)∈sl.names) (hcl2:∀ x,(x,.free)∈sl.names→∃ c,(x,c)∈clos)
  (hfi:f∉ι) (ho:h2.get? f=some (kla_obj name qual ⟨[],[a],none,[],[],none,[]⟩ body sl clos pm c' ctv)) (hci:c'∉ι) (hrec:h2.CodeRec (.ref c') q) (hoc:h2.get? c'=some oc) (hcls:oc.cls=.type "code"):
  RB ι h2 K h2.objs.size (.ref f) (.lam a.arg body sl caps):=by
 have S:=okSc_iff hs;have F2:=F.grow (U.grow ι);have hL:env.locals≤h2.objs.size:=by
  refine e12 (F2.ns) fun m hm o_=>?_;refine e12 (Heap.Ns.get hm) fun o ho o_=>?_;exact Wq (Heap.lt_size ho)
 refine .lam hfi ho rfl ⟨rfl,rfl,rfl,rfl,rfl,rfl,rfl,rfl,rfl,rfl,fun y c hm=>(hcl1 y c hm).2,fun y z c hy hz=>F.apart y z c (hcl1 y c hy).1 (hcl1 z c hz).1,hcl2⟩ ⟨c',q,rfl,hci,hrec,oc,hoc,hcls⟩ (fun y v e=>?_) fun y c hm=>?_
 ·obtain ⟨⟨k,hk⟩,e2⟩:=caps_at ec e;rw [List.mem_filter] at hk;have hkf:k=.free:=by simpa using hk.2
  subst hkf;refine ⟨nodupN_lookup S.nodup hk.1,fun c hm=>?_⟩;have:=List.all_eq_true.mp (okFree_all hf) _ hk.1;have hk2:kindIn sc y=some .cell∨kindIn sc y=some .free:=by simpa using this
  refine nb fun kk=>?_;refine e23 (F2.cell y _ hk2 e2) fun c1 v1 q1 q2 q3=>?_;refine kk ?_;obtain rfl:c1=c:=Qw (q1.symm.trans (hcl1 y c hm).1);exact ⟨v1,q2,q3.rv⟩
 ·obtain ⟨q1,q2,v,q3⟩:=F2.offC y c (hcl1 y c hm).1;refine nb fun kk=>?_;obtain ⟨o,e,_⟩:=q3;refine kk ?_;exact ⟨q1,Heap.lt_size e,q2,v,o,e,by assumption⟩
theorem lam_make {A:Around} {lo:Nat} {ι:List Addr} {σ:St} {s:Shared} {env:Env} {sc sl:Scope} {ρ:Rho} {a:Arg} {body:Expr} {caps:List (Str×V)} {pos:Pos} {Q:Value→Shared→Prop} {E:Value→Shared→Prop}
  (G:Facts K T mg mb) (F:FrOk K ι s.heap env sc ρ) (I:In0 K T ι σ s) (hh:hostSc sc=true) (hs:okSc sl=true) (hf:okFree sc sl=true) (ec:capsOf ρ (sl.names.filter (·.2==.free))=some caps)
  (h:∀ rv s',Nx K T lo σ ι ι s s'→RB ι s'.heap K s'.heap.objs.size rv (.lam a.arg body sl caps)→Q rv s'):wpAny (model prog w) A (eval (.Lambda ⟨[],[a],none,[],[],none,[]⟩ body sl pos) env) Q E s:=by
 refine nb fun kk=>?_;refine e13 (closure_ok F hf) fun cl hcl hcl1 hcl2=>?_;refine e12 (F.code hh) fun x hx hcode=>?_;refine e02 (G.codes I.top x hx) fun hC hP=>?_;refine e02 (I.codes x.2 hP) fun hPN qz=>?_;obtain ⟨ps,hps,htr,ham⟩:=qz;refine e02 (G.bmod I.top x.2 hP) fun hb hgP=>?_;refine kk ?_;refine kla_eval rfl ?_;have newi:∀ b:Addr,s.heap.objs.size≤b→b∉ι:=fun b hb hm=>absurd (lt_of_mem I.rel hm) (Ww hb);cases hq:codeAmong pos ps.toList with
 |some cv=>
  refine nb fun kk=>?_;obtain ⟨c',q,oc,rfl,hci,hrec,hoc,hcls⟩:=ham _ _ hq;refine kk ?_;refine kla_makeFunctionHit hcl F.glob (G.glob I.top) hcode hC hps htr hq hb fun ctv h' tk hk hsz=>?_;have U:∀ fo:Obj,Ux s.heap (h'.push fo):=fun fo=>⟨fun b o e=>Qg _ (hk b o e)⟩
  exact h _ _ (Nx.heap G.mono I (U _) tk) (lam_rb (q:=q) (c':=c') F I hs hf ec (U _).up hcl1 hcl2 (newi _ hsz) (Heap.get?_push_size _ rfl) hci (hrec.keeps (U _).keep) ((U _).keep _ _ hoc) hcls)
 |none=>
  refine fresh_fn hcl F.glob (G.glob I.top) hcode hC hps htr hq hgP hb fun c' oc ctv h' tk hx' hge hlt hrec hoc hcls hP'=>?_;have keep:∀ (fo:Obj) b o,b≠x.2→s.heap.get? b=some o→(h'.push fo).get? b=some o:=fun fo b o hb e=>Qg _ (hx' b o hb e);have U:∀ fo:Obj,Up K.tabs s.heap (h'.push fo):=fun fo=>⟨fun b o e=>by
   by_cases hb:b=x.2
   ·subst hb;obtain rfl:o=tabObj ps:=Qw (e.symm.trans hps);exact .inr ⟨hP,ps,_,rfl,Qg _ hP'⟩
   ·exact .inl (keep fo b o hb e)⟩
  have hsz:s.heap.objs.size≤h'.objs.size:=Qy hge (Wq hlt);have hin:∀ fo:Obj,In0 K T ι σ { s with heap:=h'.push fo,toks:=tk }:=fun fo=>by
   refine ⟨G.mono I.top fun b o o_ e=>(U fo).keep b o e,I.rel.up (U fo),I.gens,fun P2 hP2=>?_⟩;refine e02 (I.codes P2 hP2) fun z1 qz=>?_;obtain ⟨ps2,z2,z3,z4⟩:=qz;have pers:∀ cv,CodeIn ι s.heap cv→CodeIn ι (h'.push fo) cv:=fun cv z=>z.keep fun c o vs hi hc hd e=>⟨hi,keep fo c o (fun y=>by
    rw [y,hps] at e;cases e;cases hc) e⟩
   refine ⟨z1,?_⟩
   by_cases hb:P2=x.2
   ·subst hb;obtain rfl:ps2=ps:=by
     have:=Qw (z2.symm.trans hps);have:=congrArg Obj.data this;simpa [tabObj] using this
    have hl:(ps2++#[rawInt pos.line,rawInt pos.col,Value.ref c']).toList=ps2.toList++[rawInt pos.line,rawInt pos.col,.ref c']:=by simp
    refine ⟨_,Qg _ hP',by rw [hl];exact TriplesOk_snoc _ _ _ _ htr,fun pos' cv e=>?_⟩;rw [hl] at e;rcases among_snoc _ htr e with e|rfl
    ·exact pers _ (z4 _ _ e)
    ·exact ⟨c',_,oc,rfl,newi _ hge,hrec.push _,Qg _ hoc,hcls⟩
   ·exact ⟨ps2,keep fo P2 _ hb z2,z3,fun pos' cv e=>pers _ (z4 _ _ e)⟩
  refine h _ _ ⟨(U _).grow ι,fun b o o_ e=>(U _).keep b o e,hin _,rfl,fun o_ o_ e=>e⟩ (lam_rb F I hs hf ec (U _) hcl1 hcl2 (newi _ hsz) (Heap.get?_push_size _ rfl) (newi _ hge) (hrec.push _) (Qg _ hoc) hcls)
end
section
theorem zip_pickA {α:Type}:∀ (names:List Str) (vs:List α) (pre:List (Str×α)),names.length=vs.length→names.Nodup→(∀ x∈names,pre.lookup x=none)→(names.filter fun n=>((pre++names.zip vs).lookup n).isNone)=[]∧(names.filterMap fun n=>((pre++names.zip vs).lookup n).map (n,·))=names.zip vs
 |[],_,_,_,_,_=>⟨rfl,rfl⟩
 |y::names,[],_,h,_,_=>nomatch h
 |y::names,v::vs,pre,h,hn,hp=>by
  obtain hy:(pre++(y,v)::names.zip vs).lookup y=some v:=by
   rw [List.lookup_append,hp y (Qk ..),List.lookup_cons_self];rfl
  obtain q:=zip_pickA names vs (pre++[(y,v)]) (Nat.succ.inj h) (List.nodup_cons.mp hn).2 fun x hx=>by
   obtain hne:(x==y)=false:=beq_false_of_ne fun z=>(List.nodup_cons.mp hn).1 (z▸hx);rw [List.lookup_append,hp x (Qj _ hx),List.lookup_cons,hne];rfl
  rw [List.append_assoc] at q;exact ⟨(List.filter_cons_of_neg (by rw [List.zip_cons_cons,hy];exact Bool.noConfusion)).trans q.1,by rw [List.zip_cons_cons,List.filterMap_cons,hy];exact congrArg (_::·) q.2⟩
theorem bind_plain {fd:FuncData} {names:List Str} {vs:List Value} (h1:fd.params.args.map (·.arg)=names) (h2:fd.params.posonlyargs=[]) (h3:fd.params.vararg=none) (h4:fd.params.kwonlyargs=[]) (h5:fd.params.kwarg=none) (h6:fd.defaults=.none)
  (hl:names.length=vs.length) (hn:names.Nodup):bindArgs fd ⟨vs,[]⟩=pure (names.zip vs):=by
 obtain ⟨_,_,⟨_,args,_,_,_,_,_⟩,_,_,_,_,_,_⟩:=fd;cases h2;cases h3;cases h4;cases h5;cases h6;obtain h1:args.map (·.arg)=names:=h1;refine nb fun kk=>?_;refine e02 (zip_pickA names vs [] hl hn fun o_ o_=>rfl) fun q1 q2=>?_;refine kk ?_;obtain key:∀ {e1 e2:Sem (List (Str×Value))} {f:Str×Value→List (Str×Value)→Sem (ForInStep (List (Str×Value)))} {k:List (Str×Value)→Sem (List (Str×Value))},k (names.zip vs)=pure (names.zip vs)→(if (decide (vs.length>(args.map Arg.arg).length)&&true)=true then e1 else
   if (!(((args.map Arg.arg).take ((args.map Arg.arg).length-(([]:List Value).drop (0-(args.map Arg.arg).length)).length)).filter fun n=>(((args.map Arg.arg).zip vs).lookup n).isNone).isEmpty)=true then e2 else forIn (((args.map Arg.arg).drop ((args.map Arg.arg).length-(([]:List Value).drop (0-(args.map Arg.arg).length)).length)).zip (([]:List Value).drop (0-(args.map Arg.arg).length))) ((args.map Arg.arg).zip vs) f >>=k)=pure (names.zip vs):=by
  intro e1 e2 f k hk;rw [show args.map Arg.arg=names from h1,List.drop_nil,List.length_nil,Nat.sub_zero,List.take_length,if_neg (by rw [hl,decide_eq_false (Nat.lt_irrefl _)];exact Bool.noConfusion),show (names.filter fun n=>((names.zip vs).lookup n).isNone)=[] from q1,if_neg Bool.noConfusion,List.zip_nil_right];exact hk
 refine key ?_;dsimp only;refine congrArg (pure:_→Sem _) ((congrArg (List.filterMap fun n=>((names.zip vs).lookup n).map (n,·)) ((List.append_nil _).trans h1)).trans q2)
end
section
variable {prog:Program} {w:World} {C:Cfg} {K:Cst} {T:Heap→Prop} {mg mb:Str→Option Value}
theorem kw_ok (G:Facts K T mg mb) {sc:Scope} {lo:Nat} {kw:List Keyword} {ρ:Rho} {σ:St} {ks:List (Str×B)} (e:kwV sc ρ kw=some ks) {A:Around} {env:Env} {pos:Pos} {ι:List Addr} {s:Shared} {Q:List Value→Shared→Prop} {E:Value→Shared→Prop}
  (hw:wellSc sc) (F:FrOk K ι s.heap env sc ρ) (I:In0 K T ι σ s) (h:∀ rvs s',Nx K T lo σ ι ι s s'→RKs K ι s'.heap s'.heap.objs.size (((backToKw pos (keywordEach kw env)).filterMap (·.1)).zip rvs) ks→Q rvs s'):
  wpAny (model prog w) A (evalAll ((backToKw pos (keywordEach kw env)).map (·.2))) Q E s:=by
 refine iKw e (fun q1 q2=>?_) (fun k a body sl p1 p2 caps q1 g1 g2 g3 ec q2=>?_) fun k x p1 p2 b q1 hk eb q2=>?_
 ·subst q1 q2;exact Qf (h _ _ (Nx.refl I) .nil)
 ·subst q1 q2;refine wpAny_evalAll_cons (Qq (lam_make (lo:=lo) G F I g1 g2 g3 ec fun rv s1 N1 r1=>?_));exact Qq (wpAny_standAt (Qf (wpAny_evalAll_nil (h _ _ N1 (.cons r1 .nil)))))
 ·subst q1 q2;refine wpAny_evalAll_cons (Qq (wpAny_Name (loadB F (well_ne hk hw.2.1) hk eb fun rv r=>?_) (well_ne hk hw.1)));refine Qq (wpAny_standAt (Qf (wpAny_evalAll_nil (h _ _ (Nx.refl I) (.cons (r.mono ?_) .nil)))));refine e12 (F.ns) fun m hm o_=>?_;refine e12 (Heap.Ns.get hm) fun o ho o_=>?_;exact Wq (Heap.lt_size ho)
theorem kw_named {sc:Scope} {kw:List Keyword} {ρ:Rho} {ks:List (Str×B)} {env:Env} {pos:Pos} (e:kwV sc ρ kw=some ks):(backToKw pos (keywordEach kw env)).all (·.1.isSome)=true:=
 iKw e (fun q o_=>by rw [q];rfl) (fun k a body sl p1 p2 caps q o_ o_ o_ o_ o_=>by rw [q];rfl) fun k x p1 p2 b q o_ o_ o_=>by rw [q];rfl
theorem args_road (G:Facts K T mg mb) {sc:Scope} {lo:Nat} {args:List Expr} {kw:List Keyword} {ρ:Rho} {σ σ1:St} {vs:List V} {ks:List (Str×B)} {A:Around} {env:Env}
  (e1:LGood prog w K T lo σ σ1 vs A env sc ρ args) (e2:kwV sc ρ kw=some ks) {pos:Pos} {ι:List Addr} {s:Shared} {fv:Value} {Q:Args→Shared→Prop} {E:Value→Shared→Prop} (hw:wellSc sc)
  (F:FrOk K ι s.heap env sc ρ) (I:In0 K T ι σ s) (h:∀ rvs rks s' ι',Nx K T lo σ1 ι ι' s s'→RVs K.hid ι' s'.heap rvs vs→RKs K ι' s'.heap s'.heap.objs.size rks ks→Q ⟨rvs,rks⟩ s'):
  wpAny (model prog w) A (evalArgs fv true (backTo pos (starEach args env)) (backToKw pos (keywordEach kw env))) Q E s:=by
 have hall:=kw_named (env:=env) (pos:=pos) e2;have key:=e1.run (pos:=pos) (E:=E) (Q:=fun vs s1=>wpAny (model prog w) A (evalAll ((backToKw pos (keywordEach kw env)).map (·.2))) (fun kvs s2=>Q ⟨vs,((backToKw pos (keywordEach kw env)).filterMap (·.1)).zip kvs⟩ s2) E s1) F I fun rvs s1 ι1 N1 r1=>
  kw_ok G e2 hw (F.grow N1.grow) N1.inn fun kvs s2 N2 r2=>h _ _ _ _ (N1.trans N2) (r1.grow N2.grow) r2
 cases args with
 |nil=>
  refine nb fun kk=>?_;refine e02 (e1.nil rfl) fun qz0 qz1=>?_;obtain rfl:=qz0;obtain rfl:=qz1;refine kk ?_;exact evalArgs_kw_nil hall (kw_ok G e2 hw F I fun kvs s2 N2 r2=>h _ _ _ _ N2 .nil r2)
 |cons x r=>
  have hx:(backTo pos (starEach (x::r) env))=(false,eval x env)::backTo pos (starEach r env):=by rw [e1.hd x r rfl];rfl
  rw [hx] at key⊢;exact evalArgs_kw hall key
theorem fn_name (G:Facts K T mg mb) {f:Str} {p pos:Pos} {args:List Expr} {kw:List Keyword} {sc:Scope} {lo:Nat} {ρ:Rho} {σ σ1 σ':St} {vs:List V} {ks:List (Str×B)} {v:V} {A:Around} {env:Env}
  {fn:Fn} {a:Addr} {o:Obj} {fd:FuncData} (D:FnAt K T mg f fn a o fd) (hk:kindIn sc f=some .globalImplicit) (e1:LGood prog w K T lo σ σ1 vs A env sc ρ args) (e2:kwV sc ρ kw=some ks) (e3:FGood prog w K T lo σ1 vs ks v σ' A a):
  SGood prog w K T lo σ σ' v A env sc ρ (eval (.Call (.Name f p) args kw pos) env):=by
 intro ι s Q E F I h;refine wpAny_Call_Name_kw (glob_own G F I hk D.glob D.dbg ?_);refine callWith_function_kw (o:=o) (fd:=fd) (args_road G e1 e2 F.well F I fun rvs rks s1 ι1 N1 r1 r2=>⟨⟨D.there N1.inn.top,D.data⟩,?_⟩);exact e3 N1.inn (n0_le F N1.grow) r1 r2 fun rv s2 ι2 N2 rr=>h _ _ _ (N1.trans N2) rr
theorem lookup_vals {caps:List (Str×V)}:∀ {x:Str} {b:B},(caps.map fun y=>(y.1,B.val y.2)).lookup x=some b→∃ v,b=.val v∧caps.lookup x=some v:=by
 induction caps with
 |nil=>intro x b h;simp at h
 |cons y r ih=>
  intro x b h;rw [List.map_cons,List.lookup_cons] at h;rw [List.lookup_cons];cases q:x==y.1 with
  |true=>rw [q] at h;cases h;exact ⟨_,rfl,rfl⟩
  |false=>rw [q] at h;exact ih h
set_option tactic.hygienic true in
theorem lam_run {n:Nat} (G:Facts K T mg mb) {x:Str} {body:Expr} {sl:Scope} {caps:List (Str×V)} {a:Addr} {rx:Value} {v r r':V} {lo:Nat} {L:Addr} {σ σ':St} {ι:List Addr} {s:Shared} {A:Around} {Q:Value→Shared→Prop} {E:Value→Shared→Prop}
  (rB:RB ι s.heap K L (.ref a) (.lam x body sl caps)) (e:∀ env',∀ {env},Ok (A.deeper env') n→SGood prog w K T σ.length σ σ' r (A.deeper env') env sl ((x,.val v)::caps.map fun y=>(y.1,B.val y.2)) (eval body env)) (ef:frz σ' σ.length 16 r=some r') (hs:okSc sl=true) (hx:canSet sl x=true) (hh:hostSc sl=false)
  (hA:Ok A (n+1)) (I:In0 K T ι σ s) (hN:K.N0≤s.heap.objs.size) (rv:RV K.hid ι s.heap rx v) (h:∀ rv s',Nx K T lo σ ι ι s s'→RV K.hid ι s'.heap rv r'→Q rv s'):wpAny (model prog w) A (PySem.call (.ref a) [rx] []) Q E s:=by
 obtain S:=okSc_iff hs;cases rB with
 |lam ha ho hd st cd cap clo=>
  rename_i o fd
  refine nb fun kk=>?_;obtain ⟨c,q,hc,hci,hrec,oc,hoc,hcls⟩:=cd;obtain hroom:A.depth<recursionLimit:=Nat.lt_trans hA.room (by decide);obtain hrec':s.heap.CodeRec fd.code q:=hrec;obtain ⟨c1,o1,vs1,t1,z1,z2,z3,z4⟩:=hrec;refine kk ?_;refine wpAny_call (codeAny_of_tree ?_);show wpAny _ A.in1 (callAny (.ref a) ⟨[rx],[]⟩) _ _ s;simp -iota only [callAny];refine Qq (wpAny_load ho ?_);rw [hd];show wpAny _ A.in1 (callFunction a fd ⟨[rx],[]⟩) _ _ s;unfold callFunction;simp -iota only [st.scope,S.co,S.gen,st.body,z1];refine Qq (m:=field (.ref c1) 1) (wpAny_field z2 z3 z4 (Qq (Qf ?_)));rw [bind_plain st.args st.pos st.var st.kwo st.kwa st.dfl rfl (by simp -iota)];refine Qq (Qf ?_);rw [st.glob,st.blt];refine Qq (newEnv_ok (lo:=σ.length) (bs:=[(x,rx,.val v)]) (ρ:=caps.map fun y=>(y.1,B.val y.2)) G.mono hN S I (fun y c hm=>?_) (fun y z c hy hz=>st.inj y z c hy hz) st.all (fun y b hb=>?_) (fun z=>by rw [hh] at z;cases z) (fun p hp=>?_) (fun o ho=>nomatch ho) fun env s2 hl he o_ o_ o_ N2 F2 o_=>?_)
  ·obtain ⟨q1,_,q3,q4⟩:=clo y c hm;exact ⟨st.free y c hm,q1,q3,q4⟩
  ·obtain ⟨u,rfl,hu⟩:=lookup_vals hb;refine nb fun kk=>?_;refine e02 (cap y u hu) fun q1 q2=>?_;refine kk ?_;refine ⟨q1,fun c hm=>?_⟩;refine nb fun kk=>?_;refine e12 (q2 c hm) fun r q3 q4=>?_;refine kk ?_;exact ⟨r,q3,.val q4⟩
  ·rw [Wz hp];exact ⟨hx,.val rv⟩
  ·refine Qq (wpAny_enterFrame (G.lim N2.inn.top) hroom (Qf ⟨rfl,?_⟩));refine kla_codeExpr (e _ hA.deeper F2 N2.inn fun rf s3 ι3 N3 R3=>?_);obtain N:=N2.trans N3;exact h _ _ (pure_nx G.mono I N) (frz_ok I.rel.len.symm N.inn N.grow.pre I.rel.hid _ _ _ _ ef R3)
theorem lam_name (G:Facts K T mg mb) {n:Nat} {f x:Str} {p pos:Pos} {args:List Expr} {sc:Scope} {lo:Nat} {ρ:Rho} {σ σ1 σ2:St} {body:Expr} {sl:Scope} {caps:List (Str×V)} {u r v:V} {A:Around} {env:Env} (e1:LGood prog w K T lo σ σ1 [u] A env sc ρ args) (hk:ownKind (kindIn sc f)=true)
  (el:ρ.lookup f=some (.lam x body sl caps)) (hq:(okSc sl&&canSet sl x&&!hostSc sl)=true) (e3:∀ env',∀ {env},Ok (A.deeper env') n→SGood prog w K T σ1.length σ1 σ2 r (A.deeper env') env sl ((x,.val u)::caps.map fun y=>(y.1,B.val y.2)) (eval body env)) (e4:frz σ2 σ1.length 16 r=some v) (hA:Ok A (n+1)):
  SGood prog w K T lo σ σ1 v A env sc ρ (eval (.Call (.Name f p) args [] pos) env):=by
 intro ι s Q E F I h;refine wpAny_Call_Name_kw (wpAny_Name (loadB F (well_ne hk F.well.2.1) hk el fun fv rB=>?_) (well_ne hk F.well.1));have rB':=rB;cases rB' with
 |@lam a o fd _ _ _ _ ha ho hd st cd cap clo=>
  refine callWith_function_kw (o:=o) (fd:=fd) (args_road G e1 rfl F.well F I fun rvs rks s1 ι1 N1 r1 r2=>⟨⟨(N1.grow.keep _ _ ha ho).get (nf_of hd (by intro _ e;cases e)),hd⟩,?_⟩);cases r2;refine rvs1 r1 fun rv z ra=>?_;rw [z];exact lam_run (lo:=lo) G (rB.grow N1.grow) e3 e4 (and_l (and_l hq)) (and_r (and_l hq)) (notTF (and_r hq)) hA N1.inn (n0_le F N1.grow) ra fun rv s2 N2 r2=>h _ _ _ (N1.trans N2) r2
theorem ints_are {H ι:List Addr} {h:Heap} {ns:List Int}:∀ {vs:List Value},RVs H ι h vs (ns.map V.int)→IntsAre vs ns:=by
 induction ns with
 |nil=>intro vs r;rw [r.nil'];exact .nil
 |cons n ns ih=>
  intro vs r;refine e23 (r.cons') fun u us qz2 a b=>?_;obtain rfl:=qz2;exact rvInt a fun t z=>by rw [z];exact .cons _ t (ih b)
theorem rvs_ints {H ι:List Addr} {h:Heap} {vs:List Value} {ns:List Int} (r:IntsAre vs ns):RVs H ι h vs (ns.map V.int):=by
 induction r with
 |nil=>exact .nil
 |cons i t _ ih=>exact .cons (.int i t) ih
section defs
variable (prog:Program) (w:World) (C:Cfg) (K:Cst) (T:Heap→Prop)
noncomputable def SAccNew:Prop:=∀ {sc lo args p pos ρ σ σ1 k vs A env},LGood prog w K T lo σ σ1 vs A env sc ρ args→(vs=[.int k]∨(vs=[]∧k=0))→kindIn sc ("_Accumulator":Str)=some .globalImplicit→
 ∀ {n},Ok A (n+1)→SGood prog w K T lo σ (σ1++[HO.acc k []]) (.ref σ1.length) A env sc ρ (eval (.Call (.Name ("_Accumulator":Str) p) args [] pos) env)
noncomputable def SAccLen:Prop:=∀ {A:Around} {ι:List Addr} {σ:St} {s:Shared} {a:Addr} {lo i:Nat} {k n:Int} {xs:List V} {Q:Value→Shared→Prop} {E:Value→Shared→Prop},Deep A→In0 K T ι σ s→K.N0≤s.heap.objs.size→ι[i]?=some a→σ[i]?=some (.acc k xs)→accLen xs=some n→0≤k→k+n<4611686018427387904→xs.length≤4096→
 (∀ rv s',Nx K T lo σ ι ι s s'→RV K.hid ι s'.heap rv (.int (k+n))→Q rv s')→wpAny (model prog w) A (PySem.call (.builtin "len") [.ref a]) Q E s
end defs
section
variable {A:Around} {env:Env} {E:Value→Shared→Prop} {s:Shared} {ι:List Addr} {σ σ1:St} {lo:Nat} {Q:Value→Shared→Prop} {sc:Scope} {ρ:Rho} {f:Str} {p pos:Pos} {args:List Expr} {vs:List V}
theorem blt_road {id:String} (G:Facts K T mg mb) (e1:LGood prog w K T lo σ σ1 vs A env sc ρ args) (hk:kindIn sc f=some .globalImplicit) (hb:mg f=none∧mb f=some (.builtin id)) (hd:(f==("__debug__":Str))=false)
  (F:FrOk K ι s.heap env sc ρ) (I:In0 K T ι σ s) (h:∀ rvs s1 ι1,Nx K T lo σ1 ι ι1 s s1→RVs K.hid ι1 s1.heap rvs vs→wpAny (model prog w) A (PySem.call (.builtin id) rvs []) Q E s1):wpAny (model prog w) A (eval (.Call (.Name f p) args [] pos) env) Q E s:=by
 refine wpAny_Call_NameR (glob_blt G F I hk hb hd ?_);refine Calls.callWith_builtin (e1.plain _) (evalArgs_any (e1.plain _) (e1.run F I fun rvs s1 ι1 N1 r1=>?_));exact h rvs s1 ι1 N1 r1
end
theorem iLenA {σ:St} {x:V} {i:Int} {G:Prop} (e:lenV σ x=some i) (j1:∀ j k xs m,x=.ref j→σ[j]?=some (.acc k xs)→accLen xs=some m→0≤k→k+m<4611686018427387904→xs.length≤4096→k+m=i→G) (j2:(∀ j k xs,x=.ref j→σ[j]?≠some (.acc k xs))→G):G:=by
 cases x with
 |ref j=>
  cases hj:σ[j]? with
  |none=>exact j2 fun j' k xs q z=>by cases q;rw [hj] at z;cases z
  |some ob=>
   cases ob with
   |lst xs=>exact j2 fun j' k xs q z=>by cases q;rw [hj] at z;cases z
   |acc k xs=>
    unfold lenV at e;dsimp only at e;rw [hj] at e;refine bI e fun m e4 e5=>?_
    by_cases hg:0≤k∧k+m<4611686018427387904∧xs.length≤4096
    ·rw [if_pos hg] at e5;exact j1 j k xs m rfl hj e4 hg.1 hg.2.1 hg.2.2 (Qw e5)
    ·rw [if_neg hg] at e5;exact noN e5
 |_=>exact j2 fun o_ o_ o_ q=>nomatch q
theorem blt_good {n:Nat} (G:Facts K T mg mb) (hlen:SAccLen prog w K T) {A:Around} {env:Env} {f:Str} {p pos:Pos} {args:List Expr} {sc:Scope} {lo:Nat} {ρ:Rho} {σ σ1:St} {vs:List V} {v:V}
  (hk:kindIn sc f=some .globalImplicit) (e1:LGood prog w K T lo σ σ1 vs A env sc ρ args) (e2:builtinV σ1 f vs=some v) (hA1:Ok A (n+1)):SGood prog w K T lo σ σ1 v A env sc ρ (eval (.Call (.Name f p) args [] pos) env):=by
 intro ι s Q E F I h;obtain hA:=hA1.down (Nat.le_succ n);refine iBlt e2 fun x i q1 q2 e3 q3=>?_
 ·subst q1 q2 q3;refine blt_road G e1 hk (G.fns "len" (by simp)) rfl F I fun rvs s1 ι1 N1 r1=>rvs1 r1 fun u z ra=>?_;rw [z];refine iLenA e3 (fun j k xs m q hj e4 h0 h1 h2 q5=>?_) fun hna=>len_ok N1.inn.rel hna e3 ra fun t k=>h _ _ _ (N1.trans (Nx.tok N1.inn k)) (.int _ _);refine rvRef (q▸ra) fun a z hi=>?_;rw [z];exact hlen hA1.deep N1.inn (n0_le F N1.grow) hi hj e4 h0 h1 h2 fun rv s2 N2 r2=>h _ _ _ (N1.trans N2) (q5▸r2)
theorem FnAt.withH {f:Str} {fn:Fn} {a:Addr} {o:Obj} {fd:FuncData} (D:FnAt K T mg f fn a o fd) (H:List Addr):FnAt (K.withH H) T mg f fn a o fd:=
 ⟨D.glob,D.dbg,D.data,D.body,D.scope,D.closure,D.free,D.globals,D.builtins,D.there,D.host,D.code,D.lim,D.binds⟩
noncomputable def pairTxt (v:V):Str:=(pairOf v).elim ⟨#[]⟩ fun p=>p.1++p.2
section defs
variable (prog:Program) (w:World) (C:Cfg) (K:Cst) (T:Heap→Prop)
noncomputable def SAccItr:Prop:=∀ {sc:Scope} {lo:Nat} {e:Expr} {σ σ1:St} {ρ:Rho} {A:Around} {env:Env} {target:Expr} {j:Nat} {k0:Int} {xs:List V},A.handled=none→SGood prog w K T lo σ σ1 (.ref j) A env sc ρ (eval e env)→σ1[j]?=some (.acc k0 xs)→IGood prog w K T lo e σ σ1 (.acc j) A env sc ρ target
noncomputable def SAccSlice:Prop:=∀ {sc:Scope} {lo:Nat} {o x:Expr} {p q:Pos} {ρ:Rho} {σ σ1 σ2:St} {A:Around} {env:Env} {j:Nat} {k0 i:Int} {xs:List V},SGood prog w K T lo σ σ1 (.ref j) A env sc ρ (eval o env)→SGood prog w K T lo σ1 σ2 (.int i) A env sc ρ (evalPart (some x) env)→
 σ2[j]?=some (.acc k0 xs)→0≤i→xs.length≤4096→SGood prog w K T lo σ σ2 (.fro (xs.drop i.toNat)) A env sc ρ (eval (.Subscript o (.Slice (some x) none none q) p) env)
noncomputable def SAccCut:Prop:=∀ {sc:Scope} {lo:Nat} {o x e:Expr} {p q q1:Pos} {ρ:Rho} {σ σ1 σ2 σ3:St} {A:Around} {env:Env} {j:Nat} {k0 i:Int} {xs:List V},swapsWith e (some (.Subscript o (.Slice (some x) none none q1) q)) p.line env=pure false→SGood prog w K T lo σ σ1 (.fro []) A env sc ρ (eval e env)→
 SGood prog w K T lo σ1 σ2 (.ref j) A env sc ρ (eval o env)→SGood prog w K T lo σ2 σ3 (.int i) A env sc ρ (evalPart (some x) env)→lo≤j→σ3[j]?=some (.acc k0 xs)→0≤i→xs.length≤4096→
  XGood prog w K T lo σ (σ3.set j (.acc k0 (xs.take i.toNat))) .next ρ ρ A env sc (exec (.Assign [.Subscript o (.Slice (some x) none none q1) q] e p) env)
noncomputable def SAccFn:Prop:=∀ {nm:Str} {fn:Fn},C.meths nm=some fn→∀ {sc:Scope} {lo:Nat} {o:Expr} {apos pos:Pos} {args:List Expr} {ρ:Rho} {σ σ1 σ2 σ3:St} {A:Around} {env:Env} {j:Nat} {vs:List V} {v:V},SGood prog w K T lo σ σ1 (.ref j) A env sc ρ (eval o env)→tagV σ1 (.ref j)=some 2→
 LGood prog w K T lo σ1 σ2 vs A env sc ρ args→methOk o apos pos args=true→(∀ {mg a ob fd},FnAt K T mg nm fn a ob fd→FGood prog w K T lo σ2 (.ref j::vs) [] v σ3 A a)→SGood prog w K T lo σ σ3 v A env sc ρ (eval (.Call (.Attribute o nm apos) args [] pos) env)
noncomputable def SAccStr:Prop:=∀ {A:Around} {ι:List Addr} {σ:St} {s:Shared} {a:Addr} {lo i:Nat} {k:Int} {xs:List V} {Q:Value→Shared→Prop} {E:Value→Shared→Prop},Deep A→In0 K T ι σ s→K.N0≤s.heap.objs.size→ι[i]?=some a→σ[i]?=some (.acc k xs)→(∀ x∈xs,∃ a b,x=.tup [.str a,.str b])→
 (PySem.Str.join ⟨#[]⟩ (xs.map pairTxt)).length≤4096→xs.length≤4096→VCont K T lo σ (.str (PySem.Str.join ⟨#[]⟩ (xs.map pairTxt))) ι s Q→wpAny (model prog w) A (PySem.call (.type "str") [.ref a]) Q E s
structure Prims (mg:Str→Option Value):Prop where
 gen:∀ H,SGen prog w (K.withH H) T mg
 accMeth:∀ H,SAccMeth prog w (K.withH H) T
 accNew:∀ H,SAccNew prog w (K.withH H) T
 accLen:∀ H,SAccLen prog w (K.withH H) T
 accItr:∀ H,SAccItr prog w (K.withH H) T
 accSlice:∀ H,SAccSlice prog w (K.withH H) T
 accCut:∀ H,SAccCut prog w (K.withH H) T
 accFn:∀ H,SAccFn prog w C (K.withH H) T
 accStr:∀ H,SAccStr prog w (K.withH H) T
 fns:∀ f fn,C.fns f=some fn→∃ a o fd,FnAt K T mg f fn a o fd
end defs
end
section
set_option genInjectivity false in
structure Ctx (C:Cfg) where
 prog:Program
 w:World
 K:Cst
 T:Heap→Prop
 mg:Str→Option Value
 mb:Str→Option Value
 G:Facts K T mg mb
 P:Prims prog w C K T mg
@[reducible] noncomputable def Ctx.k {C:Cfg} (X:Ctx C) (H:List Addr):Cst:=X.K.withH H
theorem Ctx.g {C:Cfg} (X:Ctx C) (H:List Addr):Facts (X.k H) X.T X.mg X.mb:=X.G.withH H
section defs
variable (C:Cfg) (n:Nat) (sc:Scope) (lo:Nat)
noncomputable def ev (e:Expr) (ρ:Rho) (σ:St) (v:V) (σ':St):Prop:=evOk e=true∧(∀ (X:Ctx C) (H:List Addr) {A:Around} {env:Env},Ok A n→SGood X.prog X.w (X.k H) X.T lo σ σ' v A env sc ρ (eval e env))∧
 (isLC e=true→∀ (X:Ctx C) (H:List Addr) {A:Around} {env:Env} {y:Str} {py:Pos} {ρ':Rho} {ι:List Addr} {s:Shared} {Q:Unit→Shared→Prop} {E:Value→Shared→Prop},Ok A n→wellSc sc→bindT sc (.Name y py) v ρ=some ρ'→FrOk (X.k H) ι s.heap env sc ρ→In0 (X.k H) X.T ι σ s→
  (∀ s' ι',NxS (X.k H) X.T lo (Own env sc) σ' ι ι' s s'→FrOk (X.k H) ι' s'.heap env sc ρ'→Q () s')→wpAny (model X.prog X.w) A (evalThenUse e env (assign (.Name y py) env)) Q E s)
noncomputable def evo (e:Option Expr) (ρ:Rho) (σ:St) (v:V) (σ':St):Prop:=∀ (X:Ctx C) (H:List Addr) {A:Around} {env:Env},Ok A n→SGood X.prog X.w (X.k H) X.T lo σ σ' v A env sc ρ (evalPart e env)
noncomputable def evs (es:List Expr) (ρ:Rho) (σ:St) (vs:List V) (σ':St):Prop:=vs.length<n∧∀ (X:Ctx C) (H:List Addr) {A:Around} {env:Env},Ok A n→LGood X.prog X.w (X.k H) X.T lo σ σ' vs A env sc ρ es
noncomputable def evBool (op:BoolOp) (x:Expr) (r:List Expr) (ρ:Rho) (σ:St) (v:V) (σ':St):Prop:=∀ (X:Ctx C) (H:List Addr) {A:Around} {env:Env} {pos:Pos},Ok A n→SGood X.prog X.w (X.k H) X.T lo σ σ' v A env sc ρ (boolOp pos op (evalEach (x::r) env))
noncomputable def chain (a:V) (ops:List CmpOp) (rs:List Expr) (ρ:Rho) (σ:St) (b:Bool) (σ':St):Prop:=∀ (X:Ctx C) (H:List Addr) {A:Around} {env:Env},Ok A n→CGood X.prog X.w (X.k H) X.T lo σ σ' a b A env sc ρ ops rs
noncomputable def tst (e:Expr) (ρ:Rho) (σ:St) (b:Bool) (σ':St):Prop:=∀ (X:Ctx C) (H:List Addr) {A:Around} {env:Env},Ok A n→BGood X.prog X.w (X.k H) X.T lo σ σ' b A env sc ρ (isTrue e env (eval e env))
noncomputable def tsts (op:BoolOp) (es:List Expr) (ρ:Rho) (σ:St) (b:Bool) (σ':St):Prop:=∀ (X:Ctx C) (H:List Addr) {A:Around} {env:Env},Ok A n→BGood X.prog X.w (X.k H) X.T lo σ σ' b A env sc ρ (allTrue op es env)∧(op=.And→BGood X.prog X.w (X.k H) X.T lo σ σ' b A env sc ρ (ifsW es env))
noncomputable def itr (e:Expr) (ρ:Rho) (σ:St) (it:It) (σ':St):Prop:=evOk e=true∧∀ (X:Ctx C) (H:List Addr) {A:Around} {env:Env} {target:Expr},tgtOk e target=true→Ok A n→IGood X.prog X.w (X.k H) X.T lo e σ σ' it A env sc ρ target
noncomputable def comp (elt:Expr) (g:Comprehension) (gs:List Comprehension) (it:It) (ρ:Rho) (acc:List V) (σ:St) (acc':List V) (σ':St):Prop:=(g.is_async=0∧tgtOk g.iter g.target=true∧notGen g.iter=true)∧∀ (X:Ctx C) (H:List Addr) {A:Around},Ok A n→CompGood X.prog X.w (X.k H) X.T sc lo elt g gs it ρ acc σ acc' σ' A
noncomputable def call (f:Str) (fn:Fn) (vs:List V) (ks:List (Str×B)) (σ:St) (v:V) (σ':St):Prop:=∀ (X:Ctx C) (H:List Addr) {A:Around} {a:Addr} {o:Obj} {fd:FuncData},FnAt (X.k H) X.T X.mg f fn a o fd→Ok A n→FGood X.prog X.w (X.k H) X.T lo σ vs ks v σ' A a
noncomputable def ex (st:Stmt) (ρ:Rho) (σ:St) (fl:Fl) (ρ':Rho) (σ':St):Prop:=∀ (X:Ctx C) (H:List Addr) {A:Around} {env:Env},wellSc sc→Ok A n→env.scope=sc→XGood X.prog X.w (X.k H) X.T lo σ σ' fl ρ ρ' A env sc (exec st env)
noncomputable def exs (ss:List Stmt) (ρ:Rho) (σ:St) (fl:Fl) (ρ':Rho) (σ':St):Prop:=∀ (X:Ctx C) (H:List Addr) {A:Around} {env:Env},wellSc sc→Ok A n→env.scope=sc→XGood X.prog X.w (X.k H) X.T lo σ σ' fl ρ ρ' A env sc (execs ss env)
end defs
theorem Ok.d {A:Around} {n:Nat} (h:Ok A (n+1)):Ok A n:=h.down (Nat.le_succ n)
theorem Ok.len {A:Around} {n m:Nat} (h:Ok A n) (k:m<n):m≤4096:=Qy (Wq k) (Nat.le_of_mul_le_mul_left (c:=16) (Qy (Qy (Nat.le_add_left (16*n) A.units) (Nat.le_add_right _ 1000)) (Qy (Wq h.2.1) (by decide))) (by decide))
section rules
variable {C:Cfg} {sc:Scope} {n lo:Nat} {σ σ' σ1 σ2 σ3:St} {ρ ρ':Rho} {e l r o i:Expr} {p q:Pos} {a b c v:V}
theorem mkEv (h1:evOk e=true) (h2:isLC e=false) (h3:∀ (X:Ctx C) (H:List Addr) {A:Around} {env:Env},Ok A n→SGood X.prog X.w (X.k H) X.T lo σ σ' v A env sc ρ (eval e env)):ev C n sc lo e ρ σ v σ':=⟨h1,h3,fun h=>by rw [h2] at h;cases h⟩
theorem ev_Const {k:Const} {x:Nat} (h:constV k=some v):ev C (n+1) sc lo (.Constant k x p) ρ σ v σ:=mkEv rfl rfl fun X H _ _ hA=>constV_ok h
theorem ev_NameB {x:Str} {b:B} (h:ownKind (kindIn sc x)=true) (h2:ρ.lookup x=some b):ev C (n+1) sc lo (.Name x p) ρ σ b.v σ:=mkEv rfl rfl fun X H _ _ hA _ _ _ _ F I k=>wpAny_Name (loadB F (well_ne h F.well.2.1) h h2 fun rv r=>k _ _ _ (Nx.refl I) r.rv) (well_ne h F.well.1)
theorem ev_Name {x:Str} (h:ownKind (kindIn sc x)=true) (h2:ρ.lookup x=some (.val v)):ev C (n+1) sc lo (.Name x p) ρ σ v σ:=ev_NameB h h2
theorem ev_BinOp {op:Operator} (h1:ev C n sc lo l ρ σ a σ1) (h2:ev C n sc lo r ρ σ1 b σ2) (h3:binV σ2 op a b=some c):ev C (n+1) sc lo (.BinOp l op r p) ρ σ c σ2:=mkEv rfl rfl fun X H _ _ hA=>bin_good (X.g H) (h1.2.1 X H hA.d) (h2.2.1 X H hA.d) h3
theorem ev_UnaryOp {op:UnaryOp} (h1:ev C n sc lo e ρ σ a σ1) (h3:unV op σ1 a=some c):ev C (n+1) sc lo (.UnaryOp op e p) ρ σ c σ1:=mkEv rfl rfl fun X H _ _ hA _ _ _ _ F I h=>wpAny_UnaryOp (h1.2.1 X H hA.d F I fun ra s1 ι1 N1 r1=>un_ok h3 r1 fun r tk rr=>h _ _ _ (N1.trans (Nx.tok N1.inn tk)) rr)
theorem ev_If {t:Expr} {z:Bool} (h1:tst C n sc lo t ρ σ z σ1) (h2:ev C n sc lo (if z then l else r) ρ σ1 v σ2):ev C (n+1) sc lo (.IfExp t l r p) ρ σ v σ2:=mkEv rfl rfl fun X H _ _ hA=>if_good (z:=z) (h1 X H hA.d) (by cases z<;>exact h2.2.1 X H hA.d)
theorem ev_IfT {t:Expr} (h1:tst C n sc lo t ρ σ true σ1) (h2:ev C n sc lo l ρ σ1 v σ2):ev C (n+1) sc lo (.IfExp t l r p) ρ σ v σ2:=ev_If h1 h2
theorem ev_IfF {t:Expr} (h1:tst C n sc lo t ρ σ false σ1) (h2:ev C n sc lo r ρ σ1 v σ2):ev C (n+1) sc lo (.IfExp t l r p) ρ σ v σ2:=ev_If h1 h2
theorem ev_Cmp {ops:List CmpOp} {rs:List Expr} {z:Bool} (h1:ev C n sc lo l ρ σ a σ1) (h2:chain C n sc lo a ops rs ρ σ1 z σ2):ev C (n+1) sc lo (.Compare l ops rs p) ρ σ (.bool z) σ2:=mkEv rfl rfl fun X H _ _ hA=>cmp_good (h1.2.1 X H hA.d) (h2 X H hA.d)
theorem ev_Tuple {es:List Expr} {k:Nat} {vs:List V} (h1:evs C n sc lo es ρ σ vs σ1):ev C (n+1) sc lo (.Tuple es k p) ρ σ (.tup vs) σ1:=mkEv rfl rfl fun X H _ _ hA=>tup_good (X.g H) (hA.d.len h1.1) (h1.2 X H hA.d)
theorem ev_ListF {es:List Expr} {vs:List V} (hk:C.keep p=false) (h1:evs C n sc lo es ρ σ vs σ1):ev C (n+1) sc lo (.List es p) ρ σ (.fro vs) σ1:=mkEv rfl rfl fun X H _ _ hA=>list_good (keep:=false) (X.g H) (hA.d.len h1.1) (h1.2 X H hA.d) rfl
theorem ev_ListT {es:List Expr} {vs:List V} (hk:C.keep p=true) (h1:evs C n sc lo es ρ σ vs σ1):ev C (n+1) sc lo (.List es p) ρ σ (.ref σ1.length) (σ1++[HO.lst vs]):=mkEv rfl rfl fun X H _ _ hA=>list_good (keep:=true) (X.g H) (hA.d.len h1.1) (h1.2 X H hA.d) rfl
theorem ev_BoolOp {op:BoolOp} {x:Expr} {rest:List Expr} (h:evBool C n sc lo op x rest ρ σ v σ1):ev C (n+1) sc lo (.BoolOp op (x::rest) p) ρ σ v σ1:=mkEv rfl rfl fun X H _ _ hA _ _ _ _ F I k=>by rw [arm_eval_BoolOp];exact h X H hA.d F I k
theorem ev_Slice {x y:Option Expr} {u w:V} (h1:ev C n sc lo o ρ σ a σ1) (h2:evo C n sc lo x ρ σ1 u σ2) (h3:evo C n sc lo y ρ σ2 w σ3) (h4:sliceV σ3 a u w=some v):ev C (n+1) sc lo (.Subscript o (.Slice x y none q) p) ρ σ v σ3:=
 mkEv rfl rfl fun X H _ _ hA=>slice_good (X.g H) (h1.2.1 X H hA.d) (h2 X H hA.d) (h3 X H hA.d) h4
theorem ev_Item (hs:evOk i=true) (h1:ev C n sc lo o ρ σ a σ1) (h2:ev C n sc lo i ρ σ1 b σ2) (h3:getItemV σ2 a b=some v):ev C (n+1) sc lo (.Subscript o i p) ρ σ v σ2:=mkEv rfl rfl fun X H _ _ hA=>item_good h2.1 (h1.2.1 X H hA.d) (h2.2.1 X H hA.d) h3
theorem evo_none:evo C (n+1) sc lo none ρ σ .none σ:=fun X H _ _ hA _ _ _ _ F I h=>evalPart_none_step (h _ _ _ (Nx.refl I) .none)
theorem evo_some (h:ev C n sc lo e ρ σ v σ1):evo C (n+1) sc lo (some e) ρ σ v σ1:=fun X H _ _ hA _ _ _ _ F I k=>evalPart_some_step (h.2.1 X H hA.d F I k)
theorem evs_nil:evs C (n+1) sc lo [] ρ σ [] σ:=⟨Nat.succ_pos _,fun X H _ _ hA=>⟨fun _=>rfl,fun _=>⟨rfl,rfl⟩,fun _ _ h=>(nomatch h),fun F I h=>wpAny_items_nil (h _ _ _ (Nx.refl I) .nil)⟩⟩
theorem evs_cons {es:List Expr} {vs:List V} (hs:evOk e=true) (h:ev C n sc lo e ρ σ v σ1) (h2:evs C n sc lo es ρ σ1 vs σ2):evs C (n+1) sc lo (e::es) ρ σ (v::vs) σ2:=⟨Nat.succ_lt_succ h2.1,fun X H _ _ hA=>⟨fun pos=>by
  rw [ok_starred h.1];exact (h2.2 X H hA.d).plain pos,fun h=>(nomatch h),fun x r q=>by cases q;exact ok_starred h.1,fun F I k=>wpAny_items_cons (h.2.1 X H hA.d F I fun rv s1 ι1 N1 r1=>
   (h2.2 X H hA.d).run (F.grow N1.grow) N1.inn fun rvs s2 ι2 N2 r2=>k _ _ _ (N1.trans N2) (.cons (r1.grow N2.grow) r2)) (ok_starred h.1)⟩⟩
theorem chain_of {op:CmpOp} {z:Bool} (h:ev C n sc lo r ρ σ b σ1) (h2:∀ (X:Ctx C) (H:List Addr) {A:Around},Ok A (n+1)→∀ {ι:List Addr} {s:Shared} {va rv:Value} {Q:Value→Shared→Prop} {E:Value→Shared→Prop},In0 (X.k H) X.T ι σ1 s→RV (X.k H).hid ι s.heap va a→RV (X.k H).hid ι s.heap rv b→(∀ tk,Q (.bool z) { s with toks:=tk })→wpAny (model X.prog X.w) A (compareOp op va rv) Q E s):
  chain C (n+1) sc lo a [op] [r] ρ σ z σ1:=by
 intro X H A env hA pos ι s va F I ra;obtain hm:markedEach [op] [r] (evalEach [r] env)=[eval r env]:=by
  show [markedBehindIn op r (eval r env)]=_;rw [markedBehindIn_of_false (ok_ne_set h.1)]
 rw [hm];obtain go:∀ {Q:Value→Shared→Prop} {E:Value→Shared→Prop},(∀ s' ι',Nx (X.k H) X.T lo σ1 ι ι' s s'→Q (.bool z) s')→wpAny (model X.prog X.w) A (eval r env) (fun rv s₁=>wpAny (model X.prog X.w) A (compareOp op va rv) Q E s₁) E s:=fun k=>
  h.2.1 X H hA.d F I fun rv s1 ι1 N1 r1=>h2 X H hA N1.inn (ra.grow N1.grow) r1 fun tk=>k _ _ (N1.trans (Nx.tok N1.inn tk))
 refine ⟨fun {Q E} h=>?_,fun {Q E} h=>?_⟩
 ·show wpAny _ _ (holding [va] (eval r env) >>=fun rv=>standAt pos >>=fun o_=>operate [va,rv] (compareOp op va rv)) _ _ _;exact Qq (wpAny_holding (Wj (go h) (fun v s' hv=>Qq (wpAny_standAt (wpAny_operating hv))) fun o_ o_ x=>x))
 ·show wpAny _ _ (holding [va] (eval r env) >>=fun rv=>standAt pos >>=fun o_=>operate [va,rv] (compareOp op va rv) >>=fun c=>holding [c] (truthy c)) _ _ _;refine Qq (wpAny_holding (Wj (go (Q:=fun v s'=>wpAny (model X.prog X.w) A (truthy v) Q E s') (E:=E) fun s' ι' N=>wpAny_truthy_bool (h s' ι' N)) (fun v s' hv=>?_) fun o_ o_ x=>x));exact Qq (wpAny_standAt (Qq (wpAny_operating (Wj hv (fun c s'' hc=>wpAny_holding hc) fun o_ o_ x=>x))))
theorem chain_one {op:CmpOp} {z:Bool} (h:ev C n sc lo r ρ σ b σ1) (h2:cmpV σ1 op a b=some z):chain C (n+1) sc lo a [op] [r] ρ σ z σ1:=chain_of h fun X H _ hA _ _ _ _ _ _ I ra rb k=>cmp_ok I.rel hA h2 ra rb k
theorem evBool_last {op:BoolOp} {x:Expr} (h:ev C n sc lo x ρ σ v σ1):evBool C (n+1) sc lo op x [] ρ σ v σ1:=fun X H _ _ pos hA=>h.2.1 X H hA.d
theorem evBool_go {op:BoolOp} {x y:Expr} {r:List Expr} {t:Bool} (h:ev C n sc lo x ρ σ v σ1) (h2:truth σ1 v=some t) (h3:if stopB op t=true then v=c∧σ1=σ2 else evBool C n sc lo op y r ρ σ1 c σ2):evBool C (n+1) sc lo op x (y::r) ρ σ c σ2:=by
 intro X H A env pos hA ι s Q E F I k;refine boolOp_cons (h.2.1 X H hA.d F I fun rv s1 ι1 N1 r1=>truth_ok h2 r1 fun tk=>?_);obtain N2:=N1.trans (Nx.tok (lo:=lo) N1.inn tk);refine ⟨fun q=>?_,fun q=>?_⟩
 ·rw [if_pos q] at h3;refine e02 (h3) fun qz0 qz1=>?_;obtain rfl:=qz0;obtain rfl:=qz1;exact k _ _ _ N2 r1
 ·rw [if_neg (by rw [q];decide)] at h3;exact h3 X H hA.d (F.grow N2.grow) N2.inn fun rv s3 ι3 N3 r3=>k _ _ _ (N2.trans N3) r3
theorem tst_Not {z:Bool} (h:tst C n sc lo e ρ σ z σ1):tst C (n+1) sc lo (.UnaryOp .Not e p) ρ σ (!z) σ1:=fun X H _ _ hA _ _ _ _ F I k=>wpAny_isTrue_Not (h X H hA.d F I fun s1 ι1 N1=>k _ _ N1)
theorem tst_Bool {op:BoolOp} {es:List Expr} {z:Bool} (h:tsts C n sc lo op es ρ σ z σ1):tst C (n+1) sc lo (.BoolOp op es p) ρ σ z σ1:=fun X H _ _ hA _ _ _ _ F I k=>wpAny_isTrue_BoolOp ((h X H hA.d).1 F I k)
theorem tst_Cmp {ops:List CmpOp} {rs:List Expr} {z:Bool} (h1:ev C n sc lo l ρ σ a σ1) (h2:chain C n sc lo a ops rs ρ σ1 z σ2):tst C (n+1) sc lo (.Compare l ops rs p) ρ σ z σ2:=fun X H A env hA _ _ _ _ F I k=>by
 show wpAny _ _ (eval l env >>=fun a=>testChain p a ops (markedEach ops rs (evalEach rs env))) _ _ _;exact Qq (h1.2.1 X H hA.d F I fun rv s1 ι1 N1 r1=>(h2 X H hA.d (F.grow N1.grow) N1.inn r1).2 fun s2 ι2 N2=>k _ _ (N1.trans N2))
theorem tst_plain {z:Bool} (hp:plainT e=true) (h1:ev C n sc lo e ρ σ a σ1) (h2:truth σ1 a=some z):tst C (n+1) sc lo e ρ σ z σ1:=fun X H _ _ hA _ _ _ _ F I k=>wpAny_isTrue_value (h1.2.1 X H hA.d F I fun rv s1 ι1 N1 r1=>truth_ok h2 r1 fun tk=>k _ _ (N1.trans (Nx.tok N1.inn tk))) (plain_isTrue hp)
theorem tsts_nilA:tsts C (n+1) sc lo .And [] ρ σ true σ:=fun X H _ _ hA=>⟨fun F I k=>wpAny_allTrue_And_nil (k _ _ (Nx.refl I)),fun _ _ _ _ _ F I k=>Qf (k _ _ (Nx.refl I))⟩
theorem tsts_nilO:tsts C (n+1) sc lo .Or [] ρ σ false σ:=fun X H _ _ hA=>⟨fun F I k=>wpAny_allTrue_Or_nil (k _ _ (Nx.refl I)),fun h=>(nomatch h)⟩
theorem tsts_nil {op:BoolOp}:tsts C (n+1) sc lo op [] ρ σ (op==.And) σ:=by
 cases op with
 |And=>exact tsts_nilA
 |Or=>exact tsts_nilO
theorem tsts_and {x:Expr} {es:List Expr} {z:Bool} (h:tst C n sc lo x ρ σ true σ1) (h2:tsts C n sc lo .And es ρ σ1 z σ2):tsts C (n+1) sc lo .And (x::es) ρ σ z σ2:=fun X H _ _ hA=>⟨fun F I k=>wpAny_allTrue_And_cons (h X H hA.d F I fun s1 ι1 N1=>(h2 X H hA.d).1 (F.grow N1.grow) N1.inn fun s2 ι2 N2=>k _ _ (N1.trans N2)),
 fun q=>ifs_T (h X H hA.d) ((h2 X H hA.d).2 q)⟩
theorem tsts_andF {x:Expr} {es:List Expr} (h:tst C n sc lo x ρ σ false σ1):tsts C (n+1) sc lo .And (x::es) ρ σ false σ1:=fun X H _ _ hA=>⟨fun F I k=>wpAny_allTrue_And_cons (h X H hA.d F I fun s1 ι1 N1=>k _ _ N1),fun _=>ifs_F (h X H hA.d)⟩
theorem tsts_or {x:Expr} {es:List Expr} {z:Bool} (h:tst C n sc lo x ρ σ false σ1) (h2:tsts C n sc lo .Or es ρ σ1 z σ2):tsts C (n+1) sc lo .Or (x::es) ρ σ z σ2:=fun X H _ _ hA=>⟨fun F I k=>wpAny_allTrue_Or_cons (h X H hA.d F I fun s1 ι1 N1=>(h2 X H hA.d).1 (F.grow N1.grow) N1.inn fun s2 ι2 N2=>k _ _ (N1.trans N2)),fun h=>(nomatch h)⟩
theorem ev_Fn {f:Str} {args:List Expr} {kw:List Keyword} {vs:List V} {ks:List (Str×B)} {fn:Fn} (h1:evs C n sc lo args ρ σ vs σ1) (h2:kwV sc ρ kw=some ks) (hk:kindIn sc f=some .globalImplicit) (hna:(f==("_Accumulator":Str))=false)
  (hf:C.fns f=some fn) (h3:call C n lo f fn vs ks σ1 v σ2):ev C (n+1) sc lo (.Call (.Name f q) args kw p) ρ σ v σ2:=mkEv rfl rfl fun X H _ _ hA=>(X.P.fns f fn hf).elim fun a h=>h.elim fun o h=>h.elim fun fd D=>
   fn_name (X.g H) (D.withH H) hk (h1.2 X H hA.d) h2 (h3 X H (D.withH H) hA.d)
theorem ev_Blt {f:Str} {args:List Expr} {vs:List V} (h1:evs C n sc lo args ρ σ vs σ1) (hk:kindIn sc f=some .globalImplicit) (hna:(f==("_Accumulator":Str))=false) (hf:C.fns f=none) (h3:builtinV σ1 f vs=some v):ev C (n+1) sc lo (.Call (.Name f q) args [] p) ρ σ v σ1:=
 mkEv rfl rfl fun X H _ _ hA=>blt_good (X.g H) (X.P.accLen H) hk (h1.2 X H hA.d) h3 hA
theorem ev_Acc1 {k:Int} (h1:evs C n sc lo [e] ρ σ [.int k] σ1) (hk:kindIn sc ("_Accumulator":Str)=some .globalImplicit):ev C (n+1) sc lo (.Call (.Name ("_Accumulator":Str) q) [e] [] p) ρ σ (.ref σ1.length) (σ1++[HO.acc k []]):=
 mkEv rfl rfl fun X H _ _ hA=>X.P.accNew H (h1.2 X H hA.d) (.inl rfl) hk hA
theorem ev_Acc0 (hk:kindIn sc ("_Accumulator":Str)=some .globalImplicit):ev C (n+2) sc lo (.Call (.Name ("_Accumulator":Str) q) [] [] p) ρ σ (.ref σ.length) (σ++[HO.acc 0 []]):=
 mkEv rfl rfl fun X H _ _ hA=>X.P.accNew H ((evs_nil (n:=n)).2 X H hA.d) (.inr ⟨rfl,rfl⟩) hk hA
theorem ev_Lam {f x:Str} {args:List Expr} {body:Expr} {s:Scope} {caps:List (Str×V)} {u w:V} (h1:evs C n sc lo args ρ σ [u] σ1) (hk:ownKind (kindIn sc f)=true) (hl:ρ.lookup f=some (.lam x body s caps)) (hok:(okSc s&&canSet s x&&!hostSc s)=true)
  (h2:ev C n s σ1.length body ((x,.val u)::caps.map fun y=>(y.1,.val y.2)) σ1 w σ2) (h3:frz σ2 σ1.length 16 w=some v):ev C (n+1) sc lo (.Call (.Name f q) args [] p) ρ σ v σ1:=
 mkEv rfl rfl fun X H _ _ hA=>lam_name (X.g H) (h1.2 X H hA.d) hk hl hok (fun _ _ hA=>h2.2.1 X H hA) h3 hA
theorem ev_Meth {name:Str} {args:List Expr} {vs:List V} {k:Nat} (hok:methOk o q p args=true) (h1:ev C n sc lo o ρ σ a σ1) (ht:tagV σ1 a=some k) (h2:evs C n sc lo args ρ σ1 vs σ2) (ht2:tagV σ2 a=some k)
  (h3:methV lo σ2 a name vs=some (v,σ3)):ev C (n+1) sc lo (.Call (.Attribute o name q) args [] p) ρ σ v σ3:=mkEv rfl rfl fun X H _ _ hA=>meth_good (X.g H) (X.P.accMeth H) hok (h1.2.1 X H hA.d) ht (h2.2 X H hA.d) ht2 h3 hA
theorem flv_of {fl:Fl} {w:V} (hw:fl=.ret w∨(fl=.next∧w=.none)):flV fl=some w:=by rcases hw with rfl|⟨rfl,rfl⟩<;>rfl
theorem call_pure {f:Str} {fn:Fn} {vs:List V} {ks:List (Str×B)} {ρ0:Rho} {w:V} {fl:Fl} (hok:okSc fn.scope=true) (hb:bindV fn.params vs ks=some ρ0) (hi:C.impure f=false) (h:exs C n fn.scope σ.length fn.body ρ0.reverse σ fl ρ' σ1)
  (hw:fl=.ret w∨(fl=.next∧w=.none)) (hf:frz σ1 σ.length 16 w=some v):call C (n+1) lo f fn vs ks σ v σ:=fun X H _ _ _ _ D hA=>fn_pure (X.g H) D hok hb (fun _ _ hA hs hw=>h X H hw hA hs) hA (flv_of hw) hf
theorem call_imp {f:Str} {fn:Fn} {vs:List V} {ks:List (Str×B)} {ρ0:Rho} {fl:Fl} (hok:okSc fn.scope=true) (hb:bindV fn.params vs ks=some ρ0) (hi:C.impure f=true) (h:exs C n fn.scope lo fn.body ρ0.reverse σ fl ρ' σ1)
  (hw:fl=.ret v∨(fl=.next∧v=.none)):call C (n+1) lo f fn vs ks σ v σ1:=fun X H _ _ _ _ D hA=>fn_imp (X.g H) D hok hb (fun _ _ hA hs hw=>h X H hw hA hs) hA (flv_of hw)
theorem itr_range1 {m:Int} {xs:List V} (hk:kindIn sc ("range":Str)=some .globalImplicit) (h:evs C n sc lo [e] ρ σ [.int m] σ1) (hx:rangeV 0 m 1=some xs):itr C (n+1) sc lo (.Call (.Name ("range":Str) q) [e] [] p) ρ σ (.fix xs) σ1:=⟨rfl,fun X H _ _ _ ht hA=>rng1_ok (X.g H) hA.2.2 hk (h.2 X H hA.d) hx⟩
theorem itr_enum {xs:List V} (hk:kindIn sc ("enumerate":Str)=some .globalImplicit) (h:ev C n sc lo e ρ σ (.fro xs) σ1):itr C (n+1) sc lo (.Call (.Name ("enumerate":Str) q) [e] [] p) ρ σ (.fix (xs.zipIdx.map fun (v,k)=>.tup [.int k,v])) σ1:=⟨rfl,fun X H _ _ _ ht hA=>enum_ok (X.g H) hA.2.2 ht hk h.1 (h.2.1 X H hA.d)⟩
theorem itr_esc {s:Str} (hk:kindIn sc ("_iter_escaped_chars":Str)=some .globalImplicit) (h:ev C n sc lo e ρ σ (.str s) σ1):itr C (n+1) sc lo (.Call (.Name ("_iter_escaped_chars":Str) q) [e] [] p) ρ σ (.fix (escGo 0 false s.cps.toList)) σ1:=⟨rfl,fun X H _ _ _ ht hA=>esc_ok (X.g H) hA (X.P.gen H) hk h.1 (h.2.1 X H hA.d)⟩
theorem itr_fro {xs:List V} (hk:evOk e=true) (h:ev C n sc lo e ρ σ (.fro xs) σ1):itr C (n+1) sc lo e ρ σ (.fix xs) σ1:=⟨h.1,fun X H _ _ _ ht hA=>fro_ok (X.g H) hA.2.2 (h.2.1 X H hA.d)⟩
theorem itr_ref {j:Nat} (hk:evOk e=true) (h:ev C n sc lo e ρ σ (.ref j) σ1) (hs:(seqOf σ1 (.ref j)).isSome=true):itr C (n+1) sc lo e ρ σ (.dyn j) σ1:=⟨h.1,fun X H _ _ _ ht hA=>(Option.isSome_iff_exists.mp hs).elim fun xs hs=>ref_ok (X.g H) hA.2.2 hs (h.2.1 X H hA.d)⟩
end rules
end
section
section rules
variable {C:Cfg} {sc:Scope} {n lo:Nat} {σ σ' σ1 σ2 σ3:St} {ρ ρ' ρ1:Rho} {e l r o i:Expr} {p q:Pos} {a b c v:V} {fl:Fl}
theorem exs_nil:exs C (n+1) sc lo [] ρ σ .next ρ σ:=fun X H _ _ hw hA hs _ _ _ _ F I h=>wpAny_execs_nil (h _ _ _ (Nx.refl I).toS F .next)
theorem exs_next {s:Stmt} {ss:List Stmt} (h1:ex C n sc lo s ρ σ .next ρ1 σ1) (h2:exs C n sc lo ss ρ1 σ1 fl ρ' σ'):exs C (n+1) sc lo (s::ss) ρ σ fl ρ' σ':=fun X H _ _ hw hA hs _ _ _ _ F I h=>wpAny_execs_cons (h1 X H hw hA.d hs F I fun rf s1 ι1 N1 F1 R1=>by
 cases R1;exact h2 X H hw hA.d hs F1 N1.inn fun rf s2 ι2 N2 F2 R2=>h _ _ _ (N1.trans N2) F2 R2)
theorem exs_stop {s:Stmt} {ss:List Stmt} (h1:ex C n sc lo s ρ σ fl ρ' σ') (hne:fl≠.next):exs C (n+1) sc lo (s::ss) ρ σ fl ρ' σ':=fun X H _ _ hw hA hs _ _ _ _ F I h=>wpAny_execs_cons (h1 X H hw hA.d hs F I fun rf s1 ι1 N1 F1 R1=>by
 have hh:=h _ _ _ N1 F1 R1;cases R1 with
 |next=>exact absurd rfl hne
 |_=>exact hh)
def Go (r:Fl→Rho→St→Prop) (Q:Fl→Rho→St→Prop):Prop:=∃ fl ρ σ,r fl ρ σ∧Q fl ρ σ
variable {Q:Fl→Rho→St→Prop}
theorem Go.mono {r:Fl→Rho→St→Prop} {Q':Fl→Rho→St→Prop} (h:Go r Q) (k:∀ fl ρ σ,Q fl ρ σ→Q' fl ρ σ):Go r Q':=let ⟨fl,ρ,σ,e,q⟩:=h;⟨fl,ρ,σ,e,k _ _ _ q⟩
theorem go_nil (h:Q .next ρ σ):Go (exs C (n+1) sc lo [] ρ σ) Q:=⟨_,_,_,exs_nil,h⟩
@[reducible] def Nxt (r:Rho→St→Fl→Rho→St→Prop) (Q:Fl→Rho→St→Prop):Fl→Rho→St→Prop
 |.next,ρ,σ=>Go (r ρ σ) Q
 |fl,ρ,σ=>Q fl ρ σ
theorem go_cons {s:Stmt} {ss:List Stmt} (h:Go (ex C n sc lo s ρ σ) (Nxt (fun ρ σ=>exs C n sc lo ss ρ σ) Q)):Go (exs C (n+1) sc lo (s::ss) ρ σ) Q:=by
 refine nb fun kk=>?_;obtain ⟨fl,ρ1,σ1,e,q⟩:=h;refine kk ?_;cases fl with
 |next=>
  refine nb fun kk=>?_;obtain ⟨fl,ρ2,σ2,e2,q⟩:=q;refine kk ?_;exact ⟨fl,ρ2,σ2,exs_next e e2,q⟩
 |_=>exact ⟨_,ρ1,σ1,exs_stop e (fun h=>nomatch h),q⟩
theorem go_Expr (hc:isCall e=true) (h:ev C n sc lo e ρ σ v σ1) (hq:Q .next ρ σ1):Go (ex C (n+1) sc lo (.Expr e p) ρ σ) Q:=⟨_,_,_,fun X H _ _ hw hA hs=>expr_ok hc (h.2.1 X H hA.d),hq⟩
theorem go_Return (h:ev C n sc lo e ρ σ v σ1) (hq:Q (.ret v) ρ σ1):Go (ex C (n+1) sc lo (.Return (some e) p) ρ σ) Q:=⟨_,_,_,fun X H _ _ hw hA hs _ _ _ _ F I k=>wpAny_Return_some (h.2.1 X H hA.d F I fun rv s1 ι1 N1 r1=>k _ _ _ N1.toS (F.grow N1.grow) (.ret r1)),hq⟩
theorem ex_Assign {t:Expr} (hsw:swapOk t e=true) (h:ev C n sc lo e ρ σ v σ1) (hb:bindT sc t v ρ=some ρ'):ex C (n+1) sc lo (.Assign [t] e p) ρ σ .next ρ' σ1:=fun X H A env hw hA hs ι s Q E F I k=>by
 cases hlc:isLC e with
 |false=>
  have hsn:=ok_swaps h.1 hlc;cases t with
  |Name y py=>
   refine iT (c:=canSet sc y) hb fun hc q=>?_;cases q;exact name_ok (X.g H) hw hc hsn (h.2.1 X H hA.d) F I k
  |Tuple es k' tp=>exact tup_ok (X.g H) hw hA.2.2 (fun _ _=>.inl (hsn _ _ _)) hsw (h.2.1 X H hA.d) hb F I k
  |_=>exact noN hb
 |true=>
  have hv:SGood X.prog X.w (X.k H) X.T lo σ σ1 v A env sc ρ (eval e env):=h.2.1 X H hA.d;cases t with
  |Name y py=>
   have hu:=h.2.2 hlc X H (env:=env) (y:=y) (py:=py) (Q:=fun _ s'=>Q .next s') (E:=E) hA.d hw hb F I;clear h;cases e with
   |ListComp elt gens sc' q=>
    cases hbk:(env.blockKind==.function&&env.kindOf y==some .local&&py.line==q.line&&!(sc'.names.any fun (n,k)=>n==y&&(k==.local||k==.cell))) with
    |false=>
     refine iT (c:=canSet sc y) hb fun hc q=>?_;cases q;exact wpAny_Assign_Name (hv F I fun rv s1 ι1 N1 r1=>store_ok (X.g H).mono hw hc (F.grow N1.grow) N1.inn (.val r1) fun s2 N2 F2 o_ o_=>k _ _ _ (N1.toS.trans N2) F2 .next) (by show (pure _:Sem Bool)=pure false;exact congrArg pure hbk)
    |true=>
     rw [exec_Assign_Name_used _ _ _ _ (by show (pure _:Sem Bool)=pure true;exact congrArg pure hbk)];exact Qq (wpAny_standAt (Qq (Wj (hu fun s1 ι1 N1 F1=>k _ _ _ N1 F1 .next) (fun o_ o_ h=>Qf h) fun o_ o_ h=>h)))
   |_=>exact noB' hlc
  |Tuple es k' tp=>exact tup_ok (X.g H) hw hA.2.2 (fun _ _=>.inr hlc) hsw hv hb F I k
  |_=>exact noN hb
theorem go_Assign {t:Expr} (hs:evOk e=true) (hsw:swapOk t e=true) (h:ev C n sc lo e ρ σ v σ1) (hb:bindT sc t v ρ=some ρ') (hq:Q .next ρ' σ1):Go (ex C (n+1) sc lo (.Assign [t] e p) ρ σ) Q:=⟨_,_,_,ex_Assign hsw h hb,hq⟩
theorem go_Store {w u:V} (h:ev C n sc lo e ρ σ v σ1) (h2:ev C n sc lo o ρ σ1 w σ2) (h3:ev C n sc lo i ρ σ2 u σ3) (hb:setItemV lo σ3 w u v=some σ') (hq:Q .next ρ σ'):Go (ex C (n+1) sc lo (.Assign [.Subscript o i q] e p) ρ σ) Q:=⟨_,_,_,fun X H A env hw hA hs=>by
 refine setsub_ok (X.g H) ?_ (h.2.1 X H hA.d) (h2.2.1 X H hA.d) (h3.2.1 X H hA.d) hb;cases hlc:isLC e with
 |false=>exact ok_swaps h.1 hlc _ _ _
 |true=>clear h;cases e<;>first|rfl|exact noB' hlc,hq⟩
theorem go_Aug {x:Str} {op:Operator} {k m:Int} (hc:canSet sc x=true) (hl:ρ.lookup x=some (.val (.int k))) (h:ev C n sc lo e ρ σ (.int m) σ1) (hv:augV op k m=some v) (hq:Q .next ((x,.val v)::ρ) σ1):Go (ex C (n+1) sc lo (.AugAssign (.Name x q) op e p) ρ σ) Q:=
 ⟨_,_,_,fun X H _ _ hw hA hs=>augname_ok (X.g H) hw hc hl (h.2.1 X H hA.d) hv,hq⟩
theorem go_AugSub {w u:V} {op:Operator} {k m:Int} (h1:ev C n sc lo o ρ σ w σ1) (h2:ev C n sc lo i ρ σ1 u σ2) (hg:getLst σ2 w u=some (.int k)) (h:ev C n sc lo e ρ σ2 (.int m) σ3) (hv:augV op k m=some v) (hs:setItemV lo σ3 w u v=some σ')
  (hq:Q .next ρ σ'):Go (ex C (n+1) sc lo (.AugAssign (.Subscript o i q) op e p) ρ σ) Q:=⟨_,_,_,fun X H _ _ hw hA _=>augsub_ok (X.g H) (h1.2.1 X H hA.d) (h2.2.1 X H hA.d) hg (h.2.1 X H hA.d) hv hs h2.1,hq⟩
theorem go_If {t:Expr} {z:Bool} {x y:List Stmt} (h:tst C n sc lo t ρ σ z σ1) (hq:Go (if z then exs C n sc lo x ρ σ1 else exs C n sc lo y ρ σ1) Q):Go (ex C (n+1) sc lo (.If t x y p) ρ σ) Q:=by
 refine nb fun kk=>?_;obtain ⟨fl,ρ1,σ2,e,q⟩:=hq;refine kk ?_;exact ⟨fl,ρ1,σ2,fun X H _ _ hw hA hs _ _ _ _ F I k=>wpAny_If (h X H hA.d F I fun s1 ι1 N1=>by
  cases z with
  |true=>exact e X H hw hA.d hs (F.grow N1.grow) N1.inn fun rf s2 ι2 N2 F2 R2=>k _ _ _ (N1.toS.trans N2) F2 R2
  |false=>exact e X H hw hA.d hs (F.grow N1.grow) N1.inn fun rf s2 ι2 N2 F2 R2=>k _ _ _ (N1.toS.trans N2) F2 R2),q⟩
theorem go_IfT {t:Expr} {x y:List Stmt} (h:tst C n sc lo t ρ σ true σ1) (hq:Go (exs C n sc lo x ρ σ1) Q):Go (ex C (n+1) sc lo (.If t x y p) ρ σ) Q:=go_If h hq
theorem go_IfF {t:Expr} {x y:List Stmt} (h:tst C n sc lo t ρ σ false σ1) (hq:Go (exs C n sc lo y ρ σ1) Q):Go (ex C (n+1) sc lo (.If t x y p) ρ σ) Q:=go_If h hq
theorem go_While {t:Expr} {b:List Stmt} {N:Nat} (P:Nat→Rho→St→Prop)
  (step:∀ m n ρ σ,N≤n→P m ρ σ→(tst C n sc lo t ρ σ false σ∧Q .next ρ σ)∨(tst C n sc lo t ρ σ true σ∧Go (exs C n sc lo b ρ σ) fun fl ρ' σ'=>(fl=.next∨fl=.cont)∧∃ m',m'<m∧P m' ρ' σ'))
  (m n:Nat) (ρ:Rho) (σ:St) (hn:m+N≤n) (hP:P m ρ σ):Go (ex C (n+1) sc lo (.While t b [] p) ρ σ) Q:=by
 have key:∀ (m:Nat) (ρ:Rho) (σ:St),P m ρ σ→∃ k fl ρ' σ',Wh (fun ρ σ z σ'=>tst C n sc lo t ρ σ z σ') (fun ρ σ fl ρ' σ'=>exs C n sc lo b ρ σ fl ρ' σ') k ρ σ fl ρ' σ'∧Q fl ρ' σ':=by
  intro m
  induction m using Nat.strongRecOn with
  |_ m ih=>
   intro ρ σ hP;rcases step m n ρ σ (Qy (Nat.le_add_left _ _) hn) hP with ⟨h1,h2⟩|⟨h1,fl,ρ1,σ1,h2,hfl,m',hm,h3⟩
   ·exact (xi4 1 .next ρ σ ⟨.inl ⟨h1,rfl,rfl⟩,h2⟩)
   ·obtain ⟨k,fl2,ρ2,σ2,h4,h5⟩:=ih m' hm ρ1 σ1 h3;refine (xi4 (k+1) fl2 ρ2 σ2 ⟨.inr (xi4 σ fl ρ1 σ1 ⟨h1,h2,?_⟩),h5⟩);rcases hfl with rfl|rfl
    ·exact h4
    ·exact h4
 refine nb fun kk=>?_;refine e42 (key m ρ σ hP) fun k fl ρ' σ' h1 h2=>?_;refine kk ?_;exact ⟨fl,ρ',σ',fun X H _ _ hw hA hs=>while_ok (fun h=>h X H hA.d) (fun h=>h X H hw hA.d hs) h1,h2⟩
theorem Lp_end {α:Type} {nth:α→Nat→Option (Option V)} {body:V→α→Fl→α→Prop} {m k:Nat} {a:α} (h:nth a k=some none):Lp nth body m k a .next a:=by
 cases m with
 |zero=>exact ⟨h,rfl,rfl⟩
 |succ m=>exact .inl ⟨h,rfl,rfl⟩
theorem Lp_item {α:Type} {nth:α→Nat→Option (Option V)} {body:V→α→Fl→α→Prop} {m k:Nat} {a a1 a':α} {v:V} {f fl:Fl} (h:nth a k=some (some v)) (hb:body v a f a1) (hr:After (Lp nth body m (k+1)) f a1 fl a'):Lp nth body (m+1) k a fl a':=.inr (xi3 v f a1 ⟨h,hb,hr⟩)
theorem Lp_run {α:Type} {nth:α→Nat→Option (Option V)} {body:V→α→Fl→α→Prop} {xs:List V} (I:Nat→α→Prop) (R:Fl→α→Prop) (hn:∀ k a,I k a→nth a k=some xs[k]?)
  (step:∀ k v a,xs[k]?=some v→I k a→∃ fl a',body v a fl a'∧(((fl=.next∨fl=.cont)∧I (k+1) a')∨(fl=.brk∧R .next a')∨(∃ w,fl=.ret w∧R (.ret w) a')))
  (fin:∀ a,I xs.length a→R .next a):∀ (m k:Nat) (a:α),m+k=xs.length→I k a→∃ fl a',Lp nth body m k a fl a'∧R fl a':=by
 intro m
 induction m with
 |zero=>
  intro k a hk hI;obtain rfl:k=xs.length:=by omega
  exact (xi2 .next a ⟨Lp_end ((hn _ _ hI).trans (congrArg some (List.getElem?_eq_none (Nat.le_refl _)))),fin a hI⟩)
 |succ m ih=>
  intro k a hk hI;have hlt:k<xs.length:=by omega
  have e0:xs[k]?=some xs[k]:=Qv hlt;have e1:=(hn _ _ hI).trans (congrArg some e0);refine nb fun kk=>?_;refine e22 (step k xs[k] a e0 hI) fun fl a1 h1 h2=>?_;refine kk ?_;rcases h2 with ⟨h2,h3⟩|⟨rfl,h3⟩|⟨w,rfl,h3⟩
  ·obtain ⟨fl2,a2,h4,h5⟩:=ih (k+1) a1 (by omega) h3;refine (xi2 fl2 a2 ⟨Lp_item e1 h1 ?_,h5⟩);rcases h2 with rfl|rfl
   ·exact h4
   ·exact h4
  ·exact (xi2 .next a1 ⟨Lp_item e1 h1 ⟨rfl,rfl⟩,h3⟩)
  ·exact (xi2 (.ret w) a1 ⟨Lp_item e1 h1 ⟨rfl,rfl⟩,h3⟩)
@[reducible] def Turn (I:Nat→Rho→St→Prop) (Q:Fl→Rho→St→Prop) (k:Nat):Fl→Rho→St→Prop
 |.next,ρ,σ=>I (k+1) ρ σ
 |.cont,ρ,σ=>I (k+1) ρ σ
 |.brk,ρ,σ=>Q .next ρ σ
 |.ret w,ρ,σ=>Q (.ret w) ρ σ
theorem go_ForI {t e:Expr} {b:List Stmt} {xs:List V} {it:It} (I:Nat→Rho→St→Prop) (htg:tgtOk e t=true) (hi:itr C n sc lo e ρ σ it σ1) (items:∀ k ρ σ,I k ρ σ→it.nth σ k=some xs[k]?)
  (h0:I 0 ρ σ1) (step:∀ k v ρ σ,xs[k]?=some v→I k ρ σ→∃ ρ1,bindT sc t v ρ=some ρ1∧Go (exs C n sc lo b ρ1 σ) (Turn I Q k)) (fin:∀ ρ σ,I xs.length ρ σ→Q .next ρ σ):Go (ex C (n+1) sc lo (.For t e b [] p) ρ σ) Q:=by
 refine nb fun kk=>?_;obtain ⟨fl,⟨ρ',σ'⟩,h1,h2⟩:=Lp_run (α:=Rho×St) (xs:=xs) (nth:=forNth it) (body:=forBody sc t fun ρ σ fl ρ' σ'=>exs C n sc lo b ρ σ fl ρ' σ') (fun k a=>I k a.1 a.2) (fun fl a=>Q fl a.1 a.2) (fun k a h=>items k a.1 a.2 h) (fun k v a hv hI=>by
   refine e12 (step k v a.1 a.2 hv hI) fun ρ1 hb qz=>?_;obtain ⟨fl,ρ',σ',h1,h2⟩:=qz;refine (xi2 fl (ρ',σ') ⟨⟨ρ1,hb,h1⟩,?_⟩);cases fl with
   |next=>exact .inl ⟨.inl rfl,h2⟩
   |cont=>exact .inl ⟨.inr rfl,h2⟩
   |brk=>exact .inr (.inl ⟨rfl,h2⟩)
   |ret w=>exact .inr (.inr ⟨w,rfl,h2⟩)) (fun a hI=>fin a.1 a.2 hI) xs.length 0 (ρ,σ1) rfl h0
 refine kk ?_;exact ⟨fl,ρ',σ',fun X H _ _ hw hA hs=>for_ok (X.g H).mono (X.g H).tabs hA.2.2 hw (ok_fold hi.1) (hi.2 X H htg hA.d) (fun h=>h X H hw hA.d hs) h1,h2⟩
theorem go_For {t e:Expr} {b:List Stmt} {xs:List V} (I:Nat→Rho→St→Prop) (htg:tgtOk e t=true) (hi:itr C n sc lo e ρ σ (.fix xs) σ1)
  (h0:I 0 ρ σ1) (step:∀ k v ρ σ,xs[k]?=some v→I k ρ σ→∃ ρ1,bindT sc t v ρ=some ρ1∧Go (exs C n sc lo b ρ1 σ) (Turn I Q k)) (fin:∀ ρ σ,I xs.length ρ σ→Q .next ρ σ):Go (ex C (n+1) sc lo (.For t e b [] p) ρ σ) Q:=go_ForI I htg hi (fun o_ o_ o_ o_=>rfl) h0 step fin
end rules
section comps
variable {C:Cfg} {n:Nat} {sc:Scope} {lo:Nat} {elt:Expr} {g:Comprehension} {gs:List Comprehension} {it:It} {ρ:Rho} {acc acc':List V} {σ σ':St}
noncomputable def compNth (it:It) (a:List V×St) (k:Nat):Option (Option V):=it.nth a.2 k
noncomputable def cEnd (C:Cfg) (n:Nat) (sc:Scope) (lo:Nat) (elt:Expr) (gs:List Comprehension) (ρ:Rho) (acc:List V) (σ:St) (acc':List V) (σ':St):Prop:=match gs with
 |[]=>∃ y,ev C n sc lo elt ρ σ y σ'∧acc.length<4096∧acc'=acc++[y]
 |g'::gs=>∃ it σ1,itr C n sc lo g'.iter ρ σ it σ1∧comp C n sc lo elt g' gs it ρ acc σ1 acc' σ'
noncomputable def compBody (C:Cfg) (n:Nat) (sc:Scope) (lo:Nat) (elt:Expr) (g:Comprehension) (gs:List Comprehension) (ρ:Rho) (v:V) (a:List V×St) (fl:Fl) (a':List V×St):Prop:=
 fl=.next∧∃ ρ2 ok σ2,bindT sc g.target v ρ=some ρ2∧tsts C n sc lo .And g.ifs ρ2 a.2 ok σ2∧(ok=false→a'=(a.1,σ2))∧(ok=true→cEnd C n sc lo elt gs ρ2 a.1 σ2 a'.1 a'.2)
noncomputable def CInv (C:Cfg) (K:Cst) (T:Heap→Prop) (n:Nat) (sc:Scope) (lo:Nat) (elt:Expr) (g:Comprehension) (gs:List Comprehension) (it:It) (ρ:Rho) (acc':List V) (σ':St) (env:Env) (D:Addr) (R:Nat→List Addr→Shared→Prop) (ι0:List Addr) (s0:Shared) (m:Nat) (s':Shared):Prop:=
 ∃ k acc₁ σ₁ ι' items' n',Lp (compNth it) (compBody C n sc lo elt g gs ρ) m k (acc₁,σ₁) .next (acc',σ')∧NxS K T lo (OwnD env sc D) σ₁ ι0 ι' s0 s'∧FrOk K ι' s'.heap env sc ρ∧R k ι' s'∧
  s'.heap.get? D=some (lstObj items' n')∧D∉ι'∧RVs K.hid ι' s'.heap items'.toList acc₁
theorem comp_go (X:Ctx C) (H:List Addr) {m:Nat} (ha:g.is_async=0) (htn:((tnames g.target).all fun x=>(ρ.lookup x).isNone)=true) (e':Lp (compNth it) (compBody C n sc lo elt g gs ρ) m 0 (acc,σ) .next (acc',σ')) {A:Around} (hA':Ok A n):
  CompGood X.prog X.w (X.k H) X.T sc lo elt g gs it ρ acc σ acc' σ' A:=by
 refine nb fun kk=>?_;obtain ⟨prog,w,K0,T,mg,mb,G,Pr⟩:=X;refine kk ?_;intro hw env ι s s0 ι0 gens scope pos depth D items n0 itv fp gp R Rr hg hgs F N It R0 hL hDf hfp hgp hD hacc hDi hDh hDN h;have hT:Mono (K0.withH H) T:=G.mono;have ht:∀ b∈(K0.withH H).tabs,b<(K0.withH H).N0:=G.tabs;refine comp_loop (CInv C (K0.withH H) T n sc lo elt g gs it ρ acc' σ' env D R ι0 s0) ?_ m ⟨0,acc,σ,ι,items,n0,e',N,F,R0,hD,hDi,hacc⟩;refine nb fun kk=>?_;refine e14 (turn_core (prog:=prog) (w:=w) (A:=A) (elt:=elt) (scope:=scope) (pos:=pos) (itv:=itv) (acc:=.ref D) (env:=env) hg ha) fun tail t1 t2 t3 t4=>?_;refine kk ?_;rintro m s' Q E hdone hagain ⟨k,acc₁,σ₁,ι',items',n',e3,N',F',R',hD',hDi',hacc'⟩;refine iLp e3 (fun hn o_ e4=>?_) fun x m' f a' hm hn e4 e5=>?_
 ·cases e4;have fo:=It.fpok R';refine t1 Q E s' (Wj (It.fin (Q:=fun s2=>Q (.done .next) s2) (E:=E) hn R' N'.inn fun s2 q=>?_) (fun o_ o_ z=>.inl z) fun o_ o_ x=>x);refine e02 (step_of hT hfp hgp fo hL N' F' q) fun N2 F2=>?_;exact hdone _ (h s2 ι' items' n' N2 F2 (q.only D _ hDf hD') hDi' (hacc'.calm (q.calm fo)))
 ·subst hm;refine nb fun kk=>?_;obtain ⟨hfl,ρ₂,ok,σ₂,hb,hf,q1,q2⟩:=e4;refine kk ?_;subst hfl;have hsub:=bindT_sub hb htn;have cont:∀ {s2 s5:Shared} {ι5:List Addr} {σ₃:St} {acc₂:List V} {items5:Array Value} {n5:Nat},NxS (K0.withH H) T lo (OwnD env sc D) σ₁ ι0 ι' s0 s2→FrOk (K0.withH H) ι' s2.heap env sc ρ→R (k+1) ι' s2→s2.heap.get? D=some (lstObj items' n')→NxS (K0.withH H) T lo (OwnD env sc D) σ₃ ι' ι5 s2 s5→FrOk (K0.withH H) ι5 s5.heap env sc ρ→s5.heap.get? D=some (lstObj items5 n5)→RVs (K0.withH H).hid ι5 s5.heap items5.toList acc₂→
    Lp (compNth it) (compBody C n sc lo elt g gs ρ) m' (k+1) (acc₂,σ₃) .next (acc',σ')→Q (.again (.compLoop (.ListComp elt gens scope pos) depth itv (.ref D) env)) s5:=by
   intro s2 s5 ι5 σ₃ acc₂ items5 n5 N2 F2 R2 hD2 M5 F5 hD5 hacc5 el;refine hagain m' s5 (Nat.lt_succ_self _) ⟨k+1,acc₂,σ₃,ι5,items5,n5,el,N2.trans M5,F5,It.stable R2 (fun z=>absurd z (Nat.succ_ne_zero _)) (stbD_of ht M5 F2 (It.fpok R2) hL hDf hDh (xi2 _ _ hD2)),hD5,?_,hacc5⟩;refine e12 (M5.pre) fun news qz1 hnn=>?_;obtain rfl:=qz1;intro hm;rcases Wx hm with hm|hm
   ·exact hDi' hm
   ·rw [hnn D hm] at hD2;cases hD2
  refine t1 Q E s' (Wj (item_ok (E:=E) (P:=fun ok s₄=>wpAny (model prog w) A (tail ok) Q E s₄) hT hw hA'.2.2 hb (((hf ⟨prog,w,K0,T,mg,mb,G,Pr⟩ H hA').2 rfl)) hsub It hn R' hL hDf hfp hgp N' F' hDh hD' hDi' hacc' fun s2 s4 ι4 N2 F2 R2 hD2 M4 F4 hD4 hDi4 acc4=>?_) (fun o_ o_ z=>.inr z) fun o_ o_ x=>x);cases ok with
  |false=>
   cases q1 rfl;exact wpAny_of_eq t2 (cont N2 F2 R2 hD2 M4 (F4.sub hsub) hD4 acc4 e5)
  |true=>
   have hk:=q2 rfl;clear q1 q2;obtain ⟨acc₂,σ₃⟩:=a';have e5:Lp (compNth it) (compBody C n sc lo elt g gs ρ) m' (k+1) (acc₂,σ₃) .next (acc',σ'):=e5;cases gs with
   |nil=>
    obtain ⟨y,e6,hlen,e7⟩:=hk;dsimp only at e7;subst e7;refine t3 (List.getElem?_eq_none (by simpa using hgs)) Q E s4 (e6.2.1 ⟨prog,w,K0,T,mg,mb,G,Pr⟩ H hA' F4 M4.inn fun rv5 s5 ι5 N5 r5=>?_);have hD5:s5.heap.get? D=some (lstObj items' n'):=(N5.grow.keep D _ hDi4 hD4).get (nf_lst _ _);have acc5:=acc4.grow N5.grow;refine append_ok hD5 (by rw [acc5.size];exact Qy (Wq hlen) (by decide)) ?_;refine nb fun kk=>?_;refine e12 (update_lst hD5 (·.push rv5)) fun n6 g1 g2=>?_;refine kk ?_;have only:∀ b o,b≠D→s5.heap.get? b=some o→(s5.heap.update D (Obj.mapSeq (·.push rv5))).get? b=some o:=fun b o hb e=>(g2.2 b hb).trans e;have M6:NxS (K0.withH H) T lo (OwnD env sc D) σ₃ ι5 ι5 s5 { s5 with heap:=s5.heap.update D (Obj.mapSeq (·.push rv5)) }:=by
     refine ⟨⟨[],by simp,by simp⟩,fun b o o_ hb e=>.inl (only b o (fun z=>hb (.inr z)) e),fun b o e=>?_,hd_inn hD5 hDh only hT hDN (N5.grow.not_mem hDi4 hD4) N5.inn rfl ⟨_,g1⟩,rfl,fun o_ o_ e=>e⟩
     by_cases z:b=D
     ·rw [z];exact ⟨_,g1⟩
     ·exact ⟨o,only b o z e⟩
    have cm:=hd_calm (K:=K0.withH H) (ι:=ι5) (s':={ s5 with heap:=s5.heap.update D (Obj.mapSeq (·.push rv5)) }) hD5 hDh only;refine cont N2 F2 R2 hD2 (M4.trans ((N5.toS).trans M6)) ((hd_fr hD5 hDh only (F4.grow N5.grow)).sub hsub) g1 ?_ e5;rw [Array.toList_push];exact (acc5.calm cm).append (.cons (r5.calm cm) .nil)
   |cons g' gs'=>
    have hlt:depth+1<gens.length:=Nat.lt_of_not_le fun q=>by rw [List.drop_of_length_le q] at hgs;cases hgs
    rw [List.drop_eq_getElem_cons hlt] at hgs;injection hgs with hg2 hg3
    have hnext:gens[depth+1]?=some g':=by rw [Qv hlt,hg2]
    obtain ⟨it5,σ₄,e7,e6⟩:=hk;obtain ⟨⟨hasy,htg,_⟩,e6⟩:=e6;refine t4 g' hnext hasy (ok_fold e7.1) Q E s4 (e7.2 ⟨prog,w,K0,T,mg,mb,G,Pr⟩ H htg hA' F4 M4.inn fun itv5 s5 ι5 fp5 gp5 RH5 N5 It5 R5 o_ hfp5 hgp5 R' hR'=>?_);have hD5:s5.heap.get? D=some (lstObj items' n'):=(N5.grow.keep D _ hDi4 hD4).get (nf_lst _ _);have inner:codeAny (model prog w) A (.compLoop (.ListComp elt gens scope pos) (depth+1) itv5 (.ref D) env) R' s5:=
     e6 ⟨prog,w,K0,T,mg,mb,G,Pr⟩ H hA' hw hnext hg3 (F4.grow N5.grow) (N5.toS) (It5 (K0.withH H).hid) R5 (fun z=>by
      refine e12 (F4.ns) fun m2 qz1 o_=>?_;obtain ⟨o2,es,ep,ho2,_⟩:=qz1;rw [hfp5 _ z] at ho2;cases ho2) (fun z=>by rw [hfp5 _ z] at hD4;cases hD4) hfp5 hgp5 hD5 (acc4.grow N5.grow) (N5.grow.not_mem hDi4 hD4) hDh hDN fun s6 ι6 items6 n6 M6 F6 hD6 hDi6 acc6=>hR' _ (cont N2 F2 R2 hD2 (M4.trans M6) (F6.sub hsub) hD6 acc6 e5)
    exact compStart_go hnext hasy inner ((It5 (K0.withH H).hid).again R5 inner)
theorem ev_Comp {elt:Expr} {g:Comprehension} {gs:List Comprehension} {s:Scope} {it:It} {vs:List V} {σ1 σ2:St} {p:Pos} {keep:Bool} {v:V} (hok:(okSc s&&okFree sc s)=true) (h1:itr C n sc lo g.iter ρ σ it σ1)
  (h2:comp C n s lo elt g gs it (ρ.filter fun x=>kindIn s x.1==some .free) [] σ1 vs σ2) (hm:(if keep then (V.ref σ2.length,σ2++[HO.lst vs]) else (V.fro vs,σ2))=(v,σ')):ev C (n+1) sc lo (.ListComp elt (g::gs) s p) ρ σ v σ':=by
 have lc:∀ (X:Ctx C) (H:List Addr) {A:Around} {env:Env},Ok A n→LcOk X.prog X.w (X.k H) X.T sc lo elt g gs s ρ σ σ1 σ2 it vs A env keep v σ':=fun X H _ _ hA=>⟨and_l hok,and_r hok,h2.1.1,h2.1.2.2,ok_fold h1.1,h1.2 X H h2.1.2.1 hA,fun D=>h2.2 X (D::H) hA,hm⟩
 exact ⟨rfl,fun X H _ _ hA=>lc_ok (X.g H).mono (X.g H).tabs (lc X H hA.d),fun _ X H _ _ _ _ _ _ _ _ _ hA hw hb F I k=>lc_assign (X.g H).mono (X.g H).tabs (lc X H hA.d) hb hw hA.2.2 F I k⟩
theorem ev_CompF {elt:Expr} {g:Comprehension} {gs:List Comprehension} {s:Scope} {it:It} {vs:List V} {σ1 σ2:St} {p:Pos} (hok:(okSc s&&okFree sc s)=true) (hk:C.keep p=false) (h1:itr C n sc lo g.iter ρ σ it σ1)
  (h2:comp C n s lo elt g gs it (ρ.filter fun x=>kindIn s x.1==some .free) [] σ1 vs σ2):ev C (n+1) sc lo (.ListComp elt (g::gs) s p) ρ σ (.fro vs) σ2:=ev_Comp (keep:=false) hok h1 h2 rfl
theorem ev_CompT {elt:Expr} {g:Comprehension} {gs:List Comprehension} {s:Scope} {it:It} {vs:List V} {σ1 σ2:St} {p:Pos} (hok:(okSc s&&okFree sc s)=true) (hk:C.keep p=true) (h1:itr C n sc lo g.iter ρ σ it σ1)
  (h2:comp C n s lo elt g gs it (ρ.filter fun x=>kindIn s x.1==some .free) [] σ1 vs σ2):ev C (n+1) sc lo (.ListComp elt (g::gs) s p) ρ σ (.ref σ2.length) (σ2++[HO.lst vs]):=ev_Comp (keep:=true) hok h1 h2 rfl
theorem comp_all {α:Type} (g:α→V) (ys:List α) (F:List α→List V) {t iter elt:Expr} {ifs:List Expr} {gs:List Comprehension} {s:Scope} (hc:compOk t iter ρ) (h0:F []=[])
  (h:∀ k y,ys[k]?=some y→∃ ρ1 b,bindT s t (g y) ρ=some ρ1∧tsts C n s lo .And ifs ρ1 σ b σ∧(b=false→F (ys.take (k+1))=F (ys.take k))∧(b=true→cEnd C n s lo elt gs ρ1 (acc++F (ys.take k)) σ (acc++F (ys.take (k+1))) σ)):
  comp C (n+1) s lo elt ⟨t,iter,ifs,0⟩ gs (.fix (ys.map g)) ρ acc σ (acc++F ys) σ:=by
 refine nb fun kk=>?_;obtain ⟨hc1,hc2⟩:=hc;refine kk ?_;refine ⟨⟨rfl,and_l hc1,and_r hc1⟩,fun X H A hA=>?_⟩;refine nb fun kk=>?_;obtain ⟨fl,a',h1,rfl,rfl⟩:=Lp_run (nth:=compNth (.fix (ys.map g))) (body:=compBody C n s lo elt ⟨t,iter,ifs,0⟩ gs ρ) (xs:=ys.map g) (fun k a=>a=(acc++F (ys.take k),σ)) (fun fl a=>fl=.next∧a=(acc++F ys,σ)) (fun o_ o_ o_=>rfl) (fun k v a hv hI=>by
  subst hI;rw [Qb,Option.map_eq_some_iff] at hv;refine e12 (hv) fun y hy qz2=>?_;obtain rfl:=qz2;refine e24 (h k y hy) fun ρ1 b e1 e2 e3 e4=>?_;exact (xi2 .next ((acc++F (ys.take (k+1)),σ)) ⟨⟨rfl,ρ1,b,σ,e1,e2,fun z=>by rw [e3 z],e4⟩,.inl ⟨.inl rfl,rfl⟩⟩)) (fun a hI=>⟨rfl,by rw [hI,Qx,List.take_length]⟩) (ys.map g).length 0 (acc,σ) rfl (by rw [List.take_zero,h0,List.append_nil])
 refine kk ?_;exact comp_go X H rfl (List.all_eq_true.mpr fun x hx=>by rw [hc2 x hx];rfl) h1 hA.d
theorem comp_last {α:Type} (g:α→V) (ys:List α) (b:α→Bool) (f:α→V) {t iter elt:Expr} {ifs:List Expr} {s:Scope} (hc:compOk t iter ρ) (hl:acc.length+ys.length≤4096)
  (h:∀ y∈ys,∃ ρ1,bindT s t (g y) ρ=some ρ1∧tsts C n s lo .And ifs ρ1 σ (b y) σ∧(b y=true→ev C n s lo elt ρ1 σ (f y) σ)):
  comp C (n+1) s lo elt ⟨t,iter,ifs,0⟩ [] (.fix (ys.map g)) ρ acc σ (acc++(ys.filter b).map f) σ:=comp_all g ys (fun l=>(l.filter b).map f) hc rfl fun k y hy=>by
 refine nb fun kk=>?_;refine e13 (h y (List.mem_of_getElem? hy)) fun ρ1 e1 e2 e3=>?_;refine kk ?_;have htk:ys.take (k+1)=ys.take k++[y]:=by rw [List.take_add_one,hy];rfl
 refine (xi2 ρ1 (b y) ⟨e1,e2,fun z=>?_,fun z=>⟨f y,e3 z,?_,?_⟩⟩)
 ·rw [htk,List.filter_append,List.filter_cons_of_neg (by rw [z];decide),List.filter_nil,List.append_nil]
 ·have h1:=List.length_filter_le b (ys.take k);have h2:(ys.take k).length≤k:=by rw [List.length_take];exact Nat.min_le_left _ _
  have hk:k<ys.length:=(Qz hy).1;rw [Qu,Qx];exact Qh (Nat.add_lt_add_left (Nat.lt_of_le_of_lt (Qy h1 h2) hk) _) hl
 ·rw [htk,List.filter_append,List.filter_cons_of_pos (by rw [z]),List.filter_nil,List.map_append,←List.append_assoc];rfl
end comps
end
section
variable {prog:Program} {w:World} {C:Cfg} {K:Cst} {T:Heap→Prop} {mg mb:Str→Option Value} {Kf:Frag}
noncomputable def accObj (c d:Addr) (items:Array Value) (n:Nat) (sl:Array (Option Value)):Obj:={ cls:=.ref c,dict:=some d,data:=.seq items n,slots:=sl }
section
variable {A:Around} {E:Value→Shared→Prop} {s:Shared} {c a d:Addr} {items:Array Value} {n:Nat} {sl:Array (Option Value)} {Q:Value→Shared→Prop}
theorem check_meth {M:Model} {i owner n:String} {self:Value} {rest:List Value} {kw:List (Str×Value)} {Q:Unit→Shared→Prop}
  (hk:builtinKind i=some .method) (hs:splitId i=some (owner,n)) (hi:Looks M s.heap (isInstance self (.type owner)) true) (ha:argsOk i ⟨self::rest,kw⟩) (q:Q () s):
  wpAny M A (checkBuiltinCall i ⟨self::rest,kw⟩) Q E s:=by
 delta checkBuiltinCall
 generalize hp:builtinKind i=p,hq:splitId i=z;obtain rfl:=hp.symm.trans hk;obtain rfl:=hq.symm.trans hs;refine Qq (hi.here (wF rfl ?_));unfold argsOk at ha;generalize Manifest.signature? i=sg at ha⊢;cases sg with
 |none=>exact Qf q
 |some sig=>exact wpAny_of_eq ha q
theorem call_sub {id owner n:String} {b:Builtin} {self:Value} {rest:List Value} (hk:builtinKind id=some .slot∨builtinKind id=some .method) (hs:splitId id=some (owner,n)) (hp:plainId id=true) (he:entryFor table id=some b)
  (hi:Looks (model prog w) s.heap (isInstance self (.type owner)) true) (ha:argsOk id ⟨self::rest,[]⟩) (hc:wpAny (model prog w) A.in1 (b ⟨self::rest,[]⟩) (fun fin s'=>∃ v,fin=.done (.ret v)∧Q v s') E s):
  wpAny (model prog w) A (PySem.call (.builtin id) (self::rest)) Q E s:=by
 have key:wpAny (model prog w) A.in1 (b ⟨self::rest,[]⟩) (fun fin s'=>match fin with|.done f=>wants Q E (.ok f) s'|.again c'=>c'.quiet=true∧codeAny (model prog w) A c' (wants Q E) s') (fun e s'=>wants Q E (.error e) s') s:=by
  refine Wj hc (fun fin s' h'=>?_) fun o_ o_ h'=>h';obtain ⟨v,rfl,hv⟩:=h';exact hv
 refine wpAny_call (codeAny_call_builtin hp he ?_);rcases hk with hk|hk
 ·exact check_slot hk hs hi ha key
 ·exact check_meth hk hs hi ha key
theorem inst_list {Kf:Frag} (X:Kf.In s.heap) (ho:s.heap.get? a=some (accObj c d items n sl)) (hl:mroIn Kf c (.type "list")=some true):Looks (model prog w) s.heap (isInstance (.ref a) (.type "list")) true:=
 ((Looks.ld ho).andThen (Looks.now (a:=Value.ref c))).andThen (looks_mroIn X hl)
theorem acc_append {v:Value} (X:Kf.In s.heap) (ho:s.heap.get? a=some (accObj c d items n sl)) (hl:mroIn Kf c (.type "list")=some true) (hsz:items.size≤sizeLine)
  (h:Q .none { s with heap:=s.heap.update a (Obj.mapSeq (·.push v)) }):wpAny (model prog w) A (PySem.call (.builtin "list.append") [.ref a,v]) Q E s:=by
 refine call_sub (owner:="list") (n:="append") (.inr (by decide +kernel)) (by decide +kernel) (by decide +kernel) entry_list_append (inst_list X ho hl) (args_list_append _ _) ?_;show wpAny _ _ (updateSeq a (·.push v) >>=fun o_=>ret .none) _ _ s;exact Qq (wpAny_updateSeq ho rfl (Qf ⟨.none,rfl,h⟩) hsz (by rw [Array.size_push];exact Nat.succ_le_succ hsz))
end
theorem looks_special {M:Model} {h:Heap} {v t:Value} {name:Str} {r:Option Value} (x:Looks M h (typeOf v) t) (y:Looks M h (typeLookup t name) r):Looks M h (specialOf v name) r:=x.andThen y
theorem looks_ifBound {M:Model} {h:Heap} {v t f:Value} {name:Str} {r:Value×List Value} (x:Looks M h (typeOf v) t) (y:Looks M h (typeLookup t name) (some f)) (z:Looks M h (bindSpecial f v) r):Looks M h (bindSpecialIfBound? v name) (some r):=by
 intro A Q E s k q;unfold bindSpecialIfBound?;refine Qq (looks_special x y A _ E s k ?_);obtain key:∀ (E':Value→Shared→Prop),wpAny M A (do return some (←bindSpecial f v)) Q E' s:=fun E'=>Qq (z A _ E' s k (Qf q));refine nb fun kk=>?_;obtain ⟨hp,g,dd,tk,os⟩:=s;refine kk ?_
 repeat (first|with_reducible refine Qf ?_|lk)
 split
 ·exact key _
 ·exact wpAny_tryCatch (key _)
section
variable {A:Around} {E:Value→Shared→Prop} {s:Shared} {c a d:Addr} {items:Array Value} {n:Nat} {sl:Array (Option Value)} {Q:Value→Shared→Prop}
theorem acc_type (ho:s.heap.get? a=some (accObj c d items n sl)):Looks (model prog w) s.heap (typeOf (.ref a)) (.ref c):=(Looks.ld ho).andThen .now
theorem acc_iter (X:Kf.In s.heap) (ho:s.heap.get? a=some (accObj c d items n sl)) (hl:mroIn Kf c (.type "list")=some true) (hi:findIn Kf (.ref c) "__iter__"=some (some (.builtin "list.__iter__")))
  (h:Q (.ref s.heap.objs.size) { s with heap:=s.heap.push { cls:=.type "list_iterator",data:=.fields #[.ref a,.int 0 0] } }):wpAny (model prog w) A (pyIter (.ref a)) Q E s:=by
 obtain t1:=acc_type (prog:=prog) (w:=w) ho;obtain i1:=looks_findIn (M:=model prog w) X hi;obtain b1:Looks (model prog w) s.heap (bindSpecial (.builtin "list.__iter__") (.ref a)) (.builtin "list.__iter__",[.ref a]):=Looks.of_pure (slot_list_iter.bind _);unfold pyIter;refine Qq ((looks_special t1 i1).here ?_);dsimp only;unfold callSpecialIfBoundUnlessNone?;refine Qq (wpAny_holding (Qq ((looks_ifBound t1 i1 b1).here ?_)));dsimp only;rw [if_neg (by decide)];refine Qq ?_;refine call_sub (owner:="list") (n:="__iter__") (.inl (by decide +kernel)) (by decide +kernel) (by decide +kernel) entry_list_iter (inst_list X ho hl) (args_list_iter _) ?_;refine nb fun kk=>?_;obtain ⟨hp,g,dd,tk,os⟩:=s;refine kk ?_;unfold Builtin.«list.__iter__»
 wp_walk
 refine ⟨_,rfl,Qf ?_⟩;exact Qq (wpAny_specialOf (T:="list_iterator") ⟨_,Heap.get?_push_size _ rfl,rfl⟩ slot_listiter_next.lookup (Qf h))
end
theorem acc_at {ι:List Addr} {σ:St} {s:Shared} {i:Nat} {a:Addr} {k:Int} {xs:List V} {G:Prop} (I:In0 K T ι σ s) (hi:ι[i]?=some a) (hσ:σ[i]?=some (.acc k xs))
  (j:∀ (items:Array Value) n d m t sl,s.heap.get? a=some (accObj K.acc d items n sl)→d∉ι→s.heap.Ns d m→(m ("_initial_size":Str)=some (.int k t)∧∀ y,(y==("_initial_size":Str))=false→m y=none)→(∃ o,s.heap.get? d=some o∧o.cls=.type "dict")→RVs K.hid ι s.heap items.toList xs→G):G:=by
 obtain ⟨a',ha,hr⟩:=I.rel.obj i _ hσ;obtain rfl:=Qw (hi.symm.trans ha);cases hr with
 |acc ho hd hn hkk ht' hrs=>exact j _ _ _ _ _ _ ho hd hn hkk ht' hrs
@[reducible] noncomputable def AccTop (K:Cst) (T:Heap→Prop) (Kf:Frag):Prop:=(∀ {h},T h→Kf.In h)∧(mroIn Kf K.acc (.type "list")=some true)∧(∃ i,findIn Kf (.ref K.acc) "__getattribute__"=some (some (.builtin i))∧Manifest.canonical i="object.__getattribute__")∧(findIn Kf (.ref K.acc) "__getattr__"=some none)∧(findIn Kf (.ref K.acc) "__iter__"=some (some (.builtin "list.__iter__")))∧((seqItemTypes.all fun n=>subIn Kf (.ref K.acc) (.type n)==some false)=true)
section
variable {K:Cst} {T:Heap→Prop} {Kf:Frag} (h:AccTop K T Kf)
include h
theorem AccTop.inn:∀ {h},T h→Kf.In h:=h.1
theorem AccTop.list:mroIn Kf K.acc (.type "list")=some true:=h.2.1
theorem AccTop.ga:∃ i,findIn Kf (.ref K.acc) "__getattribute__"=some (some (.builtin i))∧Manifest.canonical i="object.__getattribute__":=h.2.2.1
theorem AccTop.noga:findIn Kf (.ref K.acc) "__getattr__"=some none:=h.2.2.2.1
theorem AccTop.iter:findIn Kf (.ref K.acc) "__iter__"=some (some (.builtin "list.__iter__")):=h.2.2.2.2.1
theorem AccTop.noseq:(seqItemTypes.all fun n=>subIn Kf (.ref K.acc) (.type n)==some false)=true:=h.2.2.2.2.2
end
theorem AccTop.withH (X:AccTop K T Kf) (H:List Addr):AccTop (K.withH H) T Kf:=⟨X.inn,X.list,X.ga,X.noga,X.iter,X.noseq⟩
theorem acc_method {A:Around} {E:Value→Shared→Prop} {s:Shared} {a d:Addr} {items:Array Value} {n:Nat} {sl:Array (Option Value)} {m:Str→Option Value} {name:Str} {fv t:Value} {pl:Sem Bool} {Q:Value×List Value→Shared→Prop} (X:AccTop K T Kf) (hT:T s.heap)
  (ho:s.heap.get? a=some (accObj K.acc d items n sl)) (hns:s.heap.Ns d m) (hm:m name=none) (hf:findIn Kf (.ref K.acc) name=some (some fv)) (ht:typeIn Kf fv=some t) (hk:t=.type "function"∨t=.type "method_descriptor") (h:Q (fv,[.ref a]) s):
  wpAny (model prog w) A (getMethod (.ref a) name pl) Q E s:=by
 obtain Y:=X.inn hT;obtain t1:=acc_type (prog:=prog) (w:=w) ho;refine nb fun kk=>?_;refine e12 (X.ga) fun i hga hcan=>?_;refine kk ?_;unfold getMethod;refine Qq ((looks_special t1 (looks_findIn Y hga)).here ?_);dsimp only;rw [hcan,if_neg (by decide)];refine Qq ((looks_special t1 (looks_findIn Y X.noga)).here ?_);refine Qq ((looks_special t1 (looks_findIn Y hf)).here (Qq ((looks_typeIn Y ht).here ?_)));rw [if_neg (by rcases hk with rfl|rfl<;>decide +kernel)];refine Qq (wpAny_loadPart ho ?_);show wpAny _ _ (nsGet d name >>=_) _ _ _;refine Qq (wpAny_nsGet hns ?_);rw [hm];exact Qq (wpAny_rule (Qf h))
set_option tactic.hygienic true in
theorem iTag2 {σ:St} {k:V} {G:Prop} (h:tagV σ k=some 2) (j:∀ i s xs,k=.ref i→σ[i]?=some (.acc s xs)→G):G:=by
 cases k with
 |ref i=>
  have h:(match σ[i]? with
   |some (.lst _)=>some 0
   |some (.acc ..)=>some 2
   |none=>none)=some 2:=h
  refine (?_:∀ o,σ[i]?=o→(match o with
   |some (.lst _)=>some 0
   |some (.acc ..)=>some 2
   |none=>none)=some 2→G) _ rfl h
  intro o q h;cases o with
  |none=>cases h
  |some o=>cases o with
   |lst xs=>cases h
   |acc s xs=>exact j i s xs rfl q
 |_=>cases h
theorem acc_road {sc:Scope} {lo:Nat} {o:Expr} {name:Str} {apos pos:Pos} {args:List Expr} {ρ:Rho} {σ σ1 σ2:St} {k:V} {vs:List V} (X:AccTop K T Kf) {A:Around} {env:Env}
  (e1:SGood prog w K T lo σ σ1 k A env sc ρ (eval o env)) (hk:tagV σ1 k=some 2) (e2:LGood prog w K T lo σ1 σ2 vs A env sc ρ args) (hok:methOk o apos pos args=true) {f:Addr} {ob:Obj} {fd:FuncData} (hf:findIn Kf (.ref K.acc) name=some (some (.ref f))) (ht:typeIn Kf (.ref f)=some (.type "function"))
  (hname:(name==("_initial_size":Str))=false) (hob:∀ {h},T h→h.get? f=some ob) (hfd:ob.data=.func fd)
  {ι:List Addr} {s:Shared} {Q:Value→Shared→Prop} {E:Value→Shared→Prop}
  (F:FrOk K ι s.heap env sc ρ) (I:In0 K T ι σ s) (h:∀ i a rvs s2 ι2,k=.ref i→ι2[i]?=some a→Nx K T lo σ2 ι ι2 s s2→RVs K.hid ι2 s2.heap rvs vs→wpAny (model prog w) A (PySem.call (.ref f) (.ref a::rvs)) Q E s2):wpAny (model prog w) A (eval (.Call (.Attribute o name apos) args [] pos) env) Q E s:=by
 refine nb fun kk=>?_;refine e03 (base_plain (name:=name) (env:=env) hok) fun b1 b2 b3=>?_;refine kk ?_;obtain hform:methodCallForm (args.length+([]:List Keyword).length) (backTo pos (starEach args env)) (backToKw pos (keywordEach [] env))=true:=few_args e2 b3;obtain hpos:methodCallPos true o env apos pos=pure pos:=by unfold methodCallPos;simp -iota [b2]
 rw [arm_eval_Call,b1];refine Qq (e1 F I fun rv s1 ι1 N1 r1=>?_);refine Qq (wpAny_standAt ?_);unfold methodCall;rw [hform];refine iTag2 hk fun i k0 xs qk hj=>?_;subst qk;refine rvRef r1 fun a qa hi=>acc_at N1.inn hi hj fun _ _ _ _ _ _ ho hd hn hk ht' hrs=>?_;subst qa;refine Qq (wpAny_holding (acc_method X N1.inn.top ho hn (hk.2 _ hname) hf ht (.inl rfl) ?_));refine Qq (wpAny_of_eq hpos ?_);refine Calls.callWith_function (o:=ob) (fd:=fd) (evalArgs_any (e2.plain _) (e2.run (F.grow N1.grow) N1.inn fun rvs s2 ι2 N2 r2=>⟨⟨hob N2.inn.top,hfd⟩,?_⟩));exact h i _ rvs s2 ι2 rfl (N2.grow.get hi) (N1.trans N2) r2
theorem accOf_some {σ:St} {i:Nat} {xs:List V} (h:accOf σ i=some xs) {G:Prop} (j:∀ k,σ[i]?=some (.acc k xs)→G):G:=by
 unfold accOf at h;generalize hq:σ[i]?=q at h;cases q with
 |none=>cases h
 |some o=>cases o with
  |lst=>cases h
  |acc k ys=>exact j k (by rw [hq,←Qw h])
theorem mk_acc {A:Around} {it l:Addr} {target:Expr} {i:Nat} (hh:A.handled=none):Mk prog w K T A (.ref it) target [it] (It.acc i).nth (fun k h=>h.IsListIter it l k) (fun o_ ι o_=>ι[i]?=some l) where
 frame:=listiter_frame
 priv:=fun hp b hm=>by rw [Wz hm];exact priv_listiter hp
 move:=fun hd m=>m.2 _ _ hd
 hide:=fun hd o_=>hd
 turn:=fun {H k x ι σ s Q E} hn hp hd I hf h=>mI (show (accOf _ _).map _=_ from hn) fun xs e1 e2=>accOf_some e1 fun k0 hσ=>acc_at I hd hσ fun items n d m t sl ho _ _ _ _ e5=>by
  refine e12 (some_get e5 e2) fun v e6 e7=>?_;refine next_seq hh hp ho rfl fun h' hit' hs=>?_;rw [e6];refine ⟨v,rfl,?_⟩;refine nb fun kk=>?_;obtain ⟨o,ho,hc,hd'⟩:=hit' v e6;refine kk ?_;refine letOwned_other (s:={ s with heap:=h' }) ho hc (by decide) ?_;exact h v h' s.toks ⟨o,ho,hc,hd'⟩ (fun b o hb e=>hs b o (fun z=>hb (List.mem_singleton.mpr z)) e) fun c=>e7.calm c
 fin:=fun {H k ι σ s Q E} hn hp hd I hf h=>mI (show (accOf _ _).map _=_ from hn) fun xs e1 e2=>accOf_some e1 fun k0 hσ=>acc_at I hd hσ fun items n d m t sl ho _ _ _ _ e5=>by
  have e6:=none_get e5 e2;refine next_seq hh hp ho rfl fun h' hit' hs=>?_;rw [e6];exact ⟨rfl,h h' s.toks fun b o hb e=>hs b o (fun z=>hb (List.mem_singleton.mpr z)) e⟩
 again:=fun hp hQ=>wpAny_pyIter_listiter hp hQ
theorem acc_itrs (G:Facts K T mg mb) (X:AccTop K T Kf):SAccItr prog w K T:=fun {sc lo e σ σ1 ρ A env target j k0 xs} hh h1 hσ ι s Q E F I h=>h1 F I fun rv s1 ι1 N1 r1=>rvRef r1 fun a z hi=>by
 rw [z];refine acc_at N1.inn hi hσ fun items n d m t sl ho _ _ _ _ hr=>?_;exact acc_iter (X.inn N1.inn.top) ho X.list X.iter (itr_close (mk_acc (target:=target) hh) N1 (Nx.heap G.mono N1.inn (Ux.push _ _) s1.toks) (fun b hb=>by rw [Wz hb];exact Nat.le_refl _) (n0_le F N1.grow)
   ⟨_,Heap.get?_push_size _ rfl,rfl,rfl⟩ hi h)
@[reducible] noncomputable def FnTop (T:Heap→Prop) (Kf:Frag) (f:Addr) (ob:Obj) (fd:FuncData) (names:List Str) (body:List Stmt):Prop:=(∀ {h:Heap},T h→h.get? f=some ob)∧(typeIn Kf (.ref f)=some (.type "function"))∧(ob.data=.func fd)∧(fd.body=.stmts body)∧(fd.scope.kind=.function)∧(fd.scope.isCoroutine=false)∧(fd.scope.isGenerator=false)∧(∀ {h:Heap},T h→h.CodeRec fd.code fd.qualname)∧(∀ x∈fd.scope.names,x.2≠.cell)∧(∀ x∈names,fd.scope.names.lookup x=some .local)∧(fd.params.args.map (·.arg)=names)∧(fd.params.posonlyargs=[])∧(fd.params.vararg=none)∧(fd.params.kwonlyargs=[])∧(fd.params.kwarg=none)∧(names.Nodup)∧(fd.globals=mainGlobals)∧(fd.builtins=builtinsNs)
theorem FnTop.there {T:Heap→Prop} {Kf:Frag} {f:Addr} {ob:Obj} {fd:FuncData} {names:List Str} {body:List Stmt} (h:FnTop T Kf f ob fd names body):∀ {h:Heap},T h→h.get? f=some ob:=h.1
theorem FnTop.typ {T:Heap→Prop} {Kf:Frag} {f:Addr} {ob:Obj} {fd:FuncData} {names:List Str} {body:List Stmt} (h:FnTop T Kf f ob fd names body):typeIn Kf (.ref f)=some (.type "function"):=h.2.1
theorem FnTop.data {T:Heap→Prop} {Kf:Frag} {f:Addr} {ob:Obj} {fd:FuncData} {names:List Str} {body:List Stmt} (h:FnTop T Kf f ob fd names body):ob.data=.func fd:=h.2.2.1
theorem FnTop.body {T:Heap→Prop} {Kf:Frag} {f:Addr} {ob:Obj} {fd:FuncData} {names:List Str} {body:List Stmt} (h:FnTop T Kf f ob fd names body):fd.body=.stmts body:=h.2.2.2.1
theorem FnTop.kind {T:Heap→Prop} {Kf:Frag} {f:Addr} {ob:Obj} {fd:FuncData} {names:List Str} {body:List Stmt} (h:FnTop T Kf f ob fd names body):fd.scope.kind=.function:=h.2.2.2.2.1
theorem FnTop.co {T:Heap→Prop} {Kf:Frag} {f:Addr} {ob:Obj} {fd:FuncData} {names:List Str} {body:List Stmt} (h:FnTop T Kf f ob fd names body):fd.scope.isCoroutine=false:=h.2.2.2.2.2.1
theorem FnTop.gen {T:Heap→Prop} {Kf:Frag} {f:Addr} {ob:Obj} {fd:FuncData} {names:List Str} {body:List Stmt} (h:FnTop T Kf f ob fd names body):fd.scope.isGenerator=false:=h.2.2.2.2.2.2.1
theorem FnTop.code {T:Heap→Prop} {Kf:Frag} {f:Addr} {ob:Obj} {fd:FuncData} {names:List Str} {body:List Stmt} (h:FnTop T Kf f ob fd names body):∀ {h:Heap},T h→h.CodeRec fd.code fd.qualname:=h.2.2.2.2.2.2.2.1
theorem FnTop.nocell {T:Heap→Prop} {Kf:Frag} {f:Addr} {ob:Obj} {fd:FuncData} {names:List Str} {body:List Stmt} (h:FnTop T Kf f ob fd names body):∀ x∈fd.scope.names,x.2≠.cell:=h.2.2.2.2.2.2.2.2.1
theorem FnTop.loc {T:Heap→Prop} {Kf:Frag} {f:Addr} {ob:Obj} {fd:FuncData} {names:List Str} {body:List Stmt} (h:FnTop T Kf f ob fd names body):∀ x∈names,fd.scope.names.lookup x=some .local:=h.2.2.2.2.2.2.2.2.2.1
theorem FnTop.args {T:Heap→Prop} {Kf:Frag} {f:Addr} {ob:Obj} {fd:FuncData} {names:List Str} {body:List Stmt} (h:FnTop T Kf f ob fd names body):fd.params.args.map (·.arg)=names:=h.2.2.2.2.2.2.2.2.2.2.1
theorem FnTop.posonly {T:Heap→Prop} {Kf:Frag} {f:Addr} {ob:Obj} {fd:FuncData} {names:List Str} {body:List Stmt} (h:FnTop T Kf f ob fd names body):fd.params.posonlyargs=[]:=h.2.2.2.2.2.2.2.2.2.2.2.1
theorem FnTop.vararg {T:Heap→Prop} {Kf:Frag} {f:Addr} {ob:Obj} {fd:FuncData} {names:List Str} {body:List Stmt} (h:FnTop T Kf f ob fd names body):fd.params.vararg=none:=h.2.2.2.2.2.2.2.2.2.2.2.2.1
theorem FnTop.kwonly {T:Heap→Prop} {Kf:Frag} {f:Addr} {ob:Obj} {fd:FuncData} {names:List Str} {body:List Stmt} (h:FnTop T Kf f ob fd names body):fd.params.kwonlyargs=[]:=h.2.2.2.2.2.2.2.2.2.2.2.2.2.1
theorem FnTop.kwarg {T:Heap→Prop} {Kf:Frag} {f:Addr} {ob:Obj} {fd:FuncData} {names:List Str} {body:List Stmt} (h:FnTop T Kf f ob fd names body):fd.params.kwarg=none:=h.2.2.2.2.2.2.2.2.2.2.2.2.2.2.1
theorem FnTop.nodup {T:Heap→Prop} {Kf:Frag} {f:Addr} {ob:Obj} {fd:FuncData} {names:List Str} {body:List Stmt} (h:FnTop T Kf f ob fd names body):names.Nodup:=h.2.2.2.2.2.2.2.2.2.2.2.2.2.2.2.1
theorem FnTop.globals {T:Heap→Prop} {Kf:Frag} {f:Addr} {ob:Obj} {fd:FuncData} {names:List Str} {body:List Stmt} (h:FnTop T Kf f ob fd names body):fd.globals=mainGlobals:=h.2.2.2.2.2.2.2.2.2.2.2.2.2.2.2.2.1
theorem FnTop.builtins {T:Heap→Prop} {Kf:Frag} {f:Addr} {ob:Obj} {fd:FuncData} {names:List Str} {body:List Stmt} (h:FnTop T Kf f ob fd names body):fd.builtins=builtinsNs:=h.2.2.2.2.2.2.2.2.2.2.2.2.2.2.2.2.2
theorem zip_mem {α:Type}:∀ {names:List Str} {vs:List α} {x:Str×α},x∈names.zip vs→x.1∈names:=fun h=>(List.of_mem_zip h).1
section
variable {A:Around} {E:Value→Shared→Prop} {s:Shared} {Q:Value→Shared→Prop} {f:Addr} {ob:Obj} {fd:FuncData} {names:List Str} {body:List Stmt} {rvs:List Value}
theorem enter (G:Facts K T mg mb) (D:FnTop T Kf f ob fd names body) (hA:A.depth<900) (hT:T s.heap) {binds:List (Str×Value)} (hb:BindsTo s fd ⟨rvs,[]⟩ binds) (hbn:∀ x∈binds,x.1∈names)
  (h:∀ h₀ tk (E':Value→Shared→Prop),h₀.Ns s.heap.objs.size (fun x=>binds.reverse.lookup x)→Ux s.heap h₀→
   wpAny (model prog w) (A.deeper (callEnv fd s.heap.objs.size f)) (execs body (callEnv fd s.heap.objs.size f)) (fun fl s'=>Q (match fl with|.ret v=>v|_=>.none) s') E' { s with heap:=h₀,toks:=tk }):
  wpAny (model prog w) A (PySem.call (.ref f) rvs) Q E s:=by
 refine wpAny_call (codeAny_call_def (Nat.lt_trans hA (by decide)) (D.there hT) D.data (G.lim hT) (D.code hT) D.body hb D.nocell (fun x hx=>D.loc _ (hbn x hx)) (fun h₀ hns hk=>h h₀ _ _ hns ⟨hk⟩) D.co D.gen D.kind)
theorem enter_plain (G:Facts K T mg mb) (D:FnTop T Kf f ob fd names body) (hA:A.depth<900) (hT:T s.heap) (hdef:fd.defaults=.none) (hl:names.length=rvs.length)
  (h:∀ h₀ tk (E':Value→Shared→Prop),h₀.Ns s.heap.objs.size (fun x=>(names.zip rvs).reverse.lookup x)→Ux s.heap h₀→
   wpAny (model prog w) (A.deeper (callEnv fd s.heap.objs.size f)) (execs body (callEnv fd s.heap.objs.size f)) (fun fl s'=>Q (match fl with|.ret v=>v|_=>.none) s') E' { s with heap:=h₀,toks:=tk }):
  wpAny (model prog w) A (PySem.call (.ref f) rvs) Q E s:=
 enter G D hA hT (BindsTo.of_eq (bind_plain D.args D.posonly D.vararg D.kwonly D.kwarg hdef hl D.nodup)) (fun x hx=>zip_mem hx) h
end
section
variable {ι:List Addr} {σ:St} {s:Shared}
theorem Nx.setA {lo i:Nat} {a d:Addr} {h':Heap} {xs ys:List V} {items':Array Value} {n':Nat} {sl':Array (Option Value)} {m:Str→Option Value} {k:Int} {t:Tok} (hT:Mono K T) (I:In0 K T ι σ s) (hi:ι[i]?=some a) (hlo:lo≤i) (hσ:σ[i]?=some (.acc k xs))
  (hd:d∉ι) (hn:s.heap.Ns d m) (hk:m ("_initial_size":Str)=some (.int k t)∧∀ y,(y==("_initial_size":Str))=false→m y=none) (ht:∃ o,s.heap.get? d=some o∧o.cls=.type "dict")
  (hs:Heap.SameBut a s.heap h') (tk:Nat) (ho:h'.get? a=some (accObj K.acc d items' n' sl')) (hr:RVs K.hid ι s.heap items'.toList ys):Nx K T lo (σ.set i (.acc k ys)) ι ι s { s with heap:=h',toks:=tk }:=by
 refine Nx.set hT I hi hlo hs tk ⟨_,ho⟩ (fun G=>?_) hσ;obtain hda:d≠a:=fun z=>hd (z▸List.mem_of_getElem? hi);obtain kp:∀ o,s.heap.get? d=some o→h'.get? d=some o:=fun o e=>(hs.2 d hda).trans e;refine e12 (ht) fun o e1 e2=>?_;exact .acc ho hd (As.ns (K:=K) hn fun o e=>.inl (kp o e)) hk ⟨o,kp o e1,e2⟩ (hr.grow G)
theorem update_acc {h:Heap} {a c d:Addr} {items:Array Value} {n:Nat} {sl:Array (Option Value)} (ho:h.get? a=some (accObj c d items n sl)) (f:Array Value→Array Value):
  ∃ m,(h.update a (Obj.mapSeq f)).get? a=some (accObj c d (f items) m sl)∧Heap.SameBut a h (h.update a (Obj.mapSeq f)):=
 ⟨_,Heap.get?_update_self _ ho rfl,Heap.SameBut.update ..⟩
end
noncomputable def pushBody (p1 p2 p3 p4 p5 p6 p7:Pos) (k:Nat):List Stmt:=[.Expr (.Call (.Attribute (.Name ("self":Str) p1) ("append":Str) p2) [.Tuple [.Name ("fws":Str) p3,.Name ("string":Str) p4] k p5] [] p6) p7]
theorem acc_push {A:Around} {E:Value→Shared→Prop} {s:Shared} {Q:Value→Shared→Prop} {ι:List Addr} {σ:St} {f a:Addr} {ob:Obj} {fd:FuncData} {p1 p2 p3 p4 p5 p6 p7:Pos} {kk:Nat} {lo i:Nat} {k:Int} {xs:List V} {u v:Value} {x y:V}
  (G:Facts K T mg mb) (X:AccTop K T Kf) (happ:findIn Kf (.ref K.acc) "append"=some (some (.builtin "list.append"))) (D:FnTop T Kf f ob fd ["self","fws","string"] (pushBody p1 p2 p3 p4 p5 p6 p7 kk)) (hdef:fd.defaults=.none) (hp:(p2.endLine==p6.line)=true)
  (hA:A.depth<900) (I:In0 K T ι σ s) (hi:ι[i]?=some a) (hlo:lo≤i) (hσ:σ[i]?=some (.acc k xs)) (hlen:xs.length<4096) (ru:RV K.hid ι s.heap u x) (rv:RV K.hid ι s.heap v y)
  (h:∀ s',Nx K T lo (σ.set i (.acc k (xs++[.tup [x,y]]))) ι ι s s'→Q .none s'):wpAny (model prog w) A (PySem.call (.ref f) [.ref a,u,v]) Q E s:=by
 refine enter_plain G D hA I.top hdef rfl fun h₀ tk E' hns U=>?_;obtain N1:Nx K T lo σ ι ι s { s with heap:=h₀,toks:=tk }:=Nx.heap G.mono I U tk;obtain hk:=D.kind;obtain kof:∀ x∈["self","fws","string"].map Str.ofString,(callEnv fd s.heap.objs.size f).kindOf x=some .local:=fun x hx=>D.loc x (by simpa using hx);unfold pushBody;refine wpAny_execs_cons (wpAny_Expr_any ?_ (by unfold interactive;show (fd.scope.kind==ScopeKind.module&&_)=false;rw [hk];rfl) rfl);rw [arm_eval_Call];refine Qq (ldc hk (kof _ (by simp)) hns (v:=.ref a) rfl (Qq (wpAny_standAt ?_)));unfold methodCall;rw [show methodCallForm _ _ _=true from rfl];obtain hpos:methodCallPos true (.Name ("self":Str) p1) (callEnv fd s.heap.objs.size f) p2 p6=pure p6:=by unfold methodCallPos;simp [hp]
 refine acc_at N1.inn hi hσ fun items n d m t sl ho hd hn hkk ht' hrs=>?_
 ·skip
  refine Qq (wpAny_holding (acc_method X N1.inn.top ho hn (hkk.2 _ (by decide)) happ (t:=.type "method_descriptor") (by unfold typeIn;kernel_rfl) (.inr rfl) ?_));refine Qq (wpAny_of_eq hpos ?_);refine Calls.callWith_builtin rfl (evalArgs_any rfl ?_);refine wpAny_items_cons (wpAny_Tuple_spliced (wpAny_items_cons (ldc hk (kof _ (by simp)) hns (v:=u) rfl (wpAny_items_cons (ldc hk (kof _ (by simp)) hns (v:=v) rfl (wpAny_items_nil ⟨by show 2≤sizeLine;decide,wpAny_items_nil ?_⟩)) rfl)) rfl)) rfl;obtain N2:=Nx.heap (lo:=lo) G.mono N1.inn (Ux.push h₀ (tupObj #[u,v] 0)) tk;obtain NN:=N1.trans N2;obtain ho2:=(Ux.push h₀ (tupObj #[u,v] 0)).keep _ _ ho;obtain hsz:=hrs.size;refine acc_append (X.inn N2.inn.top) ho2 X.list (size_line (by rw [hsz];exact Wq hlen)) ?_;refine wpAny_execs_nil ?_;refine nb fun kk=>?_;refine e12 (update_acc ho2 (·.push (.ref h₀.objs.size))) fun m' q1 q2=>?_;refine kk ?_;refine h _ (NN.trans (Nx.setA G.mono N2.inn hi hlo hσ hd (hn.push _) hkk ?_ q2 tk q1 ?_))
  ·obtain ⟨o,e1,e2⟩:=ht';exact ⟨o,Qg _ e1,e2⟩
  ·rw [Array.toList_push];refine (hrs.grow N2.grow).append (.cons ?_ .nil);exact RV.newTup (items:=#[u,v]) (n:=0) N1.inn.rel (.cons (ru.grow N1.grow) (.cons (rv.grow N1.grow) .nil))
end
section
variable {prog:Program} {w:World} {C:Cfg} {K:Cst} {T:Heap→Prop} {mg mb:Str→Option Value} {Kf:Frag}
@[reducible] noncomputable def SupTop (prog:Program) (c:Addr) (T:Heap→Prop) (Kf:Frag) (mg mb:Str→Option Value) (f:Addr) (ob:Obj) (fd:FuncData):Prop:=(∃ cd,clsIn Kf c=some cd)∧(mroIn Kf c (.ref c)=some true)∧(∃ cc,fd.closure=[(("__class__":Str),cc)]∧∀ {h},T h→∃ o,h.get? cc=some o∧o.data=.cell (some (.ref c)))∧(fd.scope.names.lookup ("super":Str)=some .globalImplicit)∧(fd.scope.names.lookup ("__class__":Str)=some .free)∧(∃ cd oc vs file tf,fd.code=.ref cd∧(∀ {h},T h→h.get? cd=some oc)∧oc.data=.fields vs∧vs[2]?=some (.str file tf)∧((prog.main.file:Str)==file)=true)∧((prog.main.scope.names.lookup ("super":Str)).isSome=false)∧(mg ("super":Str)=none∧mb ("super":Str)=some (.type "super"))
section
variable {prog:Program} {c:Addr} {T:Heap→Prop} {Kf:Frag} {mg mb:Str→Option Value} {f:Addr} {ob:Obj} {fd:FuncData} (h:SupTop prog c T Kf mg mb f ob fd)
include h
theorem SupTop.cls:∃ cd,clsIn Kf c=some cd:=h.1
theorem SupTop.self:mroIn Kf c (.ref c)=some true:=h.2.1
theorem SupTop.closure:∃ cc,fd.closure=[(("__class__":Str),cc)]∧∀ {h},T h→∃ o,h.get? cc=some o∧o.data=.cell (some (.ref c)):=h.2.2.1
theorem SupTop.ksup:fd.scope.names.lookup ("super":Str)=some .globalImplicit:=h.2.2.2.1
theorem SupTop.kcls:fd.scope.names.lookup ("__class__":Str)=some .free:=h.2.2.2.2.1
theorem SupTop.code:∃ cd oc vs file tf,fd.code=.ref cd∧(∀ {h},T h→h.get? cd=some oc)∧oc.data=.fields vs∧vs[2]?=some (.str file tf)∧((prog.main.file:Str)==file)=true:=h.2.2.2.2.2.1
theorem SupTop.top:(prog.main.scope.names.lookup ("super":Str)).isSome=false:=h.2.2.2.2.2.2.1
theorem SupTop.sup:mg ("super":Str)=none∧mb ("super":Str)=some (.type "super"):=h.2.2.2.2.2.2.2
end
section
variable {A:Around} {E:Value→Shared→Prop} {s:Shared} {Q:Value→Shared→Prop} {f a d L:Addr} {ob:Obj} {fd:FuncData} {names:List Str} {body:List Stmt} {items:Array Value} {n:Nat} {sl:Array (Option Value)} {m:Str→Option Value}
set_option tactic.hygienic true in
theorem sup_base {p0 p1:Pos} {attr:Str} {whole:Sem Value} (G:Facts K T mg mb) (X:AccTop K T Kf) (D:FnTop T Kf f ob fd names body) (S:SupTop prog K.acc T Kf mg mb f ob fd) {rest:List Str} (hnm:names=("self":Str)::rest) (hT:T s.heap) (ho:s.heap.get? a=some (accObj K.acc d items n sl))
  (hL:s.heap.Ns L m) (hself:m ("self":Str)=some (.ref a)) (hat:(attr==("__class__":Str))=false)
  (h:∀ h',h'.get? s.heap.objs.size=some (ks_superObj K.acc a K.acc)→Ux s.heap h'→Q (.ref s.heap.objs.size) { s with heap:=h' }):
  PySem.wpAt (model prog w) A (.func body (callEnv fd L f)) (attributeBase (.Call (.Name ("super":Str) p0) [] [] p1) attr (callEnv fd L f) whole) Q E s:=by
 refine nb fun kk=>?_;refine e12 (S.closure) fun cc hcl hcc=>?_;refine e51 (S.code) fun cd oc vs file tf qz=>?_;obtain ⟨hco,hcd,hoc,hvs,hfile⟩:=qz;refine e11 (S.cls) fun cdD hcD=>?_;obtain Y:=X.inn hT;obtain ⟨hh,g,dd,t,os⟩:=s;obtain hh1:∃ ar,(fd.params.posonlyargs++fd.params.args).head?=some ar∧ar.arg=("self":Str):=by
  have:=D.args;rw [D.posonly,List.nil_append];cases q:fd.params.args with
  |nil=>rw [q,hnm] at this;cases this
  |cons ar r=>
   rw [q,hnm,List.map_cons] at this;exact ⟨ar,rfl,(List.cons.inj this).1⟩
 refine e12 (hh1) fun ar har hars=>?_;obtain ⟨oD,hD1,hD2⟩:∃ oD,hh.get? K.acc=some oD∧oD.data=.cls cdD:=iCls hcD fun a b sl ho=>⟨_,Y _ _ ho,rfl⟩
 refine e12 (hcc hT) fun ocl hc1 hc2=>?_;refine kk ?_;refine ks_wpAt_super_base (env:=callEnv fd L f) S.ksup S.kcls hat rfl (D.there hT) D.data har hco (hcd hT) hoc hvs hfile S.top ?_;refine ks_loadName_global D.kind S.ksup (loadGlobal_builtin (env:=callEnv fd L f) (by show Heap.Ns _ fd.globals _;rw [D.globals];exact G.glob hT) S.sup.1 (by show Heap.Ns _ fd.builtins _;rw [D.builtins];exact G.blt hT) S.sup.2 ⟨rfl,?_⟩);refine wpAny_loadName_free D.kind S.kcls (c:=cc) (by show fd.closure.lookup _=_;rw [hcl];rfl) ⟨ocl,hc1,hc2⟩ ?_;rw [hars];refine wpAny_loadName_local D.kind (D.loc _ (by rw [hnm];exact Qk ..)) hL hself ?_;refine ks_wpAny_isType_cls hD1 hD2 ⟨rfl,?_⟩;refine ks_wpAny_call_super hD1 hD2 ho rfl (fun c e=>nomatch e) (looks_mroIn Y S.self) (fun h' e k=>h h' e ⟨k⟩)
end
section
variable {A:Around} {E:Value→Shared→Prop} {s:Shared} {a d c L:Addr} {items:Array Value} {n:Nat} {sl:Array (Option Value)}
theorem check_inst {id:String} {Q:Unit→Shared→Prop} (hid:".".intercalate (id.cutAt '.').dropLast="list") (i1:Looks (model prog w) s.heap (isInstance (.ref a) (.type "list")) true) (h:Q () s):
  wpAny (model prog w) A ((kfb_private% "checkInstance") (.builtin id) (.ref a)) Q E s:=by
 show wpAny _ _ (isInstance (.ref a) (.type (".".intercalate (id.cutAt '.').dropLast)) >>=_) _ _ _;rw [hid];exact Qq (i1.here (Qf h))
theorem wget {id:String} {P:Fin→Shared→Prop} (hid:".".intercalate (id.cutAt '.').dropLast="list") (i1:Looks (model prog w) s.heap (isInstance (.ref a) (.type "list")) true)
  (h:P (.done (.ret (.ref s.heap.objs.size))) { s with heap:=s.heap.push { cls:=.type "method-wrapper",data:=.fields #[.builtin id,.ref a] } }):
  wpAny (model prog w) A (Builtin.«wrapper_descriptor.__get__» ⟨[.builtin id,.ref a,.ref c],[]⟩) P E s:=by
 unfold Builtin.«wrapper_descriptor.__get__»;refine Qq (wpAny_of_eq (a:=(.builtin id,some (.ref a),some (.ref c))) (by first|rfl|kernel_rfl) ?_);show wpAny _ _ ((kfb_private% "checkInstance") (.builtin id) (.ref a) >>=fun o_=>(newFields "method-wrapper" [.builtin id,.ref a] >>=ret)) P E s;exact Qq (check_inst hid i1 (Qq (wpAny_newObj_type (Qf h) (show (2:Nat)≤sizeLine+2 by decide))))
end
@[reducible] noncomputable def Binds (prog:Program) (w:World) (id bcls DT gid:String) (B:Builtin):Prop:=(typeOf (.builtin id)=pure (.type DT))∧(Slot DT "__get__" gid)∧(entryFor table gid=some B)∧(∀ a b c:Value,argsOk gid ⟨[a,b,c],[]⟩)∧(∀ {A:Around} {E:Value→Shared→Prop} {s:Shared} {a c:Addr} {P:Fin→Shared→Prop},Looks (model prog w) s.heap (isInstance (.ref a) (.type "list")) true→P (.done (.ret (.ref s.heap.objs.size))) { s with heap:=s.heap.push { cls:=.type bcls,data:=.fields #[.builtin id,.ref a] } }→wpAny (model prog w) A (B ⟨[.builtin id,.ref a,.ref c],[]⟩) P E s)
section
variable {prog:Program} {w:World} {id bcls DT gid:String} {B:Builtin} (h:Binds prog w id bcls DT gid B)
include h
theorem Binds.ty:typeOf (.builtin id)=pure (.type DT):=h.1
theorem Binds.slot:Slot DT "__get__" gid:=h.2.1
theorem Binds.entry:entryFor table gid=some B:=h.2.2.1
theorem Binds.args:∀ a b c:Value,argsOk gid ⟨[a,b,c],[]⟩:=h.2.2.2.1
theorem Binds.get:∀ {A:Around} {E:Value→Shared→Prop} {s:Shared} {a c:Addr} {P:Fin→Shared→Prop},Looks (model prog w) s.heap (isInstance (.ref a) (.type "list")) true→P (.done (.ret (.ref s.heap.objs.size))) { s with heap:=s.heap.push { cls:=.type bcls,data:=.fields #[.builtin id,.ref a] } }→wpAny (model prog w) A (B ⟨[.builtin id,.ref a,.ref c],[]⟩) P E s:=h.2.2.2.2
end
theorem slot_wget:Slot "wrapper_descriptor" "__get__" "wrapper_descriptor.__get__":=.of (owner:="wrapper_descriptor") (n:="__get__") (by rw [typeLookup_type,builtinLookup_eq_fast];kernel_rfl) (by decide +kernel) (by decide +kernel) (by decide +kernel)
 (by first|exact .inl (by decide +kernel)|exact .inr (by decide +kernel)) (by rw [isSubtype_type];kernel_rfl)
theorem binds_init:Binds prog w "list.__init__" "method-wrapper" "wrapper_descriptor" "wrapper_descriptor.__get__" Builtin.«wrapper_descriptor.__get__»:=
 ⟨by show builtinType _=_;rw [builtinType_eq_fast];kernel_rfl,slot_wget,entryFor_of_tree (by kernel_rfl),fun a b c=>by unfold argsOk;kernel_rfl,fun i1 h=>wget (by decide +kernel) i1 h⟩
section
variable {A:Around} {E:Value→Shared→Prop} {h:Heap} {g:Array GenState} {dd:Drawn} {t:Nat} {os:OsState} {so a c d:Addr} {items:Array Value} {n:Nat} {sl:Array (Option Value)} {id bcls DT gid:String} {B:Builtin}
theorem orFF {a b:Bool} (h:a=false) (k:b=false):(a||b)=false:=by rw [h,k];rfl
theorem sup_ga {l₀ l:List Value} {name:Str} {tk:Tok} {Q:Fin→Shared→Prop} (W:Binds prog w id bcls DT gid B)
  (hso:h.get? so=some (ks_superObj c a c)) (hno:Looks (model prog w) h (opaqueClassAbove (.ref c)) none)
  (hC:Looks (model prog w) h (mroOf (.ref c)) l₀) (hl:(l₀.dropWhile (· !=.ref c)).drop 1=l) (X:Kf.In h)
  (hf:alongIn Kf name l=some (some (.builtin id))) (i1:Looks (model prog w) h (isInstance (.ref a) (.type "list")) true) (hac:a≠c) (hn:(name==("__class__":Str))=false)
  (hq:Q (.done (.ret (.ref h.objs.size))) ⟨h.push { cls:=.type bcls,data:=.fields #[.builtin id,.ref a] },g,dd,t,os⟩):
  wpAny (model prog w) A (Builtin.«super.__getattribute__» ⟨[.ref so,.str name tk],[]⟩) Q E ⟨h,g,dd,t,os⟩:=by
 obtain hlk:=W.slot.lookup;obtain hne:(Value.ref a==Value.ref c)=false:=by simp -iota [hac]
 obtain hTf:(⟨h,g,dd,t,os⟩:Shared).TypeIs (.builtin id) DT:=W.ty;obtain hdt:(ks_superObj c a c).data=.fields #[.ref c,.ref a,.ref c]:=rfl;obtain f0:(#[.ref c,.ref a,.ref c]:Array Value)[0]?=some (.ref c):=rfl;obtain f1:(#[.ref c,.ref a,.ref c]:Array Value)[1]?=some (.ref a):=rfl;obtain f2:(#[.ref c,.ref a,.ref c]:Array Value)[2]?=some (.ref c):=rfl;unfold Builtin.«super.__getattribute__»
 repeat (first
  |(with_reducible refine wpAny_field hso hdt f0 ?_)|(with_reducible refine wpAny_field hso hdt f1 ?_)|(with_reducible refine wpAny_field hso hdt f2 ?_)
  |(with_reducible refine ks_wpAny_notOpaque hno ?_)
  |(with_reducible refine Looks.at hC ?_;rw [hl])
  |(refine ks_forIn_along X (fun o_ o_=>rfl) rfl ?_ hf)
  |(with_reducible refine wpAny_typeOf hTf ?_)
  |(with_reducible refine wpAny_call_entry W.slot hTf W.entry ?_ (W.args _ _ _))
  |(refine W.get (s:=⟨h,g,dd,t,os⟩) i1 ?_)
  |(with_reducible refine ⟨_,rfl,?_⟩)
  |(with_reducible refine wF (orFF rfl hn) ?_)
  |(with_reducible refine wF rfl ?_)
  |(rw [if_neg (show ¬(Value.ref a==Value.ref c)=true from by rw [hne];decide)])
  |wp_step
  |dsimp only)
 all_goals exact hq
theorem sup_method {l₀ l:List Value} {name:Str} {pl:Sem Bool} {Q:Value×List Value→Shared→Prop} (W:Binds prog w id bcls DT gid B)
  (hso:h.get? so=some (ks_superObj c a c)) (hno:Looks (model prog w) h (opaqueClassAbove (.ref c)) none)
  (hC:Looks (model prog w) h (mroOf (.ref c)) l₀) (hl:(l₀.dropWhile (· !=.ref c)).drop 1=l) (X:Kf.In h)
  (hf:alongIn Kf name l=some (some (.builtin id))) (i1:Looks (model prog w) h (isInstance (.ref a) (.type "list")) true) (hac:a≠c) (hn:(name==("__class__":Str))=false)
  (hq:Q (.ref h.objs.size,[]) ⟨h.push { cls:=.type bcls,data:=.fields #[.builtin id,.ref a] },g,dd,t+1,os⟩):
  wpAny (model prog w) A (getMethod (.ref so) name pl) Q E ⟨h,g,dd,t,os⟩:=by
 obtain hlk:=F.ks_slot_super_ga.lookup;obtain hcan:=F.ks_canon_super_ga;obtain hT:∀ t',(⟨h,g,dd,t',os⟩:Shared).TypeIs (.ref so) "super":=fun o_=>⟨_,hso,rfl⟩
 unfold getMethod;refine Qq (wpAny_specialOf (hT _) hlk ?_);show wpAny _ _ (if (Manifest.canonical "super.__getattribute__" !="object.__getattribute__")=true then _ else _) _ _ _;rw [if_pos hcan];unfold getAttr getAttrBy;refine Qq (Qq (wpAny_mkText (wpAny_holding (Qq (wpAny_typeOf (hT _) (Qq (wpAny_of_eq hlk ?_)))))));show wpAny _ _ (getAttrByItsOwn (.ref so) (.str name t) (.type "super") (.builtin "super.__getattribute__") true false) _ _ _;unfold getAttrByItsOwn hookBefore callGetattribute boundAndCalled;refine Qq (wpAny_of_eq (show (if onTheHeap (.type "super") then typeLookup (.type "super") "__getattr__" else pure none)=pure none from rfl) ?_);refine Qq (wpAny_attempt (wpAny_holding ?_));show wpAny _ _ (bindSpecial (.builtin "super.__getattribute__") (.ref so) >>=_) _ _ _;refine Qq (wpAny_of_eq (F.ks_slot_super_ga.bind _) ?_);refine Wj (Q:=fun v s'=>v=.ref h.objs.size∧s'=⟨h.push { cls:=.type bcls,data:=.fields #[.builtin id,.ref a] },g,dd,t+1,os⟩) (E:=fun o_ o_=>False)
  (wpAny_call_entry F.ks_slot_super_ga (hT _) F.ks_entry_super_ga (sup_ga W hso hno hC hl X hf i1 hac hn ⟨_,rfl,rfl,rfl⟩) (F.ks_gaArgs_super _ _)) (fun v s' hv=>?_) fun o_ o_ z=>z.elim
 refine nb fun kk=>?_;refine e02 (hv) fun qz0 qz1=>?_;obtain rfl:=qz0;obtain rfl:=qz1;refine kk ?_;exact Qf (Qf hq)
end
section
variable {A:Around} {E:Value→Shared→Prop} {s:Shared} {q a c d:Addr} {items:Array Value} {n:Nat} {sl:Array (Option Value)} {id bcls:String} {b:Builtin} {Q:Value→Shared→Prop}
theorem bound_call (hq:s.heap.get? q=some { cls:=.type bcls,data:=.fields #[.builtin id,.ref a] }) (hb:bcls="builtin_function_or_method"∨bcls="method-wrapper")
  (hchk:∀ {A:Around} {Q':Unit→Shared→Prop} {E':Value→Shared→Prop},Q' () s→wpAny (model prog w) A (checkBoundCall id ⟨[.ref a],[]⟩) Q' E' s) (hp:plainId id=true) (he:entryFor table id=some b)
  (hc:wpAny (model prog w) A.in1 (b ⟨[.ref a],[]⟩) (fun fin s'=>∃ v,fin=.done (.ret v)∧Q v s') E s):wpAny (model prog w) A (PySem.call (.ref q) []) Q E s:=by
 refine wpAny_call (codeAny_of_tree ?_);show wpAny _ A.in1 (callAny (.ref q) ⟨[],[]⟩) _ _ _;unfold callAny;refine Qq (wpAny_load hq ?_);dsimp only;rw [if_pos (by rcases hb with rfl|rfl<;>decide)];have hne:(Value.type bcls !=Value.type "method")=true:=by rcases hb with rfl|rfl<;>decide
 show wpAny _ _ (if (Value.type bcls !=Value.type "method")=true then (do checkBoundCall id ⟨[.ref a],[]⟩;again (Code.builtin id ⟨[.ref a],[]⟩)) else _) _ _ _;rw [if_pos hne];refine Qq (hchk ?_);refine Qf ⟨plainId_quiet hp _,codeAny_builtin he ?_⟩;rw [Around.under_plainId hp _];refine Wj hc (fun fin s' h'=>?_) fun o_ o_ h'=>h';obtain ⟨v,rfl,hv⟩:=h';exact hv
theorem bound_callWith {pos:Pos} (hq:s.heap.get? q=some { cls:=.type bcls,data:=.fields #[.builtin id,.ref a] }) (hb:bcls="builtin_function_or_method"∨bcls="method-wrapper")
  (h:wpAny (model prog w) A (PySem.call (.ref q) []) Q E s):wpAny (model prog w) A (callWith pos (.ref q) [] [] []) Q E s:=by
 unfold callWith;refine Qq (wpAny_holding (evalArgs_any rfl (Qf (Qq (wpAny_standAt ?_)))));refine Qq ?_;unfold keeperOf;refine Qq (wpAny_load hq ?_);dsimp only;rw [if_pos (by rcases hb with rfl|rfl<;>decide),if_pos (by rcases hb with rfl|rfl<;>decide)];refine Qf ?_;exact Qq (Wj h (fun r s₂ hr=>Qq (wpAny_holding (wpAny_point (Qf hr)))) fun o_ o_ x=>x)
theorem chk_slot {id:String} {Q':Unit→Shared→Prop} {E':Value→Shared→Prop} (hk:builtinKind id=some .slot) (ha:argsOk id ⟨[.ref a],[]⟩) (h:Q' () s):wpAny (model prog w) A (checkBoundCall id ⟨[.ref a],[]⟩) Q' E' s:=by
 delta checkBoundCall
 unfold argsOk at ha;generalize Manifest.signature? id=sg at ha⊢;cases sg with
 |none=>exact Qf h
 |some sig=>
  generalize hp:builtinKind id=p;obtain rfl:=hp.symm.trans hk;exact wT (by decide) (wpAny_of_eq ha h)
end
@[reducible] noncomputable def PopTop (K:Cst) (Kf:Frag):Prop:=(∃ cd,clsIn Kf K.acc=some cd∧cd.qualname=("_Accumulator":Str))∧(typeIn Kf (.ref K.acc)=some (.type "type"))∧(mroIn Kf K.acc (.type "module")=some false)
theorem PopTop.cls {K:Cst} {Kf:Frag} (h:PopTop K Kf):∃ cd,clsIn Kf K.acc=some cd∧cd.qualname=("_Accumulator":Str):=h.1
theorem PopTop.typ {K:Cst} {Kf:Frag} (h:PopTop K Kf):typeIn Kf (.ref K.acc)=some (.type "type"):=h.2.1
section
variable {A:Around} {E:Value→Shared→Prop} {s:Shared} {q a d:Addr} {items:Array Value} {n:Nat} {sl:Array (Option Value)} {Q:Value→Shared→Prop}
end
section
variable {A:Around} {E:Value→Shared→Prop} {s:Shared} {Q:Value→Shared→Prop} {f:Addr} {ob:Obj} {fd:FuncData} {names:List Str} {body:List Stmt} {rvs:List Value}
end
section
variable {A:Around} {c:Code} {E:Value→Shared→Prop} {s:Shared} {env:Env}
theorem at_method {o:Expr} {name:Str} {apos pos:Pos} {args:List Expr} {Q:Value→Shared→Prop} (hline:(apos.endLine==pos.line)=true) (hform:methodCallForm (args.length+([]:List Keyword).length) (backTo pos (starEach args env)) (backToKw pos (keywordEach [] env))=true)
  (h:PySem.wpAt (model prog w) A c (attributeBase o name env (eval o env)) (fun ov s₁=>∀ pl,wpAny (model prog w) A (getMethod ov name pl) (fun fx s₂=>wpAny (model prog w) A (callWith pos fx.1 fx.2 (backTo pos (starEach args env)) []) Q E s₂) E s₁) E s):
  PySem.wpAt (model prog w) A c (eval (.Call (.Attribute o name apos) args [] pos) env) Q E s:=by
 obtain hpos:methodCallPos true o env apos pos=pure pos:=by unfold methodCallPos;simp [hline]
 rw [arm_eval_Call];refine PySem.wpAt_bind (ks_wpAt_mono h (fun ov s₁ h₁=>PySem.wpAt_of_wpAny (Qq (wpAny_standAt ?_))) fun o_ o_ x=>x);unfold methodCall;rw [hform];exact Qq (wpAny_holding (Wj (h₁ _) (fun fx s₂ h₂=>Qq (wpAny_of_eq hpos h₂)) fun o_ o_ x=>x))
end
@[reducible] noncomputable def SupCls (K:Cst) (Kf:Frag):Prop:=(nsIn Kf cStatics "thirdparty.any"=some none)∧(ks_superIn Kf K.acc K.acc "__init__"=some (some (.builtin "list.__init__")))
theorem SupCls.stat {K:Cst} {Kf:Frag} (h:SupCls K Kf):nsIn Kf cStatics "thirdparty.any"=some none:=h.1
theorem SupCls.init {K:Cst} {Kf:Frag} (h:SupCls K Kf):ks_superIn Kf K.acc K.acc "__init__"=some (some (.builtin "list.__init__")):=h.2
section
variable {A:Around} {c:Code} {E:Value→Shared→Prop} {s:Shared} {a d so f L:Addr} {items:Array Value} {n:Nat} {sl:Array (Option Value)} {id bcls DT gid:String} {B b:Builtin}
set_option tactic.hygienic true in
theorem acc_ne (X:AccTop K T Kf) (hT:T s.heap) (hc:∃ cd,clsIn Kf K.acc=some cd) (ho:s.heap.get? a=some (accObj K.acc d items n sl)):a≠K.acc:=by
 rintro rfl;refine e11 (hc) fun cd hc=>?_;refine iCls hc fun c d sl ho'=>?_;obtain e:=X.inn hT _ _ ho';rw [ho] at e;cases e
theorem sup_found {name:Str} {pl:Sem Bool} {Q:Value×List Value→Shared→Prop} (X:AccTop K T Kf) (hc:∃ cd,clsIn Kf K.acc=some cd) (Y:SupCls K Kf) (W:Binds prog w id bcls DT gid B) (hT:T s.heap) (hso:s.heap.get? so=some (ks_superObj K.acc a K.acc))
  (ho:s.heap.get? a=some (accObj K.acc d items n sl)) (hf:ks_superIn Kf K.acc K.acc name=some (some (.builtin id))) (hn:(name==("__class__":Str))=false)
  (hq:Q (.ref s.heap.objs.size,[]) { s with heap:=s.heap.push { cls:=.type bcls,data:=.fields #[.builtin id,.ref a] },toks:=s.toks+1 }):wpAny (model prog w) A (getMethod (.ref so) name pl) Q E s:=by
 obtain hne:=acc_ne X hT hc ho;refine nb fun kk=>?_;refine e11 (hc) fun cd hc=>?_;obtain hi:=inst_list (prog:=prog) (w:=w) (X.inn hT) ho X.list;obtain hX:=X.inn hT;obtain ⟨hh,g,dd,t,os⟩:=s;refine kk ?_;unfold ks_superIn at hf;rw [hc] at hf;exact sup_method W hso (looks_opaque hX Y.stat) (l₀:=cd.mro) (fun A Q E s k q=>Qq ((looks_clsIn hX hc) A _ E s k (Qf q))) rfl hX hf hi hne hn hq
end
section
variable {A:Around} {E:Value→Shared→Prop} {s:Shared} {Q:Value→Shared→Prop} {f fc a d L:Addr} {ob oc:Obj} {fd fdc:FuncData} {names names':List Str} {body body':List Stmt} {items:Array Value} {n:Nat} {sl:Array (Option Value)} {m m':Str→Option Value}
end
noncomputable def popBody (p0 p1 p2 p3 p4 p5 p6 p7 p8 p9 q0 q1 q2 q3 q4:Pos) (k1 k2 k3 k4:Nat):List Stmt:=
 [.If (.Compare (.Call (.Attribute (.Name ("self":Str) p0) ("part_count":Str) p1) [] [] p2) [.Eq] [.Constant (.int 0) k1 p3] p4) [.Return (some (.Tuple [.Constant (.str ("":Str)) k2 p5,.Constant (.str ("":Str)) k3 p6] k4 p7)) p8] [] p9,
  .Return (some (.Call (.Attribute (.Call (.Name ("super":Str) q0) [] [] q1) ("pop":Str) q2) [] [] q3)) q4]
end
end Mine.Internal
end
section
open PySem PySem.W PyProof.Rows
open PySem.Calls PySem.Spec
open Builtin Builtin.ObjectAttr Builtin.Getset_descriptor
set_option tactic.hygienic false
namespace Mine.Internal
section
variable {prog:Program} {w:World} {C:Cfg} {K:Cst} {T:Heap→Prop} {mg mb:Str→Option Value} {Kf:Frag}
noncomputable def lmakesIn (Kf:Frag) (c:Addr):Bool:=(clsIn Kf c).elim false fun cd=>(((Kf.lookup c).bind fun o=>(o.slots.toList[4]?).join)==some (.builtin "list.__new__"))&&(!cd.abstract&&!cd.hasDel&&!cd.mro.isEmpty&&cd.mro.contains (.ref c)&&cd.mro.contains (.type "list")&&
   specialIn Kf (.ref c) "__call__"==some (some (.builtin "type.__call__"))&&instIn Kf (.ref c) (.type "type")==some true)
@[reducible] noncomputable def LMakes (M:Model) (h:Heap) (c:Addr):Prop:=(∃ oc od cd sl,h.get? c=some ⟨oc,od,.cls cd,sl⟩∧cd.abstract=false∧cd.hasDel=false∧cd.mro.isEmpty=false)∧(∀ rest,Looks M h (checkBuiltinCall "list.__new__" ⟨.ref c::rest,[]⟩) ())∧(Looks M h (Bind.madeBy (.ref c)) (some "list.__new__"))∧(Looks M h (isSubtype (.ref c) (.ref c)) true)∧(Looks M h (isSubtype (.ref c) (.type "list")) true)∧(Looks M h (specialOf (.ref c) "__call__") (some (.builtin "type.__call__")))∧(Looks M h (isInstance (.ref c) (.type "type")) true)
theorem LMakes.obj {M:Model} {h:Heap} {c:Addr} (q:LMakes M h c):∃ oc od cd sl,h.get? c=some ⟨oc,od,.cls cd,sl⟩∧cd.abstract=false∧cd.hasDel=false∧cd.mro.isEmpty=false:=q.1
theorem LMakes.chk {M:Model} {h:Heap} {c:Addr} (q:LMakes M h c):∀ rest,Looks M h (checkBuiltinCall "list.__new__" ⟨.ref c::rest,[]⟩) ():=q.2.1
theorem LMakes.made {M:Model} {h:Heap} {c:Addr} (q:LMakes M h c):Looks M h (Bind.madeBy (.ref c)) (some "list.__new__"):=q.2.2.1
theorem LMakes.self {M:Model} {h:Heap} {c:Addr} (q:LMakes M h c):Looks M h (isSubtype (.ref c) (.ref c)) true:=q.2.2.2.1
theorem LMakes.top {M:Model} {h:Heap} {c:Addr} (q:LMakes M h c):Looks M h (isSubtype (.ref c) (.type "list")) true:=q.2.2.2.2.1
theorem LMakes.call {M:Model} {h:Heap} {c:Addr} (q:LMakes M h c):Looks M h (specialOf (.ref c) "__call__") (some (.builtin "type.__call__")):=q.2.2.2.2.2.1
theorem LMakes.typ {M:Model} {h:Heap} {c:Addr} (q:LMakes M h c):Looks M h (isInstance (.ref c) (.type "type")) true:=q.2.2.2.2.2.2
set_option tactic.hygienic true in
theorem lmakes_of {M:Model} {h:Heap} (X:Kf.In h) {c:Addr} (hck:∀ S rest,peek Kf S (checkBuiltinCall "list.__new__" ⟨.ref c::rest,[]⟩)=some ()) (hmd:∀ S,peek Kf S (Bind.madeBy (.ref c))=some (some "list.__new__")) (e:lmakesIn Kf c=true):LMakes M h c:=by
 refine elimT e fun cd hc e=>iCls hc fun oc od sl ho=>?_
 ·have e3:=eq_of_beq (and_l e);rw [ho] at e3;have e:=and_r e;have e8:=eq_of_beq (and_r e);have e7:=eq_of_beq (and_r (and_l e));have e6:=and_r (and_l (and_l e));have e5:=and_r (and_l (and_l (and_l e)));have e4:=notTF (and_r (and_l (and_l (and_l (and_l e)))));have e2:=notTF (and_r (and_l (and_l (and_l (and_l (and_l e))))));have e1:=notTF (and_l (and_l (and_l (and_l (and_l (and_l e))))));refine ⟨(xi4 oc od cd sl ⟨X _ _ ho,e1,e2,e4⟩),fun rest=>Looks.of_peek X (hck _ rest),Looks.of_peek X (hmd _),looks_mroIn X ?_,looks_mroIn X ?_,looks_specialIn X e7,looks_instIn X e8⟩
  ·unfold mroIn;rw [hc,Option.bind_some,if_neg (by rw [e4];decide),e5]
  ·unfold mroIn;rw [hc,Option.bind_some,if_neg (by rw [e4];decide),e6]
section
variable {A:Around} {c:Addr} {R:Result→Shared→Prop} {h:Heap} {g:Array GenState} {d:Drawn} {t:Nat} {os:OsState}
theorem new_L {rest:List Value} (Y:LMakes (model prog w) h c)
  (hq:R (.ok (.ret (.ref (h.objs.size+1)))) ⟨(h.push emptyDict).push (accObj c h.objs.size #[] 0 #[]),g,d,t,os⟩):
  codeAny (model prog w) A (.call (.builtin "list.__new__") ⟨.ref c::rest,[]⟩) R ⟨h,g,d,t,os⟩:=by
 refine nb fun kk=>?_;obtain ⟨⟨oc,od,cd,sl,hC,e1,e2,e4⟩,chk,made,self,top,call,typ⟩:=Y;refine kk ?_;refine codeAny_call_builtin_code (plainId_quiet PySem.F.plain_list_new _) ((chk rest).at ?_);refine codeAny_builtin_stack PySem.F.entry_list_new rfl fun p st=>?_;rw [Around.under_plainId PySem.F.plain_list_new _]
 lk
 lk
 generalize hp:("list.__new__".splitOn ".__new__").headD ""=z;obtain rfl:=hp.symm.trans owner_list_new;have hC2:((h.push { cls:=Value.type "dict",data:=Data.dict #[] }).push { cls:=Value.ref c,dict:=some h.objs.size,data:=Data.seq #[] }).get? c=_:=Qg _ (Qg _ hC)
 repeat (first|with_reducible refine wF rfl ?_|lk)
 rw [e2];refine Qf (Qf ?_);show R _ _;rw [Heap.size_push];exact hq
theorem make_L {rest:List Value} {init:Value} (Y:LMakes (model prog w) h c) (hi:Looks (model prog w) h (typeLookup (.ref c) "__init__") (some init))
  (hb:∀ self,Looks (model prog w) h (bindSpecial init self) (init,[self]))
  (hq:codeAny (model prog w) (A.under (.builtin "type.__call__" ⟨.ref c::rest,[]⟩)) (.call init ⟨.ref (h.objs.size+1)::rest,[]⟩) (InitBack (h.objs.size+1) R) ⟨(h.push emptyDict).push (accObj c h.objs.size #[] 0 #[]),g,d,t,os⟩):
  codeAny (model prog w) A (.call (.ref c) ⟨rest,[]⟩) R ⟨h,g,d,t,os⟩:=by
 have Y':=Y;refine nb fun kk=>?_;obtain ⟨⟨oc,od,cd,sl,hC,e1,e2,e4⟩,chk,made,self,top,call,typ⟩:=Y;refine kk ?_;refine codeAny_of_tree ?_;show wpAny _ _ (callAny (.ref c) _) _ _ _;refine nd_load hC ?_;show wpAny _ _ (callAny.viaDunder (.ref c) _) _ _ _;unfold callAny.viaDunder;refine Qq (call.at ?_);dsimp only;rw [tc_bind];refine Qq (Qf (Qq (Qf ?_)));refine Qf (a:=Fin.again (.call (.builtin "type.__call__") ⟨.ref c::rest,[]⟩)) (And.intro rfl ?_);refine codeAny_call_builtin_at (Code.quiet_builtin _ (by decide +kernel)) entry_typeCall (check_slot tc_kind tc_split typ (tc_args _ _ _) ?_);unfold Builtin.«type.__call__»;have hm:Looks (model prog w) h (mroOf (.ref c)) cd.mro:=((Looks.ld (part:=none) hC).andThen .now).andThen .now
 repeat (first|with_reducible refine wF e4 ?_|with_reducible refine wF rfl ?_|with_reducible refine wpAny_call ?_|lk)
 refine new_L Y' ?_;have k:∀ b o,h.get? b=some o→((h.push emptyDict).push (accObj c h.objs.size #[] 0 #[])).get? b=some o:=fun b o e=>Qg _ (Qg _ e);have hx:((h.push emptyDict).push (accObj c h.objs.size #[] 0 #[])).get? (h.objs.size+1)=some (accObj c h.objs.size #[] 0 #[]):=by heap_get
 have t1:Looks (model prog w) ((h.push emptyDict).push (accObj c h.objs.size #[] 0 #[])) (typeOf (.ref (h.objs.size+1))) (.ref c):=(Looks.ld hx).andThen .now;have s1:=self.keeps k;have i1:=hi.keeps k;have b1:=(hb (.ref (h.objs.size+1))).keeps k;unfold isInstance callSpecial? specialOf
 repeat (first|with_reducible refine wpAny_call ?_|lk)
 refine codeAny_mono hq fun r s' z=>?_;rcases r with e|(v|_|_|_)<;>first|exact z|exact z.elim|skip
 refine nb fun kk=>?_;obtain ⟨rfl,z⟩:=z;refine kk ?_;exact Qf (Qf z)
end
end
end Mine.Internal
end
section
open PySem PySem.W PyProof.Rows
open PySem.Calls PySem.Spec
open Builtin Builtin.ObjectAttr
set_option tactic.hygienic false
namespace Mine.Internal
section
variable {prog:Program} {w:World} {C:Cfg} {K:Cst} {T:Heap→Prop} {mg mb:Str→Option Value} {Kf:Frag}
theorem refuse_acc (self:Value) (c:Addr):refuseLoop self "__setattr__" [.ref c,.type "list",.type "object"]=pure ():=by
 rw [refuseLoop_ref];kernel_rfl
noncomputable def sizeObj (P:Params) (tk:Nat) (v:Value):Obj:={ cls:=.type "dict",data:=.dict #[{ hash:=PyData.keyHash P ("_initial_size":Str),key:=.str ("_initial_size":Str) tk,val:=v }] 1 }
section
variable {A:Around} {E:Value→Shared→Prop} {s:Shared} {c a d:Addr} {items:Array Value} {n:Nat} {sl:Array (Option Value)} {v:Value} {Q:Unit→Shared→Prop} {cd:ClassData}
theorem set_size (X:Kf.In s.heap) (ho:s.heap.get? a=some (accObj c d items n sl)) (hD:s.heap.get? d=some emptyDict) (hc:clsIn Kf c=some cd) (hm:cd.mro=[.ref c,.type "list",.type "object"]) (hh:cd.hasDict=true)
  (hs:findIn Kf (.ref c) "__setattr__"=some (some (.builtin "object.__setattr__"))) (ha:findIn Kf (.ref c) "_initial_size"=some none)
  (h:∀ h',h'.get? d=some (sizeObj w.params (s.toks+1) v)→Heap.SameBut d s.heap h'→Q () { s with heap:=h',toks:=s.toks+1+1 }):wpAny (model prog w) A (setAttr (.ref a) ("_initial_size":Str) v) Q E s:=by
 have I:InstAt s.heap a (accObj c d items n sl) c (some emptyDict):=⟨ho,rfl,rfl,hD⟩
 have SF:=PySem.F.store_object;have t1:=acc_type (prog:=prog) (w:=w) ho;have hml:Looks (model prog w) s.heap (mroOf (.ref c)) cd.mro:=(looks_clsIn X hc).andThen .now;have sub:Looks (model prog w) s.heap (isInstance (.ref a) (.type "object")) true:=t1.andThen (looks_mroIn X (by unfold mroIn;rw [hc,Option.bind_some,hm];rfl));refine set_plain X I hs ?_;refine nb fun kk=>?_;obtain ⟨hp,g,dd,tk,os⟩:=s;refine kk ?_;refine codeAny_call_builtin SF.slot.plain SF.entry (@check_slot (model prog w) _ _ ⟨hp,g,dd,tk+1,os⟩ "object.__setattr__" "object" "__setattr__" (.ref a) [.str ("_initial_size":Str) tk,v] [] _ SF.kind SF.split sub (SF.args (.ref a) (.str ("_initial_size":Str) tk) v) ?_);rw [osa_eq,refuse_eq];refine Qq (Qq (t1.at (Qq (hml.at ?_))));rw [hm,refuse_acc];refine Qf (Qq (t1.at (Qq ((looks_findIn X ha).at (Qq (Qf ?_))))));dsimp only;refine Qq (Qf (Qq (Qq (wpAny_loadPart ho (Qq ((looks_clsIn X hc).at ?_))))));rw [hh];refine Qf (a:=some d) (Qq (Qf (Qq ?_)));unfold nsSet;refine Qq (Qq (wpAny_askSetting (Qf (Qq (wpAny_mkText (Qq (wpAny_loadPart hD ?_)))))));dsimp only;rw [show aRefKeyMayBeTheName ("_initial_size":Str) #[]=false from rfl,if_neg Bool.false_ne_true];refine wpAny_updatePart hD ?_;have D':(hp.update d (Obj.putName ("_initial_size":Str) (PyData.keyHash w.params ("_initial_size":Str)) (.str ("_initial_size":Str) (tk+1)) v)).get? d=some (sizeObj w.params (tk+1) v):=Heap.get?_update_self _ hD rfl;refine Qq (wpAny_lookBehind D' (pastItsLine_dict (by show 1≤sizeLine+1;decide)) ?_);exact Qf (h _ D' (Heap.SameBut.update ..))
theorem size_ns {h:Heap} {P:Params} {tk:Nat} (hD:h.get? d=some (sizeObj P tk v)):h.Ns d (fun y=>if y=("_initial_size":Str) then some v else none):=by
 refine ⟨_,_,_,hD,rfl,fun e he=>?_,fun y=>?_⟩
 ·simp only [List.mem_toArray,List.mem_singleton] at he;have:e={ hash:=PyData.keyHash P ("_initial_size":Str),key:=.str ("_initial_size":Str) tk,val:=v }:=by simpa using he
  rw [this];exact (xi2 _ _ rfl)
 ·show nsFind _ y=if y=("_initial_size":Str) then some v else none
  by_cases hy:y=("_initial_size":Str)
  ·rw [if_pos hy,hy];rfl
  ·have:(("_initial_size":Str)==y)=false:=by
    cases q:(("_initial_size":Str)==y) with
    |false=>rfl
    |true=>exact absurd (eq_of_beq q).symm hy
   rw [if_neg hy];show ((#[_]:Array DictEntry).find? fun e=>e.key.isStr y).map _=_;rw [Array.find?_singleton];exact congrArg (Option.map _) (if_neg (by show ¬(("_initial_size":Str)==y)=true;rw [this];decide))
end
theorem init_body {A:Around} {E:Value→Shared→Prop} {s:Shared} {a d c:Addr} {n:Nat} {sl:Array (Option Value)} {Q:Value→Shared→Prop} (ho:s.heap.get? a=some (accObj c d #[] n sl))
  (h:Q .none { s with heap:=s.heap.update a (Obj.mapSeq fun o_=>#[]) }):wpAny (model prog w) A (Builtin.«list.__init__» ⟨[.ref a],[]⟩) (fun fin s'=>∃ v,fin=.done (.ret v)∧Q v s') E s:=by
 refine nb fun kk=>?_;obtain ⟨hp,g,dd,tk,os⟩:=s;refine kk ?_;have hl:=ho;unfold Builtin.«list.__init__»
 wp_walk using (wpAny_updateSeq hl rfl (hz:=by show 0≤sizeLine;decide) (_hz':=by show 0≤sizeLine+1;decide)),wpAny_loadPart' hl
 exact ⟨_,rfl,h⟩
theorem entry_linit:entryFor table "list.__init__"=some Builtin.«list.__init__»:=entryFor_of_tree (by kernel_rfl)
theorem args_linit (a:Value):argsOk "list.__init__" ⟨[a],[]⟩:=by unfold argsOk;kernel_rfl
theorem plain_linit:plainId "list.__init__"=true:=by decide +kernel
theorem kind_linit:builtinKind "list.__init__"=some .slot:=by decide +kernel
theorem chk_linit {A:Around} {s:Shared} {a:Addr} {Q':Unit→Shared→Prop} {E':Value→Shared→Prop} (h:Q' () s):wpAny (model prog w) A (checkBoundCall "list.__init__" ⟨[.ref a],[]⟩) Q' E' s:=
 chk_slot (id:="list.__init__") kind_linit (args_linit _) h
theorem bound_init {A:Around} {E:Value→Shared→Prop} {s:Shared} {a d c q:Addr} {n:Nat} {sl:Array (Option Value)} {Q:Value→Shared→Prop} {pos:Pos} (hq:s.heap.get? q=some { cls:=.type "method-wrapper",data:=.fields #[.builtin "list.__init__",.ref a] }) (ho:s.heap.get? a=some (accObj c d #[] n sl))
  (h:Q .none { s with heap:=s.heap.update a (Obj.mapSeq fun o_=>#[]) }):wpAny (model prog w) A (callWith pos (.ref q) [] [] []) Q E s:=
 bound_callWith hq (.inr rfl) (bound_call hq (.inr rfl) chk_linit plain_linit entry_linit (init_body ho h))
@[reducible] noncomputable def NewTop (K:Cst) (Kf:Frag):Prop:=(lmakesIn Kf K.acc=true)∧(∃ cd,clsIn Kf K.acc=some cd∧cd.mro=[.ref K.acc,.type "list",.type "object"]∧cd.hasDict=true)∧(findIn Kf (.ref K.acc) "__setattr__"=some (some (.builtin "object.__setattr__")))∧(findIn Kf (.ref K.acc) "_initial_size"=some none)∧(keepIn Kf (.ref K.acc)=true)∧(∀ S rest,peek Kf S (checkBuiltinCall "list.__new__" ⟨.ref K.acc::rest,[]⟩)=some ())∧(∀ S,peek Kf S (Bind.madeBy (.ref K.acc))=some (some "list.__new__"))
section
variable {K:Cst} {Kf:Frag} (h:NewTop K Kf)
include h
theorem NewTop.makes:lmakesIn Kf K.acc=true:=h.1
theorem NewTop.cls:∃ cd,clsIn Kf K.acc=some cd∧cd.mro=[.ref K.acc,.type "list",.type "object"]∧cd.hasDict=true:=h.2.1
theorem NewTop.seta:findIn Kf (.ref K.acc) "__setattr__"=some (some (.builtin "object.__setattr__")):=h.2.2.1
theorem NewTop.nosize:findIn Kf (.ref K.acc) "_initial_size"=some none:=h.2.2.2.1
theorem NewTop.keep:keepIn Kf (.ref K.acc)=true:=h.2.2.2.2.1
theorem NewTop.chk:∀ S rest,peek Kf S (checkBuiltinCall "list.__new__" ⟨.ref K.acc::rest,[]⟩)=some ():=h.2.2.2.2.2.1
theorem NewTop.made:∀ S,peek Kf S (Bind.madeBy (.ref K.acc))=some (some "list.__new__"):=h.2.2.2.2.2.2
end
noncomputable def initBody (p0 p1 p2 p3 q0 q1 q2 q3 q4:Pos):List Stmt:=
 [.Assign [.Attribute (.Name ("self":Str) p0) ("_initial_size":Str) p1] (.Name ("initial_size":Str) p2) p3,.Expr (.Call (.Attribute (.Call (.Name ("super":Str) q0) [] [] q1) ("__init__":Str) q2) [] [] q3) q4]
section
variable {A:Around} {E:Value→Shared→Prop} {s:Shared} {Q:Value→Shared→Prop} {f:Addr} {ob:Obj} {fd:FuncData} {names:List Str} {body:List Stmt} {rvs:List Value}
theorem enterAtB {R:Result→Shared→Prop} (G:Facts K T mg mb) (D:FnTop T Kf f ob fd names body) (hA:A.depth<900) (hT:T s.heap) {binds:List (Str×Value)} (hb:BindsTo s fd ⟨rvs,[]⟩ binds) (hbn:∀ x∈binds,x.1∈names)
  (h:∀ h₀ tk (E':Value→Shared→Prop),h₀.Ns s.heap.objs.size (fun x=>binds.reverse.lookup x)→Ux s.heap h₀→
   PySem.wpAt (model prog w) (A.deeper (callEnv fd s.heap.objs.size f)) (.func body (callEnv fd s.heap.objs.size f)) (execs body (callEnv fd s.heap.objs.size f)) (fun fl s'=>R (.ok (.ret (match fl with|.ret v=>v|_=>.none))) s') E' { s with heap:=h₀,toks:=tk }):
  codeAny (model prog w) A (.call (.ref f) ⟨rvs,[]⟩) R s:=
 ks_codeAny_call_defAt (Nat.lt_trans hA (by decide)) (D.there hT) D.data (G.lim hT) (D.code hT) D.body hb D.nocell (fun x hx=>D.loc _ (hbn x hx)) (fun h₀ hns hk=>h h₀ _ _ hns ⟨hk⟩) D.co D.gen D.kind
end
theorem acc_init {A:Around} {s:Shared} {R:Result→Shared→Prop} {f a d:Addr} {ob:Obj} {fd:FuncData} {p0 p1 p2 p3 q0 q1 q2 q3 q4:Pos} {k:Int} {t:Tok} {n:Nat} {rvs:List Value}
  (G:Facts K T mg mb) (X:AccTop K T Kf) (Y:SupCls K Kf) (Z:NewTop K Kf) (D:FnTop T Kf f ob fd ["self","initial_size"] (initBody p0 p1 p2 p3 q0 q1 q2 q3 q4)) (S:SupTop prog K.acc T Kf mg mb f ob fd) (hp:(q2.endLine==q3.line)=true)
  (hA:A.depth<900) (hT:T s.heap) (hb:BindsTo s fd ⟨rvs,[]⟩ [(("self":Str),.ref a),(("initial_size":Str),.int k t)]) (ho:s.heap.get? a=some (accObj K.acc d #[] n #[])) (hD:s.heap.get? d=some emptyDict) (haN:K.N0≤a) (hdN:K.N0≤d)
  (h:∀ s' n' P tk,T s'.heap→s'.heap.get? a=some (accObj K.acc d #[] n' #[])→s'.heap.get? d=some (sizeObj P tk (.int k t))→(∀ b o,b≠a→b≠d→s.heap.get? b=some o→s'.heap.get? b=some o)→s'.gens=s.gens→s'.os=s.os→R (.ok (.ret .none)) s'):
  codeAny (model prog w) A (.call (.ref f) ⟨rvs,[]⟩) R s:=by
 refine e13 (Z.cls) fun cd hc hmro hdict=>?_;have hda:d≠a:=by
  rintro rfl;rw [ho] at hD;cases hD
 refine enterAtB G D hA hT hb (fun x hx=>by simp at hx;rcases hx with rfl|rfl<;>simp) fun h₀ tk E' hns U=>?_;have Tk:∀ {h'},(∀ b o,b≠a→b≠d→s.heap.get? b=some o→h'.get? b=some o)→T h':=fun k=>G.mono hT fun b o hbN e=>.inl (k b o (fun z=>absurd hbN (Ww (z▸haN))) (fun z=>absurd hbN (Ww (z▸hdN))) e);have hk:=D.kind;unfold initBody;refine ks_wpAt_execs_cons (ks_wpAt_Assign_Attr (PySem.wpAt_of_wpAny (ldc hk (D.loc _ (by decide)) hns (v:=.int k t) rfl (ldc hk (D.loc _ (by decide)) hns (v:=.ref a) rfl ?_))));have T0:T h₀:=Tk fun b o o_ o_ e=>U.keep b o e;refine set_size (X.inn T0) (U.keep _ _ ho) (U.keep _ _ hD) hc hmro hdict Z.seta Z.nosize fun h1 hd1 hs1=>?_;have keep1:∀ b o,b≠d→h₀.get? b=some o→h1.get? b=some o:=fun b o hb e=>(hs1.2 b hb).trans e;have T1:T h1:=Tk fun b o o_ hbd e=>keep1 b o hbd (U.keep b o e);have ho1:h1.get? a=some (accObj K.acc d #[] n #[]):=keep1 _ _ hda.symm (U.keep _ _ ho);have hLd:s.heap.objs.size≠d:=fun z=>absurd (z▸Heap.lt_size hD) (Nat.lt_irrefl _);have hns1:h1.Ns s.heap.objs.size _:=hns.at' fun o e=>keep1 _ o hLd e;show PySem.wpAt _ _ _ (execs [_] _) _ _ _;refine ks_wpAt_execs_cons (ks_wpAt_Expr_any (at_method hp rfl ?_) (by unfold interactive;show (fd.scope.kind==ScopeKind.module&&_)=false;rw [hk];rfl) rfl);refine sup_base G X D S (rest:=["initial_size"]) rfl T1 ho1 hns1 rfl (by decide) fun h2 e2 U2 pl=>?_;have T2:T h2:=Tk fun b o o_ hbd e=>U2.keep b o (keep1 b o hbd (U.keep b o e));refine sup_found X ⟨cd,hc⟩ Y binds_init T2 e2 (U2.keep _ _ ho1) Y.init (by decide) ?_;have U3:=Ux.push h2 ({ cls:=.type "method-wrapper",data:=.fields #[.builtin "list.__init__",.ref a] }:Obj);have ho3:=U3.keep _ _ (U2.keep _ _ ho1);have hq:=Heap.get?_push_size h2 (o:={ cls:=.type "method-wrapper",data:=.fields #[.builtin "list.__init__",.ref a] }) rfl;refine bound_init hq ho3 ?_;refine nb fun kk=>?_;refine e12 (update_acc ho3 fun o_=>#[]) fun m' u1 u2=>?_;refine kk ?_;have keepF:∀ b o,b≠a→b≠d→s.heap.get? b=some o→((h2.push { cls:=.type "method-wrapper",data:=.fields #[.builtin "list.__init__",.ref a] }).update a (Obj.mapSeq fun o_=>#[])).get? b=some o:=fun b o hba hbd e=>
  (u2.2 b hba).trans (U3.keep b o (U2.keep b o (keep1 b o hbd (U.keep b o e))))
 show PySem.wpAt _ _ _ (execs [] _) _ _ _;refine PySem.wpAt_of_wpAny (wpAny_execs_nil ?_);exact h _ m' _ _ (Tk keepF) u1 ((u2.2 d hda).trans (U3.keep _ _ (U2.keep _ _ hd1))) keepF rfl rfl
end
end Mine.Internal
end
section
open PySem PySem.W PyProof.Rows
open PySem.Calls PySem.Spec
set_option tactic.hygienic false
namespace Mine.Internal
section
variable {prog:Program} {w:World} {C:Cfg} {K:Cst} {T:Heap→Prop} {mg mb:Str→Option Value} {Kf:Frag}
section defs
variable (prog:Program) (w:World) (C:Cfg) (K:Cst) (T:Heap→Prop) (Kf:Frag) (mg mb:Str→Option Value)
@[reducible] noncomputable def AccAll (prog:Program) (K:Cst) (T:Heap→Prop) (Kf:Frag) (mg mb:Str→Option Value):Prop:=(AccTop K T Kf)∧(SupCls K Kf)∧(NewTop K Kf)∧(mg ("_Accumulator":Str)=some (.ref K.acc))∧(findIn Kf (.ref K.acc) "append"=some (some (.builtin "list.append")))∧(∀ {G:Prop},(∀ f ob fd p1 p2 p3 p4 p5 p6 p7 kk,findIn Kf (.ref K.acc) "push"=some (some (.ref f))→FnTop T Kf f ob fd ["self","fws","string"] (pushBody p1 p2 p3 p4 p5 p6 p7 kk)→fd.defaults=.none→(p2.endLine==p6.line)=true→G)→G)∧(∀ {G:Prop},(∀ f ob fd p0 p1 p2 p3 q0 q1 q2 q3 q4,findIn Kf (.ref K.acc) "__init__"=some (some (.ref f))→FnTop T Kf f ob fd ["self","initial_size"] (initBody p0 p1 p2 p3 q0 q1 q2 q3 q4)→SupTop prog K.acc T Kf mg mb f ob fd→(q2.endLine==q3.line)=true→(∀ {s:Shared} (a:Addr) (k:Int) (t:Tok),T s.heap→BindsTo s fd ⟨[.ref a,.int k t],[]⟩ [(("self":Str),.ref a),(("initial_size":Str),.int k t)])→(∀ {s:Shared} (a:Addr),T s.heap→∃ t,BindsTo s fd ⟨[.ref a],[]⟩ [(("self":Str),.ref a),(("initial_size":Str),.int 0 t)])→G)→G)
section
variable {prog:Program} {K:Cst} {T:Heap→Prop} {Kf:Frag} {mg mb:Str→Option Value} (h:AccAll prog K T Kf mg mb)
include h
theorem AccAll.X:AccTop K T Kf:=h.1
theorem AccAll.Y:SupCls K Kf:=h.2.1
theorem AccAll.Z:NewTop K Kf:=h.2.2.1
theorem AccAll.glob:mg ("_Accumulator":Str)=some (.ref K.acc):=h.2.2.2.1
theorem AccAll.app:findIn Kf (.ref K.acc) "append"=some (some (.builtin "list.append")):=h.2.2.2.2.1
theorem AccAll.push:∀ {G:Prop},(∀ f ob fd p1 p2 p3 p4 p5 p6 p7 kk,findIn Kf (.ref K.acc) "push"=some (some (.ref f))→FnTop T Kf f ob fd ["self","fws","string"] (pushBody p1 p2 p3 p4 p5 p6 p7 kk)→fd.defaults=.none→(p2.endLine==p6.line)=true→G)→G:=h.2.2.2.2.2.1
theorem AccAll.init:∀ {G:Prop},(∀ f ob fd p0 p1 p2 p3 q0 q1 q2 q3 q4,findIn Kf (.ref K.acc) "__init__"=some (some (.ref f))→FnTop T Kf f ob fd ["self","initial_size"] (initBody p0 p1 p2 p3 q0 q1 q2 q3 q4)→SupTop prog K.acc T Kf mg mb f ob fd→(q2.endLine==q3.line)=true→(∀ {s:Shared} (a:Addr) (k:Int) (t:Tok),T s.heap→BindsTo s fd ⟨[.ref a,.int k t],[]⟩ [(("self":Str),.ref a),(("initial_size":Str),.int k t)])→(∀ {s:Shared} (a:Addr),T s.heap→∃ t,BindsTo s fd ⟨[.ref a],[]⟩ [(("self":Str),.ref a),(("initial_size":Str),.int 0 t)])→G)→G:=h.2.2.2.2.2.2
end
end defs
theorem HRel.ext {ι ι':List Addr} {h h':Heap} {a:Addr} {o:HO} (r:HRel K ι h a o) (G:Grow K.tabs ι ι' h h') (hk:∀ ob,h.get? a=some ob→h'.get? a=some ob):HRel K ι' h' a o:=
 G.kp.hrel (fun o o_ o_ o_ e=>hk o e) (fun d m hi hn o_=>⟨let ⟨_,ho,_⟩:=Heap.Ns.get hn;G.not_mem hi ho,fun o hc e=>(G.keep _ _ hi e).cls hc⟩) r
theorem acc_track {lo:Nat} {ι:List Addr} {σ:St} {s s':Shared} {a d:Addr} {n:Nat} {P:Params} {tk:Nat} {k:Int} {t:Tok} (I:In0 K T ι σ s) (hT':T s'.heap) (hnew:s.heap.get? a=none) (keep:∀ b o,s.heap.get? b=some o→s'.heap.get? b=some o)
  (ho:s'.heap.get? a=some (accObj K.acc d #[] n #[])) (hd:s'.heap.get? d=some (sizeObj P tk (.int k t))) (hdi:d∉ι) (haN:K.N0≤a) (hg:s'.gens=s.gens) (hos:s'.os=s.os):Nx K T lo (σ++[HO.acc k []]) ι (ι++[a]) s s':=by
 have hai:a∉ι:=fun hm=>by
  obtain ⟨i,hi,e⟩:=List.getElem_of_mem hm;have hs:i<σ.length:=I.rel.len▸hi;refine e12 (I.rel.obj i _ (Qv hs)) fun b hb hr=>?_;rw [Qv hi,e] at hb;obtain rfl:=Qw hb;generalize σ[i]=q at hr;cases hr with
  |lst h1=>rw [hnew] at h1;cases h1
  |acc h1=>rw [hnew] at h1;cases h1
 have hda:d≠a:=by
  rintro rfl;rw [ho] at hd;cases hd
 have G:Grow K.tabs ι (ι++[a]) s.heap s'.heap:=⟨⟨[a],rfl,fun b hb=>by rw [Wz hb];exact hnew⟩,fun b o o_ e=>.inl (keep b o e),fun b o o_ e=>⟨o,keep b o e⟩⟩
 refine ⟨G,fun b o o_ e=>.inl (keep b o e),⟨hT',⟨by simp [I.rel.len],?_,?_,fun b hb=>?_,fun i o e=>?_⟩,by rw [hg];exact I.gens,I.codes.keep ⟨rfl,rfl⟩ (fun P o o_ e=>keep P o e) fun c o vs hi o_ o_ e=>⟨fun hm=>?_,keep c o e⟩⟩,hos,fun g x e=>by rw [hg];exact e⟩
 ·rw [List.nodup_append];refine ⟨I.rel.nodup,by simp,fun x hx b hb=>?_⟩;rw [Wz hb];exact fun z=>hai (z▸hx)
 ·intro b hb;rcases Wx hb with hb|hb
  ·exact I.rel.low b hb
  ·rw [Wz hb];exact haN
 ·obtain ⟨o,e⟩:=I.rel.hid b hb;exact ⟨o,keep b o e⟩
 ·by_cases hlt:i<σ.length
  ·rw [List.getElem?_append_left hlt] at e;refine nb fun kk=>?_;refine e12 (I.rel.obj i o e) fun b h1 h2=>?_;refine kk ?_;exact ⟨b,by rw [List.getElem?_append_left (Qz h1).1];exact h1,h2.ext G fun ob q=>keep _ _ q⟩
  ·have hge:σ.length≤i:=Nat.le_of_not_lt hlt;rw [List.getElem?_append_right hge] at e;cases q:i-σ.length with
   |succ j=>rw [q] at e;cases e
   |zero=>
    rw [q] at e;cases e;refine ⟨a,by rw [List.getElem?_append_right (by rw [I.rel.len];exact hge),I.rel.len,q];rfl,?_⟩;have hns:=size_ns hd;refine HRel.acc (t:=t) ho (fun hm=>?_) hns ⟨by simp,fun y hy=>?_⟩ ⟨_,hd,rfl⟩ .nil
    ·rcases Wx hm with hm|hm
     ·exact hdi hm
     ·exact hda (Wz hm)
    ·have:y≠("_initial_size":Str):=fun z=>by rw [z] at hy;simp at hy
     simp [this]
 ·rcases Wx hm with hm|hm
  ·exact hi hm
  ·rw [Wz hm,hnew] at e;cases e
theorem acc_news (G:Facts K T mg mb) (AA:AccAll prog K T Kf mg mb):SAccNew prog w K T:=by
 intro sc lo args p pos ρ σ σ1 k vs A env e1 hvs hk n hA ι s Q E F I h;refine AA.init fun fI ob fd p0 p1 p2 p3 q0 q1 q2 q3 q4 hf D S hp hb1 hb0=>?_;refine wpAny_Call_NameR (glob_own G F I hk AA.glob rfl ?_);refine callWith_of (P:=fun h=>Kf.In h) (by rw [e1.plain];rfl) (fun h X=>keeps_K AA.Z.keep h X) (evalArgs_any (e1.plain _) (e1.run F I fun rvs s1 ι1 N1 r1=>⟨AA.X.inn N1.inn.top,?_⟩));have X1:=AA.X.inn N1.inn.top;have hN:=n0_le F N1.grow;refine nb fun kk=>?_;obtain ⟨hh,g,dd,tk,os⟩:=s1;refine kk ?_;have U:=(Ux.push hh emptyDict).trans (Ux.push (hh.push emptyDict) (accObj K.acc hh.objs.size #[] 0 #[]));have hsz:(hh.push emptyDict).objs.size=hh.objs.size+1:=Heap.size_push ..;have hT1:T ((hh.push emptyDict).push (accObj K.acc hh.objs.size #[] 0 #[])):=(Nx.heap (lo:=lo) G.mono N1.inn U tk).inn.top;have ho:((hh.push emptyDict).push (accObj K.acc hh.objs.size #[] 0 #[])).get? (hh.objs.size+1)=some (accObj K.acc hh.objs.size #[] 0 #[]):=by rw [←hsz];exact Heap.get?_push_size _ rfl
 have hD:((hh.push emptyDict).push (accObj K.acc hh.objs.size #[] 0 #[])).get? hh.objs.size=some emptyDict:=Qg _ (Heap.get?_push_size _ rfl);have hdep:(A.under (.builtin "type.__call__" ⟨.ref K.acc::rvs,[]⟩)).depth<900:=by
  rw [show (A.under (.builtin "type.__call__" ⟨.ref K.acc::rvs,[]⟩)).depth=A.depth+1 from rfl];have:=hA.1;omega
 refine nb fun kk=>?_;obtain ⟨t,hb⟩:∃ t,BindsTo ⟨(hh.push emptyDict).push (accObj K.acc hh.objs.size #[] 0 #[]),g,dd,tk,os⟩ fd ⟨.ref (hh.objs.size+1)::rvs,[]⟩ [(("self":Str),.ref (hh.objs.size+1)),(("initial_size":Str),.int k t)]:=by
  rcases hvs with rfl|⟨rfl,rfl⟩
  ·exact rvs1 r1 fun u z ra=>rvInt ra fun t z2=>⟨t,by rw [z,z2];exact hb1 (hh.objs.size+1) k t hT1⟩
  ·rw [r1.nil'];exact hb0 (hh.objs.size+1) hT1
 refine kk ?_;refine wpAny_call (make_L (lmakes_of X1 AA.Z.chk AA.Z.made AA.Z.makes) (looks_findIn X1 hf) (fun self=>bind_fn X1 self D.typ) ?_);refine acc_init (k:=k) (t:=t) G AA.X AA.Y AA.Z D S hp hdep hT1 hb ho hD (Nat.le_succ_of_le hN) hN fun s' n' P tk' T' ho' hd' keep' g' o'=>⟨rfl,?_⟩
 have hnone:hh.get? (hh.objs.size+1)=none:=nil_of_size (Nat.le_succ _);have kp:∀ b o,hh.get? b=some o→s'.heap.get? b=some o:=fun b o e=>keep' b o (fun z=>by rw [z,hnone] at e;cases e) (fun z=>absurd (z▸Heap.lt_size e) (Nat.lt_irrefl _)) (U.keep b o e);have N2:Nx K T lo (σ1++[HO.acc k []]) ι1 (ι1++[hh.objs.size+1]) ⟨hh,g,dd,tk,os⟩ s':=acc_track N1.inn T' hnone kp ho' hd' (fresh_not_mem N1.inn.rel) (Nat.le_succ_of_le hN) g' o';refine h _ _ _ (N1.trans N2) (.ref ?_);rw [←N1.inn.rel.len,List.getElem?_append_right (Nat.le_refl _),Nat.sub_self];rfl
theorem tag2 {σ:St} {i:Nat} {xs:List V} (h:tagV σ (.ref i)=some 2):σ[i]?≠some (.lst xs):=fun hs=>by
 unfold tagV at h;dsimp only at h;rw [hs] at h;cases h
noncomputable def ARun (prog:Program) (w:World) (K:Cst) (T:Heap→Prop) (lo:Nat) (σ σ':St) (i:Nat) (vs:List V) (v:V) (A:Around) (f:Addr):Prop:=
 ∀ {ι s a rvs} {Q:Value→Shared→Prop} {E:Value→Shared→Prop},In0 K T ι σ s→ι[i]?=some a→RVs K.hid ι s.heap rvs vs→(∀ v' s',Nx K T lo σ' ι ι s s'→RV K.hid ι s'.heap v' v→Q v' s')→wpAny (model prog w) A (PySem.call (.ref f) (.ref a::rvs)) Q E s
theorem methA_run (G:Facts K T mg mb) (AA:AccAll prog K T Kf mg mb) {lo i:Nat} {k0:Int} {xs ys vs:List V} {v:V} {name:Str} {σ:St} {A:Around} (hA:Deep A) (hlo:lo≤i) (hσ:σ[i]?=some (.acc k0 xs)) (e:methA xs name vs=some (v,ys)) {Z:Prop}
  (j:∀ f ob fd names body,findIn Kf (.ref K.acc) name=some (some (.ref f))→FnTop T Kf f ob fd names body→(name==("_initial_size":Str))=false→ARun prog w K T lo σ (σ.set i (.acc k0 ys)) i vs v A f→Z):Z:=by
 have hA9:A.depth<900:=by have:=hA.1;omega
 refine iMethA e fun x y q1 q2 hl q3 q4=>AA.push fun f ob fd p1 p2 p3 p4 p5 p6 p7 kk hf D hdef hp=>j f ob fd _ _ (by rw [q1];exact hf) D (by rw [q1];decide +kernel) fun I hi rs h=>rvs2 (q2▸rs) fun ra rb z a b=>?_;rw [z];rw [q3,q4] at h;exact acc_push G AA.X AA.app D hdef hp hA9 I hi hlo hσ hl a b fun s3 N3=>h _ _ N3 .none
theorem acc_meths (G:Facts K T mg mb) (AA:AccAll prog K T Kf mg mb):SAccMeth prog w K T:=by
 intro sc lo o name apos args pos ρ σ σ1 σ2 vs k v σ' A env e1 ht1 e2 ht2 e3 hok n hA ι s Q E F I h;refine iMethV e3 (fun x u l t o_ q o_ o_ o_ o_ o_ o_ o_=>?_) (fun i xs ys q o_ hs o_ o_=>?_) fun i k0 xs ys q hlo hs e q5=>?_
 ·rw [q] at ht2;cases ht2
 ·exact absurd hs (tag2 (q▸ht2))
 ·refine methA_run (w:=w) G AA hA.deep hlo hs e fun f ob fd names body hf D hne run=>?_;refine acc_road AA.X e1 ht1 e2 hok hf D.typ hne D.there D.data F I fun i' a rvs s2 ι2 hk hi N r=>?_;obtain rfl:=V.ref.inj (q.symm.trans hk);exact run N.inn hi r fun v' s3 N3 rr=>h _ _ _ (N.trans (q5▸N3)) rr
section
variable {A:Around} {R:Result→Shared→Prop} {I:Addr} {fp wr:List Addr} {GG:Array GenState→Array GenState→Prop} {n:Nat} {P:Nat→Value→Prop} {St0:Nat→Shared→Prop} {E:Value→Shared→Prop} {s:Shared}
set_option tactic.hygienic true in
theorem sum_from (W:WalksS prog w A.in1 I fp wr GG n P St0) (val:Nat→Int) (hval:∀ i v,P i v→∃ t,v=.int (val i) t) (k0:Int) (hfit:∀ j,j<n→InLong (val j)∧InLong (k0+preSum val (j+1))) (S:Addr) (hSf:S∉fp):
  ∀ (k i:Nat) (s:Shared) (tA:Tok) (c:Nat),n-i=k→i≤n→St0 i s→s.heap.get? S=some { cls:=.type "list",dict:=none,data:=.seq #[.int (k0+preSum val i) tA] c,slots:=#[] }→
  (∀ s' t',Moved (S::wr) GG s s'→R (.ok (.ret (.int (k0+preSum val n) t'))) s')→codeAny (model prog w) A (.builtin "sum.loop" ⟨[.ref I,.ref S,rawInt 0,rawInt 0],[]⟩) R s:=by
 obtain hSw:S∉wr:=fun h=>hSf (W.sub _ h);obtain hsub:∀ b∈wr,b∈S::wr:=fun b hb=>Qj _ hb;intro k
 induction k with
 |zero=>
  intro i s tA c hk hi hst hS hR;obtain hin:i=n:=Nat.le_antisymm hi (Nat.le_of_sub_eq_zero hk);subst hin;refine codeAny_builtin F.entry_sum_loop ?_;rw [Around.under_plainId F.plain_sum_loop _];show wpAny _ A.in1 (seqItems? (.ref S) >>=_) _ _ s;refine Qq (wpAny_seqItems hS rfl ?_);show wpAny _ A.in1 (tryCatch (pyNext (.ref I)) _ >>=_) _ _ s;refine Qq (wpAny_tryCatch (W.done s _ _ hst fun s' hm=>?_));exact Qf (hR s' tA (hm.mono hsub))
 |succ k ih=>
  intro i s tA c hk hi hst hS hR;obtain hlt:i<n:=subS hk;refine codeAny_builtin F.entry_sum_loop ?_;rw [Around.under_plainId F.plain_sum_loop _];show wpAny _ A.in1 (seqItems? (.ref S) >>=_) _ _ s;refine Qq (wpAny_seqItems hS rfl ?_);show wpAny _ A.in1 (tryCatch (pyNext (.ref I)) _ >>=_) _ _ s;refine Qq (wpAny_tryCatch (W.item i s _ _ hlt hst fun v s' hP hst' hm=>?_));refine nb fun kk=>?_;refine e11 (hval i v hP) fun t qz1=>?_;obtain rfl:=qz1;obtain hS':=hm.heap S _ hSw hS;refine e02 (hfit i hlt) fun qz0 qz=>?_;obtain ⟨f1,f2⟩:=qz0;obtain ⟨f3,f4⟩:=qz;refine kk ?_;obtain hadd:k0+preSum val (i+1)=k0+preSum val i+val i:=(Int.add_assoc _ _ _).symm;rw [hadd] at f3 f4;obtain hc:((decide (-(2^63)≤val i)&&decide (val i<2^63))&&(decide (-(2^63)≤k0+preSum val i+val i)&&decide (k0+preSum val i+val i<2^63)))=true:=by
   simp -iota only [Bool.and_eq_true,decide_eq_true_eq];exact ⟨⟨f1,f2⟩,f3,f4⟩
  show wpAny _ A.in1 (if (_:Bool)=true then (mkInt (k0+preSum val i+val i) >>=_) else _) _ _ _;refine wT hc (Qq (wpAny_mkInt ?_));show wpAny _ A.in1 (updateSeq S (fun o_=>#[.int (k0+preSum val i+val i) s'.toks]) >>=_) _ _ _;refine Qq ?_;refine wpAny_updateSeq hS' rfl (Qf ⟨plainId_quiet F.plain_sum_loop _,ih (i+1) _ s'.toks _ (subN hk) hlt (W.frame _ s' _ _ hst' (Nat.le_succ _) fun b hb o e=>?_) (by rw [hadd];exact Heap.get?_update_self _ hS' rfl) fun s'' t'' hm''=>?_⟩) (by show 1≤sizeLine;decide) (by show 1≤sizeLine+1;decide)
  ·exact (Heap.get?_update_other _ _ (fun h:S=b=>hSf (by rw [h];exact hb))).trans e
  ·refine hR s'' t'' (Moved.trans W.gtrans ((hm.mono hsub).then_heap (Nat.le_succ _) fun b o hb e=>?_) hm'');exact (Heap.get?_update_other _ _ (fun h:S=b=>hb (by rw [h];exact Qk))).trans e
theorem args_sum2 (a b:Value):argsOk "sum" ⟨[a,b],[]⟩:=by unfold argsOk;kernel_rfl
theorem call_sum_start {x:Value} {k0:Int} {tk0:Tok} {Q:Value→Shared→Prop} (hk0:InLong k0)
  (h:wpAny (model prog w) A.in1 (pyIter x) (fun it s₂=>∃ I fp wr G n P St val,it=.ref I∧WalksS prog w A.in1 I fp wr G n P St∧St 0 s₂∧(∀ b∈fp,b<s₂.heap.objs.size)∧
   (∀ i v,P i v→∃ t,v=.int (val i) t)∧(∀ j,j<n→InLong (val j)∧InLong (k0+preSum val (j+1)))∧
   ∀ s' t',Moved wr G s₂ s'→Q (.int (k0+preSum val n) t') s') E s):
  wpAny (model prog w) A (PySem.call (.builtin "sum") [x,.int k0 tk0]) Q E s:=by
 refine call_function_tree F.kind_sum F.plain_sum F.entry_sum (args_sum2 _ _) ?_;unfold Builtin.«sum»;simp -iota only [List.length_cons,List.length_nil];rw [if_neg (by decide)];refine Qq (wpAny_of_eq (show Builtin.Builtins.bindParams "sum" ["start"] 0 ⟨[.int k0 tk0],[]⟩=pure [some (.int k0 tk0)] from rfl) ?_);refine Qq (Wj h (fun it s₂ h₂=>?_) fun o_ o_ e=>e);refine nb fun kk=>?_;refine e51 (h₂) fun I fp wr G n qz=>?_;obtain ⟨P,St,val,rfl,W,hst,hfp,hval,hfit,hQ⟩:=qz;refine kk ?_;obtain hfl:(decide (-(2^63)≤k0)&&decide (k0<2^63))=true:=by
  have:=hk0;unfold InLong at this;simp -iota only [Bool.and_eq_true,decide_eq_true_eq];exact this
 refine wT hfl ?_;refine Qq (wpAny_rule (Qq (wpAny_mkInt (Qq (Qf ?_)))));simp -iota only [List.forIn_cons,List.forIn_nil];refine Qq (Qq (Qq (wpAny_isInstance (T:="int") (b:=false) (typeIs_int _ _ _) PySem.sub_int_str ?_)));simp -iota only [Bool.false_eq_true,if_false];refine Qf (Qq (Qq (wpAny_isInstance (T:="int") (b:=false) (typeIs_int _ _ _) sub_int_bytes ?_)));simp -iota only [Bool.false_eq_true,if_false];refine Qf (Qq (Qq (wpAny_isInstance (T:="int") (b:=false) (typeIs_int _ _ _) sub_int_bytearray ?_)));simp -iota only [Bool.false_eq_true,if_false];refine Qf (Qf ?_);refine Qq (wpAny_newObj_type ?_ (show (1:Nat)≤sizeLine by decide));obtain hSf:s₂.heap.objs.size∉fp:=fun hm=>Nat.lt_irrefl _ (hfp _ hm);refine Qf ⟨plainId_quiet F.plain_sum_loop _,sum_from W val hval k0 hfit s₂.heap.objs.size hSf n 0 _ s₂.toks 0 rfl (Nat.zero_le _)
  (W.frame 0 s₂ _ _ hst (Nat.le_succ _) fun b o_ o e=>Qg _ e) (by
   show (s₂.heap.push _).get? _=_;rw [Heap.get?_push_size _ rfl];simp -iota [preSum]) fun s' t' hm=>?_⟩
 exact hQ s' t' (hm.drop_new (Nat.le_succ _))
end
set_option tactic.hygienic true in
theorem lookIn_ns {h:Heap} {d:Addr} {m:Str→Option Value} {name:Str} (hn:h.Ns d m):∃ o,h.get? d=some o∧lookIn name o=some (m name):=by
 refine nb fun kk=>?_;obtain ⟨o,es,ep,ho,hd,hk,hm⟩:=hn;refine kk ?_;refine ⟨o,ho,?_⟩;unfold lookIn;rw [hd];dsimp only;have h1:=hm name;unfold nsFind findBy at h1;rw [←Array.find?_toList] at h1;cases he:es.toList.find? (fun e=>e.key.isStr name) with
 |some en=>
  rw [he] at h1;rw [←h1];rfl
 |none=>
  rw [he] at h1;rw [←h1];have:es.toList.any (·.refKey)=false:=by
   rw [List.any_eq_false];intro e hm;refine e21 (hk e (Array.mem_toList_iff.mp hm)) fun x t hx=>?_;simp [DictEntry.refKey,hx]
  rw [if_neg (by rw [this];decide)]
  rfl
theorem slot_lga:Slot "list" "__getattribute__" "list.__getattribute__":=.of (owner:="list") (n:="__getattribute__") (by rw [typeLookup_type,builtinLookup_eq_fast];kernel_rfl) (by decide +kernel) (by decide +kernel) (by decide +kernel)
 (by first|exact .inl (by decide +kernel)|exact .inr (by decide +kernel)) (by rw [isSubtype_type];kernel_rfl)
theorem args_lga (a b:Value):argsOk "list.__getattribute__" ⟨[a,b],[]⟩:=by unfold argsOk;kernel_rfl
theorem acc_size_attr {A:Around} {E:Value→Shared→Prop} {s:Shared} {a d c:Addr} {items:Array Value} {n:Nat} {sl:Array (Option Value)} {m:Str→Option Value} {v:Value} {Q:Value→Shared→Prop} {cd:ClassData}
  (X:Kf.In s.heap) (ho:s.heap.get? a=some (accObj c d items n sl)) (hl:mroIn Kf c (.type "list")=some true) (hns:s.heap.Ns d m) (hm:m ("_initial_size":Str)=some v) (hc:clsIn Kf c=some cd) (hh:cd.hasDict=true) (hv:handedIn v=true)
  (hga:findIn Kf (.ref c) "__getattribute__"=some (some (.builtin "list.__getattribute__"))) (hnoga:findIn Kf (.ref c) "__getattr__"=some none) (hno:findIn Kf (.ref c) "_initial_size"=some none)
  (h:Q v { s with toks:=s.toks+1 }):wpAny (model prog w) A (getAttr (.ref a) ("_initial_size":Str) true) Q E s:=by
 refine e12 (lookIn_ns (name:=("_initial_size":Str)) hns) fun od hod hlook=>?_;rw [hm] at hlook;have I:InstAt s.heap a (accObj c d items n sl) c (some od):=⟨ho,rfl,rfl,hod⟩
 have hf:findObj Kf c (some od) ("_initial_size":Str)=some (.value v):=by
  exact bnd hc (bnd hno (bnd (a:=none) rfl (bnd (a:=false) rfl (bnd (a:=some v) ((if_pos hh).trans hlook) rfl))))
 have t1:=acc_type (prog:=prog) (w:=w) ho;have l1:=looks_find (M:=model prog w) X I hf;have i1:=inst_list (prog:=prog) (w:=w) X ho hl;unfold getAttr getAttrBy;refine Qq (wpAny_mkText (wpAny_holding (Qq (t1 _ _ _ _ (fun o_ o_ e=>e) (Qq (looks_findIn X hga _ _ _ _ (fun o_ o_ e=>e) ?_))))));show wpAny _ _ (getAttrByItsOwn (.ref a) (.str ("_initial_size":Str) s.toks) (.ref c) (.builtin "list.__getattribute__") true true) _ _ _;unfold getAttrByItsOwn;refine Qq (looks_hook X (mc:=.ref c) (r:=none) hnoga _ _ _ _ (fun o_ o_ e=>e) ?_);refine Qq (wpAny_attempt (wpAny_holding ?_));show wpAny _ _ (boundAndCalled (.builtin "list.__getattribute__") (.ref a) (.str ("_initial_size":Str) s.toks)) _ _ _;unfold boundAndCalled;refine Qq (wpAny_of_eq (slot_lga.bind _) ?_);refine call_sub (s:={ s with toks:=s.toks+1 }) (owner:="list") (n:="__getattribute__") (.inl (by decide +kernel)) (by decide +kernel) (by decide +kernel) am_entry_list_getattribute i1 (args_lga _ _) ?_;unfold Builtin.«object.__getattribute__»;refine Qq (Qf (Qq (Qf (Qq (t1 _ _ _ _ (fun o_ o_ e=>e) (Qq (l1 _ _ _ _ (fun o_ o_ e=>e) ?_)))))));refine Qf ⟨v,rfl,?_⟩;dsimp only;rw [handedOut_of hv];exact Qf h
theorem gen_code {A:Around} {E:Value→Shared→Prop} {s:Shared} {ι:List Addr} {σ:St} {lo:Nat} {env:Env} {pos:Pos} {qual:Str} {scope:Scope} {x:Addr×Addr} {Q:Value→Shared→Prop} (G:Facts K T mg mb) (I:In0 K T ι σ s) (hx:x∈K.codes) (hcode:env.code=.ref x.1)
  (h:∀ cv s',Nx K T lo σ ι ι s s'→s.heap.objs.size≤s'.heap.objs.size→s'.gens=s.gens→Q cv s'):wpAny (model prog w) A (genexprCode env pos qual scope) Q E s:=by
 refine nb fun kk=>?_;refine e02 (G.codes I.top x hx) fun hC hP=>?_;refine e02 (I.codes x.2 hP) fun hPN qz=>?_;obtain ⟨ps,hps,htr,ham⟩:=qz;refine kk ?_;have newi:∀ b:Addr,s.heap.objs.size≤b→b∉ι:=fun b hb hm=>absurd (lt_of_mem I.rel hm) (Ww hb);cases hq:codeAmong pos ps.toList with
 |some cv=>exact wpAny_genexprCode_hit hcode (hC.code hps htr) hq (h _ _ (Nx.refl I) (Nat.le_refl _) rfl)
 |none=>
  refine wpAny_genexprCodeX hcode (hC.code hps htr) (hC.tab hps) hq fun c' h' tk hx' hge hlt o_ hrec htb hnew=>?_;refine e13 (hnew) fun P' o_ o_ qz=>?_;obtain ⟨⟨oc,vs,hoc,hcls,_⟩,_⟩:=qz;have hP':=htb.2;have keep:∀ b o,b≠x.2→s.heap.get? b=some o→h'.get? b=some o:=fun b o hb e=>hx' b o hb e;have U:Up K.tabs s.heap h':=⟨fun b o e=>by
   by_cases hb:b=x.2
   ·subst hb;obtain rfl:o=tabObj ps:=Qw (e.symm.trans hps);exact .inr ⟨hP,ps,_,rfl,hP'⟩
   ·exact .inl (keep b o hb e)⟩
  have hsz:s.heap.objs.size≤h'.objs.size:=Qy hge (Wq hlt);have hin:In0 K T ι σ { s with heap:=h',toks:=tk }:=by
   refine ⟨G.mono I.top fun b o o_ e=>U.keep b o e,I.rel.up U,I.gens,fun P2 hP2=>?_⟩;refine e02 (I.codes P2 hP2) fun z1 qz=>?_;obtain ⟨ps2,z2,z3,z4⟩:=qz;have pers:∀ cv,CodeIn ι s.heap cv→CodeIn ι h' cv:=fun cv z=>z.keep fun c o vs hi hc hd e=>⟨hi,keep c o (fun y=>by
    rw [y,hps] at e;cases e;cases hc) e⟩
   refine ⟨z1,?_⟩
   by_cases hb:P2=x.2
   ·subst hb;obtain rfl:ps2=ps:=by
     have:=Qw (z2.symm.trans hps);have:=congrArg Obj.data this;simpa [tabObj] using this
    have hl:(ps2++#[rawInt pos.line,rawInt pos.col,Value.ref c']).toList=ps2.toList++[rawInt pos.line,rawInt pos.col,.ref c']:=by simp
    refine ⟨_,hP',by rw [hl];exact TriplesOk_snoc _ _ _ _ htr,fun pos' cv e=>?_⟩;rw [hl] at e;rcases among_snoc _ htr e with e|rfl
    ·exact pers _ (z4 _ _ e)
    ·exact ⟨c',_,oc,rfl,newi _ hge,hrec,hoc,hcls⟩
   ·exact ⟨ps2,keep P2 _ hb z2,z3,fun pos' cv e=>pers _ (z4 _ _ e)⟩
  exact h _ _ ⟨U.grow ι,fun b o o_ e=>U.keep b o e,hin,rfl,fun o_ o_ e=>e⟩ hsz rfl
theorem walksU_acc {A:Around} (hh:A.handled=none) (I ax c d:Addr) (hne:ax≠I) (items:Array Value) (n:Nat) (sl:Array (Option Value)) (Ts:Nat→Addr) (vals:Nat→Array Value)
  (hit:∀ j,j<items.size→items[j]?=some (.ref (Ts j))) (hTI:∀ j,j<items.size→Ts j≠I):
  WalksU prog w A I (I::ax::(List.range items.size).map Ts) [I] items.size (fun j v=>v=vals j)
   (fun j h=>h.IsListIter I ax j∧h.get? ax=some (accObj c d items n sl)∧∀ k,k<items.size→h.IsTuple (Ts k) (vals k))
   (fun j T h=>(j<items.size∧T=Ts j)∧h.IsListIter I ax (j+1)∧h.get? ax=some (accObj c d items n sl)∧∀ k,k<items.size→h.IsTuple (Ts k) (vals k)) where
 sub:=fun b hb=>by simp at hb;simp [hb]
 frame:=fun o_ o_ o_ st hk=>⟨st.1.at fun o e=>hk I (by simp) o e,hk ax (by simp) _ st.2.1,
  fun k hk'=>(st.2.2 k hk').at fun o e=>hk (Ts k) (Qj _ (Qj _ (List.mem_map.mpr ⟨k,List.mem_range.mpr hk',rfl⟩))) o e⟩
 item:=fun i s Q E hi st hQ=>by
  refine next_seq hh st.1 st.2.1 rfl fun h' hit' hs'=>?_;rw [hit i hi];have tup:∀ k,k<items.size→h'.IsTuple (Ts k) (vals k):=fun k hk'=>(st.2.2 k hk').at fun o e=>hs' _ o (hTI k hk') e;exact hQ (Ts i) (vals i) h' s.toks rfl (tup i hi) ⟨⟨hi,rfl⟩,hit' _ (hit i hi),hs' _ _ hne st.2.1,tup⟩ fun b o hb e=>hs' b o (fun z=>hb (by simp [z])) e
 go:=fun o_ o_ o_ o_ o_ s Q o_ hm hQ=>wpAny_letOwnedTupleGo_listiter hm.2.1 (hQ s.heap hm.2 fun o_ o_ o_ e=>e)
 apart:=fun j T o_ hm hmem=>by
  rcases Wy hmem with e|e
  ·exact hTI j hm.1.1 (hm.1.2▸e)
  ·cases e
 done:=fun s Q E st hQ=>by
  refine next_seq hh st.1 st.2.1 rfl fun h' hit' hs'=>?_;rw [Array.getElem?_eq_none (Nat.le_refl _)];exact hQ h' s.toks fun b o hb e=>hs' b o (fun z=>hb (by simp [z])) e
 self:=fun o_ o_ o_ o_ st hQ=>wpAny_pyIter_listiter st.1 hQ
noncomputable def pairLen (v:V):Int:=(pairOf v).elim 0 fun p=>p.1.length+p.2.length
theorem iTxt {v:V} {s:Str} (e:txtOf v=some s):v=.str s:=by
 cases v with
 |str x=>exact congrArg V.str (Qw e)
 |_=>cases e
theorem iTupOf {v a:V} {r:List V} (e:tupOf v=a::r):v=.tup (a::r):=by
 cases v with
 |tup l=>exact congrArg V.tup e
 |_=>cases e
theorem iPair {v:V} {p:Str×Str} (e:pairOf v=some p):v=.tup [.str p.1,.str p.2]:=by
 unfold pairOf at e;cases q:tupOf v with
 |nil=>rw [q] at e;cases e
 |cons a r=>
  rw [q] at e;rw [iTupOf q];cases r with
  |nil=>cases e
  |cons b r=>exact iT e fun h e=>bI e fun x ex e=>mI e fun y ey e=>by rw [iTxt ex,iTxt ey,List.isEmpty_iff.mp h,←e]
noncomputable def accArr (xs:List V):Array (Int×Tok):=(xs.map fun x=>(pairLen x,0)).toArray
theorem pairLen_nonneg (x:V):0≤pairLen x:=by
 unfold pairLen;cases pairOf x with
 |none=>exact Int.le_refl _
 |some p=>exact Int.natCast_nonneg (p.1.length+p.2.length)
set_option tactic.hygienic true in
theorem accLen_sum:∀ {xs:List V} {n:Int},accLen xs=some n→(xs.map pairLen).sum=n∧∀ x∈xs,∃ a b,x=.tup [.str a,.str b]
 |[],n,e=>by cases e;exact ⟨rfl,by simp⟩
 |x::r,n,e=>bI e fun p ep e=>mI e fun m e1 q=>by
  refine nb fun kk=>?_;refine e02 (accLen_sum e1) fun h1 h2=>?_;refine kk ?_;refine ⟨by rw [List.map_cons,List.sum_cons,h1,←q];exact congrArg (·+m) (by unfold pairLen;rw [ep];rfl),fun y hy=>?_⟩;rcases Wy hy with hy|hy
  ·exact (xi2 _ _ (hy.trans (iPair ep)))
  ·exact h2 y hy
theorem accArr_take (xs:List V) (j:Nat):preSum (numAt (accArr xs)) j=((xs.map pairLen).take j).sum:=by
 rw [preSum_eq];simp [accArr,Function.comp_def]
theorem take_sum_le:∀ {l:List Int},(∀ x∈l,0≤x)→∀ j,0≤(l.take j).sum∧(l.take j).sum≤l.sum
 |[],_,j=>by simp
 |x::l,h,0=>by
  have:=take_sum_le (l:=l) (fun y hy=>h y (Qj _ hy)) 0;have h0:=h x (Qk ..);simp at this⊢;omega
 |x::l,h,j+1=>by
  have:=take_sum_le (l:=l) (fun y hy=>h y (Qj _ hy)) j;have h0:=h x (Qk ..);rw [List.take_succ_cons,List.sum_cons,List.sum_cons];exact ⟨Int.add_nonneg h0 this.1,Int.add_le_add_left this.2 x⟩
theorem accArr_at (xs:List V) {j:Nat} {x:V} (h:xs[j]?=some x):numAt (accArr xs) j=pairLen x:=by
 simp [numAt,accArr,h]
noncomputable def refAt (vs:List Value) (j:Nat):Addr:=match vs[j]? with
 |some (.ref a)=>a
 |_=>0
noncomputable def seqAt (h:Heap) (a:Addr):Array Value:=match h.get? a with
 |some ⟨_,_,.seq its _,_⟩=>its
 |_=>#[]
set_option tactic.hygienic true in
theorem pair_at {H ι:List Addr} {h:Heap} {vs:List Value} {xs:List V} (r:RVs H ι h vs xs) (hp:∀ x∈xs,∃ a b,x=.tup [.str a,.str b]) {j:Nat} (hj:j<vs.length):
  vs[j]?=some (.ref (refAt vs j))∧refAt vs j∉ι∧h.IsTuple (refAt vs j) (seqAt h (refAt vs j))∧∃ a t b u,seqAt h (refAt vs j)=#[.str a t,.str b u]∧xs[j]?=some (.tup [.str a,.str b]):=by
 have hx:j<xs.length:=r.length▸hj;refine e12 (r.get (Qv hx)) fun v e1 e2=>?_;refine e21 (hp _ (List.getElem_mem hx)) fun a b hab=>?_;refine rvTup (hab▸e2) fun q items n z hi hh ho hr=>rvs2 hr fun u1 u2 hl pa pb=>rvStr pa fun t z1 _=>rvStr pb fun u z2 _=>?_;have hq:refAt vs j=q:=by unfold refAt;rw [e1,z]
 have hs:seqAt h q=items:=by unfold seqAt;rw [ho];rfl
 rw [hq,hs];exact ⟨e1.trans (congrArg some z),hi,⟨_,ho,rfl,n,rfl⟩,a,t,b,u,items.toArray_toList.symm.trans (by rw [hl,z1,z2]),(Qv hx).trans (congrArg some hab)⟩
noncomputable def lenElt (e0 e1 e2 e3 e4 e5 e6:Pos):Expr:=.BinOp (.Call (.Name ("len":Str) e0) [.Name ("fws":Str) e1] [] e2) .Add (.Call (.Name ("len":Str) e3) [.Name ("part":Str) e4] [] e5) e6
noncomputable def lenBody (e0 e1 e2 e3 e4 e5 e6 pa pb pt p0 p1 p2 p3 p4 p5 p6:Pos) (kt:Nat) (gsc:Scope):List Stmt:=
 [.Return (some (.Call (.Name ("sum":Str) p0) [.GeneratorExp (lenElt e0 e1 e2 e3 e4 e5 e6) [⟨.Tuple [.Name ("fws":Str) pa,.Name ("part":Str) pb] kt pt,.Name ("self":Str) p1,[],0⟩] gsc p2,.Attribute (.Name ("self":Str) p3) ("_initial_size":Str) p4] [] p5)) p6]
@[reducible] noncomputable def GenSc (gsc:Scope):Prop:=(gsc.isCoroutine=false)∧(gsc.kind=.function)∧(gsc.names.lookup (".0":Str)=some .local)∧(gsc.names.lookup ("fws":Str)=some .local)∧(gsc.names.lookup ("part":Str)=some .local)∧(∀ y∈gsc.names,y.2≠.cell)∧(∀ y∈gsc.names,y.2≠.free)
section
variable {gsc:Scope} (h:GenSc gsc)
include h
theorem GenSc.co:gsc.isCoroutine=false:=h.1
theorem GenSc.kind:gsc.kind=.function:=h.2.1
theorem GenSc.zero:gsc.names.lookup (".0":Str)=some .local:=h.2.2.1
theorem GenSc.fws:gsc.names.lookup ("fws":Str)=some .local:=h.2.2.2.1
theorem GenSc.part:gsc.names.lookup ("part":Str)=some .local:=h.2.2.2.2.1
theorem GenSc.nocell:∀ y∈gsc.names,y.2≠.cell:=h.2.2.2.2.2.1
theorem GenSc.nofree:∀ y∈gsc.names,y.2≠.free:=h.2.2.2.2.2.2
end
section
variable {A:Around} {E:Value→Shared→Prop} {s:Shared} {env:Env}
theorem blt_name {x:Str} {p:Pos} {v:Value} {Q:Value→Shared→Prop} (hk:env.scope.kind=.function) (hx:env.kindOf x=some .globalImplicit) (hg:s.heap.Ns env.globals mg) (hb:s.heap.Ns env.builtins mb) (hv:mg x=none∧mb x=some v) (hd:(x==("__debug__":Str))=false)
  (h:Q v s):wpAny (model prog w) A (eval (.Name x p) env) Q E s:=
 wpAny_Name (ks_loadName_global hk hx (loadGlobal_builtin hg hv.1 hb hv.2 h)) hd
theorem len_elt {e0 e1 e2 e3 e4 e5 e6:Pos} {m:Str→Option Value} {a b:Str} {t u:Tok} {Q:Value→Shared→Prop} (hk:env.scope.kind=.function) (hlen:env.kindOf ("len":Str)=some .globalImplicit) (hf:env.kindOf ("fws":Str)=some .local) (hp:env.kindOf ("part":Str)=some .local)
  (hg:s.heap.Ns env.globals mg) (hb:s.heap.Ns env.builtins mb) (hv:mg ("len":Str)=none∧mb ("len":Str)=some (.builtin "len")) (hL:s.heap.Ns env.locals m) (ha:m ("fws":Str)=some (.str a t)) (hbb:m ("part":Str)=some (.str b u))
  (hfit:(a.length:Int)<2^63∧(b.length:Int)<2^63) (h:∀ t' tk,Q (.int (a.length+b.length) t') { s with toks:=tk }):wpAny (model prog w) A (eval (lenElt e0 e1 e2 e3 e4 e5 e6) env) Q E s:=by
 unfold lenElt;refine wpAny_BinOp (wpAny_Call_NameR (blt_name hk hlen hg hb hv rfl ?_));refine Calls.callWith_builtin rfl (evalArgs_any rfl (wpAny_items_cons (wpAny_Name (wpAny_loadName_local hk hf hL ha (wpAny_items_nil ?_)) rfl) rfl));refine PyProof.Rows.len_str (by omega) ?_;refine wpAny_Call_NameR (blt_name hk hlen hg hb hv rfl ?_);refine Calls.callWith_builtin rfl (evalArgs_any rfl (wpAny_items_cons (wpAny_Name (wpAny_loadName_local hk hp hL hbb (wpAny_items_nil ?_)) rfl) rfl));refine PyProof.Rows.len_str (by omega) ?_;exact add_int (h _ _)
end
end
end Mine.Internal
end
section
open PySem PySem.W PyProof.Rows
open PySem.Calls PySem.Spec
open PySem.AutoSeq1 (wpAny_loadPart')
set_option tactic.hygienic false
namespace Mine.Internal
section
variable {prog:Program} {w:World} {C:Cfg} {K:Cst} {T:Heap→Prop} {mg mb:Str→Option Value} {Kf:Frag}
section
variable {A:Around} {E:Value→Shared→Prop} {s:Shared} {a c d sl:Addr} {items:Array Value} {n:Nat} {sla:Array (Option Value)} {vl:Value} {lo:Option Int}
theorem special_sub {id nm:String} {B:Builtin} {args:List Value} {Q:Option Value→Shared→Prop} (X:Kf.In s.heap) (ho:s.heap.get? a=some (accObj c d items n sla)) (hl:mroIn Kf c (.type "list")=some true) (hf:findIn Kf (.ref c) (Str.ofString nm)=some (some (.builtin id)))
  (slot:Slot "list" (Str.ofString nm) id) (hk:builtinKind id=some .slot∨builtinKind id=some .method) (hs:splitId id=some ("list",nm)) (hp:plainId id=true) (he:entryFor table id=some B) (ha:argsOk id ⟨.ref a::args,[]⟩)
  (hc:wpAny (model prog w) A.in1 (B ⟨.ref a::args,[]⟩) (fun fin s'=>∃ v,fin=.done (.ret v)∧Q (some v) s') E s):wpAny (model prog w) A (callSpecial? (.ref a) (Str.ofString nm) args) Q E s:=by
 unfold callSpecial?;refine Qq ((looks_special (acc_type (prog:=prog) (w:=w) ho) (looks_findIn (M:=model prog w) X hf)).here ?_);refine wpAny_holding (Qq (((Looks.of_pure (slot.bind _):Looks (model prog w) s.heap (bindSpecial (.builtin id) (.ref a)) (.builtin id,[.ref a]))).here ?_));exact Qq (call_sub (Q:=fun v s'=>wpAny (model prog w) A (pure (some v)) Q E s') hk hs hp he (inst_list X ho hl) ha (Wj hc (fun fin s' h=>let ⟨v,h1,h2⟩:=h;⟨v,h1,Qf h2⟩) fun _ _ h=>h))
theorem seqkey_sub {i:Value} {nm:Str} {Q:Value→Shared→Prop} (X:Kf.In s.heap) (ho:s.heap.get? a=some (accObj c d items n sla)) (hq:(seqItemTypes.all fun n=>subIn Kf (.ref c) (.type n)==some false)=true) (h:Q i s):wpAny (model prog w) A (sequenceKey (.ref a) i nm) Q E s:=by
 unfold sequenceKey;refine Qq ((acc_type (prog:=prog) (w:=w) ho).here ?_);refine Qq ((anyM_none X hq).here ?_);rw [if_pos (show (!false)=true from rfl)];exact Qf h
theorem slice_type {v u x:Value} (hs:s.heap.IsSliceOf sl v u x):s.TypeIs (.ref sl) "slice":=let ⟨os,hos,hcs,_⟩:=hs;⟨os,hos,hcs⟩
theorem sub_none {v u x:Value} {Q:Option Int→Shared→Prop} (hs:s.heap.IsSliceOf sl v u x) (h:Q none s):wpAny (model prog w) A (Builtin.List.listSubscript? (.ref sl)) Q E s:=by
 unfold Builtin.List.listSubscript?;refine Qq (wpAny_specialOf (slice_type hs) slice_no_index ?_);exact Qf h
theorem parts_from {Q:Value×Value×Value→Shared→Prop} (hs:s.heap.IsSliceOf sl vl .none .none) (pl:IsPart vl lo) (h:Q (rawPart lo,rawPart none,rawPart none) s):wpAny (model prog w) A (Builtin.List.listSliceParts (.ref sl)) Q E s:=by
 obtain ⟨os,hos,hcs,hds⟩:=hs;rw [listSliceParts_eq];refine Qq (wpAny_field hos hds (x:=.none) rfl (Qq (wpAny_listPart .none ?_)));rw [if_neg (by decide)];exact Qq (wpAny_field hos hds (x:=vl) rfl (Qq (wpAny_listPart pl (Qq (wpAny_field hos hds (x:=.none) rfl (Qq (wpAny_listPart .none (Qf h))))))))
theorem items_at {o:Obj} {xs:Array Value} {m:Nat} {Q:Array Value→Shared→Prop} (ho:s.heap.get? a=some o) (hd:o.data=.seq xs m) (h:Q xs s):wpAny (model prog w) A (Builtin.List.listItems (.ref a)) Q E s:=by
 unfold Builtin.List.listItems;exact Qq (wpAny_seqItems ho hd (Qf h))
theorem acc_getslice {Q:Value→Shared→Prop} (X:Kf.In s.heap) (ho:s.heap.get? a=some (accObj c d items n sla)) (hl:mroIn Kf c (.type "list")=some true) (hq:(seqItemTypes.all fun n=>subIn Kf (.ref c) (.type n)==some false)=true)
  (hf:findIn Kf (.ref c) "__getitem__"=some (some (.builtin "list.__getitem__"))) (hs:s.heap.IsSliceOf sl vl .none .none) (pl:IsPart vl lo) (hsz:items.size≤sizeLine)
  (h:Q (.ref s.heap.objs.size) { s with heap:=s.heap.push { cls:=.type "list",data:=.seq (slicePick items lo none none) } }):wpAny (model prog w) A (getItem (.ref a) (.ref sl)) Q E s:=by
 unfold getItem;refine wpAny_holding (Qq (seqkey_sub X ho hq (Qq (special_sub X ho hl hf slot_list_getitem (.inr (by decide +kernel)) (by decide +kernel) (by decide +kernel) entry_list_getitem (args_list_getitem _ _) ?_))));show wpAny _ _ (Builtin.List.listSubscript? (.ref sl) >>=_) _ _ s;refine Qq (sub_none hs ?_);show wpAny _ _ (typeOf (.ref sl) >>=_) _ _ s;refine Qq (wpAny_typeOf (slice_type hs) ?_);rw [if_neg (by decide)];refine Qq (parts_from hs pl (Qq (items_at ho rfl ?_)));refine Qq (wpAny_of_eq (sliceIndices_raw lo none none items.size (fun h=>nomatch h)) ?_);exact Qq (wpAny_newObj_type (Qf ⟨_,rfl,Qf h⟩) (Qy (slicePick_size_le items lo none none) hsz))
noncomputable def cutF (b:Int×Int×Int) (xs:Array Value):Array Value:=xs.extract 0 b.1.toNat++#[]++xs.extract (max b.1 b.2.1).toNat xs.size
theorem acc_setslice {Q:Unit→Shared→Prop} {b:Addr} {m:Nat} (X:Kf.In s.heap) (ho:s.heap.get? a=some (accObj c d items n sla)) (hl:mroIn Kf c (.type "list")=some true) (hq:(seqItemTypes.all fun n=>subIn Kf (.ref c) (.type n)==some false)=true)
  (hf:findIn Kf (.ref c) "__setitem__"=some (some (.builtin "list.__setitem__"))) (hs:s.heap.IsSliceOf sl vl .none .none) (pl:IsPart vl lo) (hsz:items.size≤sizeLine) (hb:s.heap.get? b=some (lstObj #[] m)) (hab:a≠b)
  (h1:(sliceBounds lo none none items.size).2.2=1) (h2:(cutF (sliceBounds lo none none items.size) items).size≤sizeLine+1)
  (h:Q () { s with heap:=s.heap.update a (Obj.mapSeq (cutF (sliceBounds lo none none items.size))) }):wpAny (model prog w) A (setItem (.ref a) (.ref sl) (.ref b)) Q E s:=by
 unfold setItem;refine wpAny_holding (Qq (seqkey_sub X ho hq (Qq (special_sub X ho hl hf slot_list_setitem (.inl (by decide +kernel)) (by decide +kernel) (by decide +kernel) entry_list_setitem (args_list_setitem _ _ _) ?_))));show wpAny _ _ (Builtin.List.listSubscript? (.ref sl) >>=_) _ _ s;refine Qq (sub_none hs ?_);show wpAny _ _ (typeOf (.ref sl) >>=_) _ _ s;refine Qq (wpAny_typeOf (slice_type hs) ?_);rw [if_neg (by decide)];refine Qq (parts_from hs pl ?_);refine wF (show Builtin.List.listSameRef (.ref a) (.ref b)=false from beq_eq_false_iff_ne.mpr hab) ?_;refine Qq ?_;unfold Builtin.List.listAllItems;refine Qq (wpAny_typeOf (T:="list") ⟨_,hb,rfl⟩ (wT rfl (items_at hb rfl ?_)));refine Qq (items_at ho rfl ?_);refine Qq (wpAny_of_eq (sliceIndices_raw lo none none items.size (fun h=>nomatch h)) ?_);refine wT (beq_iff_eq.mpr h1) (Qq (wpAny_rule ?_));refine wF (decide_eq_false (show ¬items.size+0>sizeLine from Ww hsz)) ?_;refine Qq (listUpdate_at ho rfl ?_ hsz h2);exact Qq (wpAny_letGo (Qf ⟨_,rfl,Qf h⟩))
end
end
end Mine.Internal
end
section
open PySem PySem.W PyProof.Rows
open PySem.Calls PySem.Spec
set_option tactic.hygienic false
namespace Mine.Internal
section
variable {prog:Program} {w:World} {C:Cfg} {K:Cst} {T:Heap→Prop} {mg mb:Str→Option Value} {Kf:Frag}
theorem clamp_from {n:Nat} {i:Int} (h:0≤i) (d:Nat):clampI n d (.int i)=some (min i.toNat n):=by
 show some (if i<0 then _ else _)=_;rw [if_neg (Int.not_lt.mpr h)]
theorem pick_drop {items:Array Value} {i:Int} (h:0≤i):(slicePick items (some i) none none).toList=items.toList.drop i.toNat:=by
 refine (slice_pick (lo:=.int i) (hi:=.none) (clamp_from h 0) rfl).trans ?_;unfold sliceL;rw [List.take_of_length_le (Nat.le_of_eq Array.length_toList)];exact (Nat.le_total i.toNat items.size).elim (fun q=>by rw [Nat.min_eq_left q]) fun q=>by rw [Nat.min_eq_right q,List.drop_of_length_le (Nat.le_of_eq Array.length_toList),List.drop_of_length_le (Qy (Nat.le_of_eq Array.length_toList) q)]
theorem cut_bounds {n:Nat} {i:Int} (h:0≤i):sliceBounds (some i) none none n=(((min i.toNat n:Nat):Int),(n:Int),1):=slice_bounds (lo:=.int i) (hi:=.none) (clamp_from h 0) rfl
theorem cut_arr {α:Type} (items:Array α) (i:Nat):(items.extract 0 (min i items.size)++#[]++items.extract (max ((min i items.size:Nat):Int) (items.size:Int)).toNat items.size).toList=items.toList.take i:=by
 rw [Int.max_eq_right (Int.ofNat_le.mpr (Nat.min_le_right _ _)),Int.toNat_natCast];simp
theorem cut_take {items:Array Value} {i:Int} (h:0≤i):(cutF (sliceBounds (some i) none none items.size) items).toList=items.toList.take i.toNat:=by
 rw [cut_bounds h];exact cut_arr items _
section
variable {A:Around} {E:Value→Shared→Prop} {s:Shared} {a c d sl:Addr} {items:Array Value} {n:Nat} {sla:Array (Option Value)}
theorem tail_acc {value slice:Expr} {i:Value} {ops:List Value} {id:String} {Q:Value→Shared→Prop} (X:Kf.In s.heap) (ho:s.heap.get? a=some (accObj c d items n sla)) (hf:findIn Kf (.ref c) "__getitem__"=some (some (.builtin id)))
  (hg:wpAny (model prog w) A (getItem (.ref a) i) Q E s) (hs:subscripted slice false (.ref a) i=operate ops (getItem (.ref a) i)):wpAny (model prog w) A (subscriptTail value slice (.ref a) i) Q E s:=by
 unfold subscriptTail getitemInPython;refine Qq (Qq ((looks_special (acc_type (prog:=prog) (w:=w) ho) (looks_findIn (M:=model prog w) X hf)).here (Qf ?_)));rw [hs];exact Qq (wpAny_operating (Wj hg (fun r s₃ h₃=>Qq (wpAny_letTemporaryGo (Qf h₃))) fun _ _ x=>x))
end
section
variable {sc:Scope} {lo:Nat} {o x e:Expr} {p q q1:Pos} {ρ:Rho} {σ σ1 σ2 σ3:St} {A:Around} {env:Env} {j:Nat} {k0 i:Int} {xs:List V}
theorem acc_slice (G:Facts K T mg mb) (X:AccTop K T Kf) (hf:findIn Kf (.ref K.acc) "__getitem__"=some (some (.builtin "list.__getitem__"))) (h1:SGood prog w K T lo σ σ1 (.ref j) A env sc ρ (eval o env)) (h2:SGood prog w K T lo σ1 σ2 (.int i) A env sc ρ (evalPart (some x) env)) (hσ:σ2[j]?=some (.acc k0 xs)) (h0:0≤i) (hl:xs.length≤4096):
  SGood prog w K T lo σ σ2 (.fro (xs.drop i.toNat)) A env sc ρ (eval (.Subscript o (.Slice (some x) none none q) p) env):=fun F I h=>by
 refine Subscript_ (h1 F I fun ro s1 ι1 N1 r1=>wpAny_Slice (h2 (F.grow N1.grow) N1.inn fun rl s2 ι2 N2 r2=>evalPart_none_step (Qf ?_)));have N4:Nx K T lo σ2 ι2 ι2 s2 { s2 with heap:=s2.heap.push { cls:=.type "slice",data:=.fields #[rl,.none,.none] } }:=Nx.heap G.mono N2.inn (Ux.push _ _) s2.toks;refine rvRef ((r1.grow N2.grow).grow N4.grow) fun a z hi=>rvInt r2 fun t z2=>acc_at N4.inn hi hσ fun items n d m _ sl ho hd hn hkk ht hrs=>?_;subst z z2;refine tail_acc (X.inn N4.inn.top) ho hf (acc_getslice (X.inn N4.inn.top) ho X.list X.noseq hf (Heap.IsSliceOf.new _ _ _ _) (.int i t) (size_line (by rw [hrs.size];exact hl)) ?_) rfl;have N5:Nx K T lo σ2 ι2 ι2 _ _:=Nx.heap G.mono N4.inn (Ux.push _ (lstObj (slicePick items (some i) none none) 0)) s2.toks;exact h _ _ _ ((N1.trans N2).trans (N4.trans N5)) (RV.newList N4.inn.rel (by rw [pick_drop h0];exact hrs.drop _))
theorem acc_cut (G:Facts K T mg mb) (X:AccTop K T Kf) (hf:findIn Kf (.ref K.acc) "__setitem__"=some (some (.builtin "list.__setitem__"))) (hs:swapsWith e (some (.Subscript o (.Slice (some x) none none q1) q)) p.line env=pure false) (h1:SGood prog w K T lo σ σ1 (.fro []) A env sc ρ (eval e env)) (h2:SGood prog w K T lo σ1 σ2 (.ref j) A env sc ρ (eval o env))
  (h3:SGood prog w K T lo σ2 σ3 (.int i) A env sc ρ (evalPart (some x) env)) (hlo:lo≤j) (hσ:σ3[j]?=some (.acc k0 xs)) (h0:0≤i) (hl:xs.length≤4096):
  XGood prog w K T lo σ (σ3.set j (.acc k0 (xs.take i.toNat))) .next ρ ρ A env sc (exec (.Assign [.Subscript o (.Slice (some x) none none q1) q] e p) env):=fun F I h=>by
 refine wpAny_Assign_Subscript (h1 F I fun rv s1 ι1 N1 r1=>h2 (F.grow N1.grow) N1.inn fun ro s2 ι2 N2 r2=>wpAny_Slice (h3 ((F.grow N1.grow).grow N2.grow) N2.inn fun rl s3 ι3 N3 r3=>evalPart_none_step (Qf ?_))) hs;have N4:Nx K T lo σ3 ι3 ι3 s3 { s3 with heap:=s3.heap.push { cls:=.type "slice",data:=.fields #[rl,.none,.none] } }:=Nx.heap G.mono N3.inn (Ux.push _ _) s3.toks;refine rvRef ((r2.grow N3.grow).grow N4.grow) fun a z hi=>rvInt r3 fun t z2=>rvFro (((r1.grow N2.grow).grow N3.grow).grow N4.grow) fun b items0 n0 z3 hb1 hb2 hb3 hb4=>acc_at N4.inn hi hσ fun items n d m _ sl ho hd hn hkk ht hrs=>?_;subst z z2 z3;have hz:items0=#[]:=Array.toList_eq_nil_iff.mp hb4.nil';subst hz;have hsz:items.size≤sizeLine:=size_line (by rw [hrs.size];exact hl);refine acc_setslice (X.inn N4.inn.top) ho X.list X.noseq hf (Heap.IsSliceOf.new _ _ _ _) (.int i t) hsz hb3 (fun z=>hb1 (z▸List.mem_of_getElem? hi)) (by rw [cut_bounds h0]) ?_ ?_
 ·rw [←Array.length_toList,cut_take h0,List.length_take];exact Qy (Nat.min_le_right _ _) (Nat.le_succ_of_le (by rw [Array.length_toList];exact hsz))
 ·refine nb fun kk=>?_;refine e12 (update_acc ho (cutF (sliceBounds (some i) none none items.size))) fun m' u1 u2=>?_;refine kk ?_;have N6:=Nx.setA (lo:=lo) (ys:=xs.take i.toNat) G.mono N4.inn hi hlo hσ hd hn hkk ht u2 s3.toks u1 (by rw [cut_take h0];exact hrs.take _);exact h _ _ _ ((N1.trans N2).trans (N3.trans (N4.trans N6))).toS (((((F.grow N1.grow).grow N2.grow).grow N3.grow).grow N4.grow).grow N6.grow) .next
end
end
section
variable {prog:Program} {w:World} {C:Cfg} {K:Cst} {T:Heap→Prop} {mg mb mg':Str→Option Value} {Kf:Frag}
section
variable {n lo:Nat} {f:Str} {fn:Fn} {a:Addr} {o:Obj} {fd:FuncData} {vs:List V} {ks:List (Str×B)} {ρ ρ':Rho} {σ σ1:St} {fl:Fl} {v u:V} {A:Around}
theorem mfn_imp (G:Facts K T mg mb) (D:FnAt K T mg' f fn a o fd) (hok:okSc fn.scope=true) (hb:bindV fn.params vs ks=some ρ) (e:∀ env',∀ {env},Ok (A.deeper env') n→env.scope=fn.scope→wellSc fn.scope→XGood prog w K T lo σ σ1 fl ρ.reverse ρ' (A.deeper env') env fn.scope (execs fn.body env)) (hA:Ok A (n+1))
  (hf:flV fl=some v):FGood prog w K T lo σ vs ks v σ1 A a:=fun I hN hv hk h=>by
 refine e13 (D.binds hb (H:=K.hid) I.top hv hk) fun bs b1 b2 b3=>?_;exact body_call (args:=⟨_,_⟩) G e hA I hN (okSc_iff hok) D.scope D.closure D.free (D.there I.top) D.data D.body D.globals D.builtins (D.code I.top) D.lim D.host b1 b3 (by rw [b2]) fun rf s1 ι1 N1 R1=>h _ _ _ N1 (flV_rv R1 hf)
end
theorem acc_fns (X:AccTop K T Kf) (h:∀ nm fn,C.meths nm=some fn→(nm==("_initial_size":Str))=false∧∃ f ob fd,findIn Kf (.ref K.acc) nm=some (some (.ref f))∧typeIn Kf (.ref f)=some (.type "function")∧FnAt K T (fun _=>some (.ref f)) nm fn f ob fd):SAccFn prog w C K T:=by
 intro nm fn hm sc lo o apos pos args ρ σ σ1 σ2 σ3 A env j vs v h1 ht h2 hok hf ι s Q E F I k;refine nb fun kk=>?_;obtain ⟨hne,f,ob,fd,g1,g2,D⟩:=h nm fn hm;refine kk ?_;refine acc_road X h1 ht h2 hok g1 g2 hne D.there D.data F I fun i a rvs s2 ι2 hk hi N r=>?_;obtain rfl:=V.ref.inj hk;exact hf D N.inn (n0_le F N.grow) (.cons (.ref hi) r) .nil fun rv s3 ι3 N3 r3=>k _ _ _ (N.trans N3) r3
end
section
variable {prog:Program} {w:World} {C:Cfg} {K:Cst} {T:Heap→Prop} {mg mb mg':Str→Option Value} {Kf:Frag}
section
variable {A:Around} {E:Value→Shared→Prop} {s:Shared} {env:Env}
theorem glob_name {x:Str} {p:Pos} {v:Value} {Q:Value→Shared→Prop} (hk:env.scope.kind=.function) (hx:env.kindOf x=some .globalImplicit) (hg:s.heap.Ns env.globals mg) (hv:mg x=some v) (hd:(x==("__debug__":Str))=false)
  (h:Q v s):wpAny (model prog w) A (eval (.Name x p) env) Q E s:=
 wpAny_Name (ks_loadName_global hk hx (loadGlobal_global hg hv h)) hd
noncomputable def strElt (e0 e1 e2 e3 e4 e5:Pos) (k:Nat):Expr:=.Call (.Attribute (.Name ("EMPTYSTRING":Str) e0) ("join":Str) e1) [.Tuple [.Name ("fws":Str) e2,.Name ("part":Str) e3] k e4] [] e5
theorem str_elt {e0 e1 e2 e3 e4 e5:Pos} {kk:Nat} {m:Str→Option Value} {a b:Str} {t u te:Tok} {Q:Value→Shared→Prop} (hk:env.scope.kind=.function) (hes:env.kindOf ("EMPTYSTRING":Str)=some .globalImplicit) (hf:env.kindOf ("fws":Str)=some .local) (hp:env.kindOf ("part":Str)=some .local)
  (hg:s.heap.Ns env.globals mg) (hv:mg ("EMPTYSTRING":Str)=some (.str ⟨#[]⟩ te)) (hL:s.heap.Ns env.locals m) (ha:m ("fws":Str)=some (.str a t)) (hbb:m ("part":Str)=some (.str b u)) (hline:(e1.endLine==e5.line)=true)
  (hok:a.length+b.length≤4096) (h:∀ t' tk,Q (.str (Txt.join ⟨#[]⟩ [a,b]) t') { s with heap:=s.heap.push (tupObj #[.str a t,.str b u] 0),toks:=tk }):wpAny (model prog w) A (eval (strElt e0 e1 e2 e3 e4 e5 kk) env) Q E s:=by
 unfold strElt;have hpos:methodCallPos true (.Name ("EMPTYSTRING":Str) e0) env e1 e5=pure e5:=by unfold methodCallPos;simp [hline]
 rw [arm_eval_Call];refine Qq (glob_name hk hes hg hv (by decide) (Qq (wpAny_standAt ?_)));unfold methodCall;rw [show methodCallForm _ _ _=true from rfl];refine Qq (wpAny_holding (wT rfl (GM.join ?_)));refine Qq (wpAny_of_eq hpos ?_);refine Calls.callWith_builtin rfl (evalArgs_any rfl (wpAny_items_cons (wpAny_Tuple_spliced (wpAny_items_cons (wpAny_Name (wpAny_loadName_local hk hf hL ha (wpAny_items_cons (wpAny_Name (wpAny_loadName_local hk hp hL hbb (wpAny_items_nil ⟨by show 2≤sizeLine;decide,?_⟩)) rfl) rfl)) rfl) rfl)) rfl));refine wpAny_items_nil ?_;exact join_tuple (ys:=[a,b]) ⟨_,Heap.get?_push_size _ rfl,rfl,0,rfl⟩ (.cons _ _ (.cons _ _ .nil)) (Qy hok (by decide)) h
end
end
section
variable {prog:Program} {w:World} {C:Cfg} {K:Cst} {T:Heap→Prop} {mg mb:Str→Option Value} {Kf:Frag}
theorem gen_nx {lo:Nat} {ι:List Addr} {σ:St} {s s4 s':Shared} {wr:List Addr} {gs:GenState} {tk:Nat} {h5:Heap} (hT:Mono K T) (I:In0 K T ι σ s) (N4:Nx K T ι.length σ ι ι s s4) (hg4:s4.gens=s.gens) (keep5:∀ b o,s4.heap.get? b=some o→h5.get? b=some o) (hb:gs.bare=true)
  (hwr:∀ b∈wr,s.heap.get? b=none) (hcode:∀ b∈wr,∀ o,s4.heap.get? b=some o→o.cls≠.type "code") (hm:Moved wr (GenOnlyQ s4.gens.size) { s4 with gens:=s4.gens.push gs,heap:=h5,toks:=tk } s'):Nx K T lo σ ι ι s s':=by
 have fin:∀ b o,b∉wr→s4.heap.get? b=some o→s'.heap.get? b=some o:=fun b o hbw e=>hm.heap b o hbw (keep5 b o e);have offw:∀ b o,s.heap.get? b=some o→b∉wr:=fun b o e hbw=>by rw [hwr b hbw] at e;cases e
 have U:Up K.tabs s.heap s'.heap:=⟨fun b o e=>(N4.keep b o (by simp) e).trans fun o' e'=>.inl (fin b o' (offw b o e) e')⟩
 have hbare:AllBare s'.gens:=GenOnlyQ.bare hm.gens (AllBare.push N4.inn.gens hb);refine ⟨U.grow ι,fun b o o_ e=>U.keep b o e,⟨hT I.top fun b o o_ e=>U.keep b o e,I.rel.up U,hbare,fun P hP=>?_⟩,hm.os.trans N4.os,fun g x e=>?_⟩
 ·obtain ⟨z1,ps,z2,z3,z4⟩:=N4.inn.codes P hP;refine nb fun kk=>?_;refine e02 (I.codes P hP) fun o_ qz=>?_;obtain ⟨ps0,z5,_⟩:=qz;refine kk ?_;exact ⟨z1,ps,fin P _ (offw P _ z5) z2,z3,fun pos cv e=>(z4 pos cv e).keep fun c o vs hi hc hd e=>⟨hi,fin c o (fun hbw=>hcode c hbw o e hc) e⟩⟩
 ·have e4:s4.gens[g]?=some x:=by rw [hg4];exact e
  have hlt:g<s4.gens.size:=(Array.getElem?_eq_some_iff.mp e4).1;have e5:(s4.gens.push gs)[g]?=some x:=by
   rw [Array.getElem?_push];rw [if_neg (Nat.ne_of_lt hlt)];exact e4
  rcases hm.gens with z|⟨⟨_,z⟩,_⟩
  ·rw [z];exact e5
  ·rw [z g (Nat.ne_of_lt hlt)];exact e5
theorem pass_all (n:Nat):passing (fun o_=>true) n 0=List.range n:=by simp -iota [passing]
theorem xi9 {α β γ δ ε ζ η θ κ:Sort _} {P:α→β→γ→δ→ε→ζ→η→θ→κ→Prop} (a:α) (b:β) (c:γ) (d:δ) (e:ε) (f:ζ) (g:η) (i:θ) (j:κ) (h:P a b c d e f g i j):∃ a b c d e f g i j,P a b c d e f g i j:=⟨a,b,c,d,e,f,g,i,j,h⟩
@[reducible] noncomputable def EltAt (prog:Program) (w:World) (mg mb:Str→Option Value) (gsc:Scope) (elt:Expr) (xs:List V) (Fv:Nat→Value→Prop):Prop:=
 ∀ {A:Around} {E:Value→Shared→Prop} {s:Shared} {m:Str→Option Value} {env:Env} {j:Nat} {x y:Str} {t u:Tok} {Q:Value→Shared→Prop},env.scope=gsc→s.heap.Ns env.globals mg→s.heap.Ns env.builtins mb→s.heap.Ns env.locals m→m ("fws":Str)=some (.str x t)→m ("part":Str)=some (.str y u)→
  xs[j]?=some (.tup [.str x,.str y])→(∀ v h' tk',Fv j v→(∀ b o,s.heap.get? b=some o→h'.get? b=some o)→Q v { s with heap:=h',toks:=tk' })→wpAny (model prog w) A (eval elt env) Q E s
set_option tactic.hygienic true in
theorem acc_gen {A:Around} {E:Value→Shared→Prop} {s:Shared} {ι:List Addr} {σ:St} {i:Nat} {a f:Addr} {k:Int} {xs:List V} {ob:Obj} {fd:FuncData} {body:List Stmt} {elt:Expr} {pa pb pt p1 p2:Pos} {kt:Nat} {gsc:Scope} {Fv:Nat→Value→Prop} {Q:Value→Shared→Prop} {h₀:Heap} {tk:Nat}
  (G:Facts K T mg mb) (X:AccTop K T Kf) (D:FnTop T Kf f ob fd ["self"] body) (gen:GenSc gsc) (hcode:∃ x∈K.codes,fd.code=.ref x.1) (hN:K.N0≤s.heap.objs.size) (hA:A.depth<900) (hh:A.handled=none) (I:In0 K T ι σ s) (hi:ι[i]?=some a) (hσ:σ[i]?=some (.acc k xs))
  (hns:h₀.Ns s.heap.objs.size (fun x=>((["self"]:List Str).zip [Value.ref a]).reverse.lookup x)) (U:Ux s.heap h₀) (hpairs:∀ x∈xs,∃ a b,x=.tup [.str a,.str b]) (helt:EltAt prog w mg mb gsc elt xs Fv)
  (h:∀ n,n=xs.length→∀ a' s3 s5 fp wr GG St,WalksS prog w A.in4 a' fp wr GG n (fun j y=>j<n∧Fv j y) St→St 0 s5→(∀ b∈fp,b<s5.heap.objs.size)→a'∈fp→(∀ i s',St i s'→∃ g,s'.heap.IsGen a' g)→Nx K T ι.length σ ι ι s s3→s3.heap.Ns s.heap.objs.size (fun x=>((["self"]:List Str).zip [Value.ref a]).reverse.lookup x)→
   (∀ b o,s3.heap.get? b=some o→s5.heap.get? b=some o)→(∀ lo tk s',Moved wr GG { s5 with toks:=tk } s'→Nx K T lo σ ι ι s s')→Q (.ref a') s5):
  wpAny (model prog w) A (eval (.GeneratorExp elt [⟨.Tuple [.Name ("fws":Str) pa,.Name ("part":Str) pb] kt pt,.Name ("self":Str) p1,[],0⟩] gsc p2) (callEnv fd s.heap.objs.size f)) Q E { s with heap:=h₀,toks:=tk }:=by
 have N1:Nx K T ι.length σ ι ι s { s with heap:=h₀,toks:=tk }:=Nx.heap G.mono I U tk;refine acc_at N1.inn hi hσ fun items nn d m t sl ho hd hn hkk ht' hrs=>?_;have hsz:=hrs.size;have henv:(callEnv fd s.heap.objs.size f).globals=mainGlobals:=D.globals;have henb:(callEnv fd s.heap.objs.size f).builtins=builtinsNs:=D.builtins;refine wpAny_GeneratorExp_walksQT hh gen.co (closureFor_none gen.nofree) gen.nocell gen.zero gen.fws gen.part (by decide) gen.kind (Nat.lt_trans hA (by decide)) ?_ (fun x=>rfl);refine ldc D.kind (D.loc _ (Qk ..)) hns (v:=.ref a) rfl ?_;refine acc_iter (X.inn N1.inn.top) ho X.list X.iter ?_;have U2:=Ux.push h₀ ({ cls:=.type "list_iterator",data:=.fields #[.ref a,.int 0 0] }:Obj);have N2:=N1.trans (Nx.heap (lo:=ι.length) G.mono N1.inn U2 tk);refine ⟨G.lim N2.inn.top,?_⟩;refine nb fun kk=>?_;refine e12 hcode fun x hx hcode=>?_;refine kk ?_;refine gen_code (lo:=ι.length) G N2.inn hx hcode fun cv s3 N3' hsz3 hg3=>?_;have N3:=N2.trans N3';refine nb fun kk=>?_;refine e02 (G.codes N3.inn.top x hx) fun hP1 hP2=>?_;refine e02 (G.bmod N3.inn.top x.2 hP2) fun qz0 hgP=>?_;obtain ⟨bm,obm,hbm,hne0,_,hneP,hbo,hcls,hdictb,hdatab⟩:=qz0;refine kk ?_;refine wpAny_builtinsFor (by rw [henv];exact G.glob N3.inn.top) hbm hne0 hbo hcls hdictb hdatab ?_;have hI:=Heap.get?_push_size h₀ (o:=({ cls:=.type "list_iterator",data:=.fields #[.ref a,.int 0 0] }:Obj)) rfl;generalize hIt:h₀.objs.size=It at hI hsz3 N3' N3 N2 U2⊢;have hItN:K.N0≤It:=by
  rw [←hIt];obtain ⟨o,es,ep,e1,_⟩:=hns;exact Qy hN (Wq (Heap.lt_size e1))
 have hIs:s.heap.get? It=none:=by
  cases q:s.heap.get? It with
  |none=>rfl
  |some o=>
   have:=U.keep _ _ q;exact absurd (hIt▸Heap.lt_size this) (Nat.lt_irrefl _)
 have hI3:s3.heap.get? It=some { cls:=.type "list_iterator",data:=.fields #[.ref a,.int 0 0] }:=(N3'.keep _ _ (by simp -iota) hI).off fun z=>absurd (G.tabs It z) (Ww hItN);have ho3:s3.heap.get? a=some (accObj K.acc d items nn sl):=(N3'.keep _ _ (by simp -iota) (U2.keep _ _ ho)).get (by intro vs e;cases e);have hns3:s3.heap.Ns s.heap.objs.size _:=As.ns (K:=K) hns fun o e=>N3'.keep _ _ (by simp -iota) (U2.keep _ _ e);have hrs3:RVs K.hid ι s3.heap items.toList xs:=(hrs.grow (U2.up.grow (tb:=K.tabs) ι)).grow N3'.grow;have hpa:=fun {j:Nat} (hj:j<items.size)=>pair_at hrs3 hpairs (j:=j) (by rw [Array.length_toList];exact hj);have hne:a≠It:=by rintro rfl;rw [hI3] at ho3;cases ho3
 have hit:∀ j,j<items.size→items[j]?=some (.ref (refAt items.toList j)):=fun j hj=>by rw [←Array.getElem?_toList];exact (hpa hj).1
 have hTI:∀ j,j<items.size→refAt items.toList j≠It:=fun j hj z=>by
  refine e04 (hpa hj) fun o_ o_ qz2 o_=>?_;obtain ⟨o,e1,e2,_⟩:=qz2;rw [z,hI3] at e1;cases e1;exact absurd (show Value.type "list_iterator"=Value.type "tuple" from e2) (by decide)
 have hlim:=G.lim N3.inn.top;have hcsI:cStatics<It:=by
  obtain ⟨_,hcn,_⟩:=G.lim N1.inn.top;rw [←hIt];exact hcn.lt
 have hglobI:mainGlobals≠It:=fun z=>by
  have:=(G.glob N1.inn.top).lt;rw [z,←hIt] at this;exact Nat.lt_irrefl _ this
 have hbltI:builtinsNs≠It:=fun z=>by
  have:=(G.blt N1.inn.top).lt;rw [z,←hIt] at this;exact Nat.lt_irrefl _ this
 refine xi9 It _ [It] items.size _ _ _ (fun o_=>true) (fun i y=>i<items.size∧Fv i y) ⟨rfl,fun A' hA'=>(walksU_acc hA' It a K.acc d hne items nn sl (refAt items.toList) (fun j=>seqAt s3.heap (refAt items.toList j)) hit hTI).bound,?_,?_,?_,hlim,?_,?_,?_⟩
 ·rintro j v ⟨hj,rfl⟩;refine nb fun kk=>?_;refine e04 (hpa hj) fun o_ o_ o_ qz=>?_;obtain ⟨x,t,y,u,e,_⟩:=qz;refine kk ?_;exact (xi2 _ _ e)
 ·exact ⟨⟨_,hI3,rfl,rfl⟩,ho3,fun j hj=>(hpa hj).2.2.1⟩
 ·intro b hb;rcases Wy hb with rfl|hb
  ·exact Heap.lt_size hI3
  rcases Wy hb with rfl|hb
  ·exact Heap.lt_size ho3
  refine e12 (List.mem_map.mp hb) fun j hj qz2=>?_;obtain rfl:=qz2;refine e04 (hpa (List.mem_range.mp hj)) fun o_ o_ qz2 o_=>?_;obtain ⟨o,e1,_⟩:=qz2;exact Heap.lt_size e1
 ·intro hm;rw [Wz hm] at hcsI;exact Nat.lt_irrefl _ hcsI
 ·intro href keepR;have glob2:∀ {s₂:Shared},(∀ b∈List.range s3.heap.objs.size,b∉[It]→∀ o,href.get? b=some o→s₂.heap.get? b=some o)→s₂.heap.Ns mainGlobals mg∧s₂.heap.Ns builtinsNs mb:=fun hk=>
   ⟨(G.glob N3.inn.top).at' fun o e=>hk _ (List.mem_range.mpr (G.glob N3.inn.top).lt) (by simpa -iota using hglobI) o (keepR _ _ e),(G.blt N3.inn.top).at' fun o e=>hk _ (List.mem_range.mpr (G.blt N3.inn.top).lt) (by simpa -iota using hbltI) o (keepR _ _ e)⟩
  refine ⟨fun A' E'' j va vb s₂ m₂ hh2 hP hL ha2 hb2 hk=>Qf ⟨rfl,_,_,rfl,fun o_ o_ e=>e⟩,fun A' E'' j va vb s₂ m₂ hh2 hP o_ hL ha2 hb2 hk=>?_⟩;refine nb fun kk=>?_;refine e02 (hP) fun hj hv=>?_;refine e04 (hpa hj) fun o_ o_ o_ qz=>?_;obtain ⟨x,t,y,u,e,hxj⟩:=qz;refine kk ?_;rw [e] at hv;refine nb fun kk=>?_;obtain ⟨rfl,rfl⟩:va=.str x t∧vb=.str y u:=by
   have:=congrArg Array.toList hv;simpa -iota using this
  refine e02 (glob2 hk) fun g1 g2=>?_;refine kk ?_;exact helt (env:=genEnv gsc [] s3.heap.objs.size cv builtinsNs (callEnv fd s.heap.objs.size f)) (m:=m₂) rfl (by show s₂.heap.Ns (callEnv fd s.heap.objs.size f).globals mg;rw [henv];exact g1) g2 hL ha2 hb2 hxj fun v h' tk' hv hk'=>⟨⟨hj,hv⟩,_,_,rfl,hk'⟩
 ·intro a' h5 tk5 gs hbare hlt hsz5 keep5 W GA;have hP:(fun j y=>∃ i,(List.range items.size)[j]?=some i∧(i<items.size∧Fv i y))=fun j y=>j<items.size∧Fv j y:=funext fun j=>funext fun y=>propext ⟨fun ⟨i,h1,h2⟩=>by
   obtain ⟨_,e⟩:=Qz h1;rw [List.getElem_range] at e;rw [e];exact h2,fun h=>⟨j,List.getElem?_range h.1,h⟩⟩
  rw [pass_all,List.length_range] at W;rw [hP] at W;refine h items.size hsz a' s3 _ _ _ _ _ W GA ?_ Qk (fun i s' st=>⟨_,st.1⟩) N3 hns3 keep5 fun lo tk s' hm=>gen_nx (s4:=s3) (tk:=tk) (h5:=h5) (gs:=gs) G.mono I N3 hg3 keep5 hbare ?_ ?_ hm
  ·intro b hb;show b<h5.objs.size;rw [hsz5];rcases Wy hb with rfl|hb
   ·exact Nat.lt_succ_self _
   rcases Wy hb with rfl|hb
   ·exact Nat.lt_succ_of_lt hlt
   ·exact Nat.lt_succ_of_lt (Nat.lt_trans (List.mem_range.mp hb) hlt)
  ·intro b hb;rcases Wy hb with rfl|hb
   ·exact nil_of_size (Wq hns3.lt)
   ·rw [Wz hb];exact hIs
  ·intro b hb o e;rcases Wy hb with rfl|hb
   ·exact absurd (Heap.lt_size e) (Nat.lt_irrefl _)
   ·rw [Wz hb,hI3] at e;cases e;exact (show Value.type "list_iterator"≠Value.type "code" by decide)
@[reducible] noncomputable def LenTop (K:Cst) (T:Heap→Prop) (Kf:Frag) (f:Addr) (ob:Obj) (fd:FuncData) (body:List Stmt) (gsc:Scope):Prop:=(findIn Kf (.ref K.acc) "__getattribute__"=some (some (.builtin "list.__getattribute__")))∧(findIn Kf (.ref K.acc) "__len__"=some (some (.ref f)))∧(FnTop T Kf f ob fd ["self"] body)∧(fd.defaults=.none)∧(∃ x∈K.codes,fd.code=.ref x.1)∧(fd.scope.names.lookup ("sum":Str)=some .globalImplicit)∧(GenSc gsc)∧(gsc.names.lookup ("len":Str)=some .globalImplicit)
section
variable {K:Cst} {T:Heap→Prop} {Kf:Frag} {f:Addr} {ob:Obj} {fd:FuncData} {body:List Stmt} {gsc:Scope} (h:LenTop K T Kf f ob fd body gsc)
include h
theorem LenTop.ga:findIn Kf (.ref K.acc) "__getattribute__"=some (some (.builtin "list.__getattribute__")):=h.1
theorem LenTop.at_:findIn Kf (.ref K.acc) "__len__"=some (some (.ref f)):=h.2.1
theorem LenTop.fn:FnTop T Kf f ob fd ["self"] body:=h.2.2.1
theorem LenTop.dflt:fd.defaults=.none:=h.2.2.2.1
theorem LenTop.code:∃ x∈K.codes,fd.code=.ref x.1:=h.2.2.2.2.1
theorem LenTop.ksum:fd.scope.names.lookup ("sum":Str)=some .globalImplicit:=h.2.2.2.2.2.1
theorem LenTop.gen:GenSc gsc:=h.2.2.2.2.2.2.1
theorem LenTop.klen:gsc.names.lookup ("len":Str)=some .globalImplicit:=h.2.2.2.2.2.2.2
end
theorem acc_ar3 {k n:Int} (h0:0≤k) (h1:0≤n) (h:k+n<4611686018427387904):InLong k:=⟨Int.le_trans (by decide) h0,Int.lt_trans (Int.lt_of_le_of_lt (Int.le_add_of_nonneg_right h1) h) (by decide)⟩
set_option tactic.hygienic true in
theorem acc_len_call {A:Around} {E:Value→Shared→Prop} {s:Shared} {ι:List Addr} {σ:St} {lo i:Nat} {a f:Addr} {k n:Int} {xs:List V} {ob:Obj} {fd:FuncData} {e0 e1 e2 e3 e4 e5 e6 pa pb pt p0 p1 p2 p3 p4 p5 p6:Pos} {kt:Nat} {gsc:Scope} {Q:Value→Shared→Prop}
  (G:Facts K T mg mb) (AA:AccAll prog K T Kf mg mb) (L:LenTop K T Kf f ob fd (lenBody e0 e1 e2 e3 e4 e5 e6 pa pb pt p0 p1 p2 p3 p4 p5 p6 kt gsc) gsc) (hN:K.N0≤s.heap.objs.size) (hA:A.depth+2<900) (hh:A.handled=none) (I:In0 K T ι σ s) (hi:ι[i]?=some a) (hσ:σ[i]?=some (.acc k xs))
  (hacc:accLen xs=some n) (hk0:0≤k) (hkn:k+n<4611686018427387904) (hlen:xs.length≤4096) (h:∀ t s',Nx K T lo σ ι ι s s'→Q (.int (k+n) t) s'):wpAny (model prog w) A (PySem.call (.ref f) [.ref a]) Q E s:=by
 have D:=L.fn;refine enter_plain G D (Nat.lt_of_le_of_lt (Nat.le_add_right _ 2) hA) I.top L.dflt rfl fun h₀ tk E' hns U=>?_;have N1:Nx K T ι.length σ ι ι s { s with heap:=h₀,toks:=tk }:=Nx.heap G.mono I U tk;refine e13 (AA.Z.cls) fun cdata hcd o_ hdict=>?_;refine nb fun kk=>?_;refine e02 (accLen_sum hacc) fun hsum hpairs=>?_;refine kk ?_;unfold lenBody;refine wpAny_execs_cons (wpAny_Return_some (wpAny_Call_NameR ?_));refine blt_name (env:=callEnv fd s.heap.objs.size f) D.kind L.ksum (by rw [show (callEnv fd s.heap.objs.size f).globals=mainGlobals from D.globals];exact G.glob N1.inn.top) (by rw [show (callEnv fd s.heap.objs.size f).builtins=builtinsNs from D.builtins];exact G.blt N1.inn.top) (G.fns "sum" (by simp -iota)) rfl ?_;refine Calls.callWith_builtin rfl (evalArgs_any rfl (wpAny_items_cons ?_ rfl));have hnn:=take_sum_le (l:=xs.map pairLen) (fun z hz=>by obtain ⟨q,_,rfl⟩:=List.mem_map.mp hz;exact pairLen_nonneg q);have hpre:∀ j,0≤preSum (numAt (accArr xs)) j∧preSum (numAt (accArr xs)) j≤n:=fun j=>by rw [accArr_take,←hsum];exact hnn j
 have hn0:0≤n:=Int.le_trans (hpre 0).1 (hpre 0).2;refine acc_gen (Fv:=fun j v=>∃ t,v=.int (numAt (accArr xs) j) t) G AA.X D L.gen L.code hN (Nat.lt_of_succ_lt hA) hh I hi hσ hns U hpairs (fun {A E s m env j x y t u Q} hs hg hb hL ha hb2 hx k=>?_) fun n' hn a' s3 s5 fp wr GG St W st hfp ha hgen N3 hns3 keep post=>?_
 ·have hval:numAt (accArr xs) j=x.length+y.length:=(accArr_at xs hx).trans rfl;have hle:(x.length:Int)+y.length≤n:=hval▸Int.le_trans (Int.le_of_eq (Int.zero_add _).symm) (Int.le_trans (Int.add_le_add_right (hpre j).1 _) (hpre (j+1)).2);exact len_elt (mg:=mg) (mb:=mb) (by rw [hs];exact L.gen.kind) (by unfold Env.kindOf;rw [hs];exact L.klen) (by unfold Env.kindOf;rw [hs];exact L.gen.fws) (by unfold Env.kindOf;rw [hs];exact L.gen.part) hg hb (G.fns "len" (by simp -iota)) hL ha hb2 (acc_ar2 hk0 hkn hle) fun t' tk'=>k _ _ _ ⟨t',by rw [hval]⟩ fun _ _ e=>e
 ·have T5:T s5.heap:=G.mono N3.inn.top fun b o o_ e=>.inl (keep b o e);refine acc_at N3.inn hi hσ fun items nn d m t sl ho hd hn3 hkk ht' hrs=>?_;refine wpAny_items_cons ?_ rfl;rw [arm_eval_Attribute];refine Qq (ldc D.kind (D.loc _ (Qk ..)) (hns3.keeps keep) (v:=.ref a) rfl (Qq (wpAny_standAt (Qq (wpAny_holding ?_)))));refine acc_size_attr (AA.X.inn T5) (keep _ _ ho) AA.X.list (hn3.keeps keep) hkk.1 hcd hdict rfl L.ga AA.X.noga AA.Z.nosize (Qq (Qf (Qf (wpAny_items_nil ?_))));refine nb fun kk=>?_;refine e11 (hgen 0 s5 st) fun g hg=>?_;refine kk ?_;have hall:preSum (numAt (accArr xs)) n'=n:=by rw [accArr_take,List.take_of_length_le (by rw [hn,Qx];exact Nat.le_refl _),hsum]
  exact call_sum_start (acc_ar3 hk0 hn0 hkn) (wpAny_pyIter_gen hg (xi8 a' fp wr GG n' _ St (numAt (accArr xs)) ⟨rfl,W.in4_1,W.frame 0 s5 s5.heap (s5.toks+1) st (Nat.le_succ _) (fun _ _ _ e=>e),hfp,fun j v q=>q.2,fun j _=>acc_ar1 hk0 hkn (hpre j) (hpre (j+1)) rfl,fun s' t' hm=>by
   rw [hall];exact h _ _ (post _ _ _ hm)⟩))
theorem acc_lens {f:Addr} {ob:Obj} {fd:FuncData} {e0 e1 e2 e3 e4 e5 e6 pa pb pt p0 p1 p2 p3 p4 p5 p6:Pos} {kt:Nat} {gsc:Scope} (G:Facts K T mg mb) (AA:AccAll prog K T Kf mg mb)
  (L:LenTop K T Kf f ob fd (lenBody e0 e1 e2 e3 e4 e5 e6 pa pb pt p0 p1 p2 p3 p4 p5 p6 kt gsc) gsc):SAccLen prog w K T:=by
 intro A ι σ s a lo i k n xs Q E hA I hN hi hσ hacc hk0 hkn hlen h;have hn0:0≤n:=by
  rw [←(accLen_sum hacc).1];have:=(take_sum_le (l:=xs.map pairLen) (fun z hz=>by obtain ⟨q,_,rfl⟩:=List.mem_map.mp hz;exact pairLen_nonneg q) 0)
  simpa using this.2
 refine acc_at I hi hσ fun _ _ _ _ _ _ ho hd hn hkk ht' hrs=>?_
 ·skip
  have Y:=AA.X.inn I.top;have t1:=acc_type (prog:=prog) (w:=w) ho;refine Calls.call_function_entry kind_len plain_len entry_len (args_len1 _) ?_;unfold Builtin.«len»;refine Qq (Qf ?_);refine Qq (m:=callSpecial? (.ref a) (Str.ofString "__len__")) ?_;unfold callSpecial?;refine Qq ((looks_special t1 (looks_findIn Y L.at_)).here ?_);dsimp only;refine wpAny_holding (Qq ((bind_fn Y _ L.fn.typ).here (Qq ?_)));refine acc_len_call (lo:=lo) G AA L hN hA.room2 hA.2.2 I hi hσ hacc hk0 hkn hlen fun t s' N=>Qf ?_;refine Qq (wpAny_holding (Qf ?_));refine Qq (wpAny_letGo ?_);show wpAny _ _ (if k+n<0 then _ else _) _ _ _;rw [if_neg (by omega)];show wpAny _ _ (if k+n≥2^63 then _ else _) _ _ _;rw [if_neg (by omega)];exact Qq (wpAny_mkInt (Qf ⟨_,rfl,h _ _ (N.trans (Nx.tok N.inn _)) (.int _ _)⟩))
theorem joinStr_is:∀ ys:List Str,joinStr (ys.map V.str)=some (PySem.Str.join ⟨#[]⟩ ys)
 |[]=>rfl
 |y::r=>by rw [join_cons];exact mpd (joinStr_is r) rfl
theorem len_le:∀ {ys:List Str} {y:Str},y∈ys→y.length≤(PySem.Str.join ⟨#[]⟩ ys).length
 |z::r,y,h=>by
  rw [join_cons,PySem.Str.length_append];rcases Wy h with rfl|h
  ·exact Nat.le_add_right _ _
  ·exact Qy (len_le h) (Nat.le_add_left _ _)
theorem sum_join:∀ ys:List Str,(ys.map (·.length)).sum=(PySem.Str.join ⟨#[]⟩ ys).length
 |[]=>rfl
 |y::r=>by rw [join_cons,PySem.Str.length_append,List.map_cons,List.sum_cons,sum_join r]
theorem asc_join:∀ ys:List Str,(∀ y∈ys,asc y=true)→asc (PySem.Str.join ⟨#[]⟩ ys)=true
 |[],_=>rfl
 |y::r,h=>by rw [join_cons];exact asc_app (h y Qk) (asc_join r fun z hz=>h z (Qj _ hz))
theorem asc_pairs {H ι:List Addr} {h:Heap} {vs:List Value} {xs:List V} (r:RVs H ι h vs xs) (hp:∀ x∈xs,∃ a b,x=.tup [.str a,.str b]):∀ y∈xs.map pairTxt,asc y=true:=fun y hy=>by
 obtain ⟨x,hx,rfl⟩:=List.mem_map.mp hy;obtain ⟨j,hj,hxj⟩:=List.mem_iff_getElem.mp hx;refine e12 (r.get (hxj▸Qv hj)) fun v e1 e2=>?_;refine e21 (hp _ hx) fun a b hab=>?_;subst hab;refine rvTup e2 fun q items n z hi hh ho hr=>rvs2 hr fun u1 u2 hl pa pb=>rvStr pa fun t z1 h1=>rvStr pb fun u z2 h2=>?_;exact asc_app h1 h2
noncomputable def strBody (e0 e1 e2 e3 e4 e5 pa pb pt p0 p1 p2 p3 p4 p5:Pos) (kt kk:Nat) (gsc:Scope):List Stmt:=
 [.Return (some (.Call (.Attribute (.Name ("EMPTYSTRING":Str) p0) ("join":Str) p3) [.GeneratorExp (strElt e0 e1 e2 e3 e4 e5 kk) [⟨.Tuple [.Name ("fws":Str) pa,.Name ("part":Str) pb] kt pt,.Name ("self":Str) p1,[],0⟩] gsc p2] [] p4)) p5]
@[reducible] noncomputable def StrTop (K:Cst) (T:Heap→Prop) (Kf:Frag) (mg:Str→Option Value) (f:Addr) (ob:Obj) (fd:FuncData) (body:List Stmt) (gsc:Scope) (te:Tok):Prop:=(findIn Kf (.ref K.acc) "__str__"=some (some (.ref f)))∧(isFn Kf (.ref f)=true)∧(FnTop T Kf f ob fd ["self"] body)∧(fd.defaults=.none)∧(∃ x∈K.codes,fd.code=.ref x.1)∧GenSc gsc∧(fd.scope.names.lookup ("EMPTYSTRING":Str)=some .globalImplicit)∧(gsc.names.lookup ("EMPTYSTRING":Str)=some .globalImplicit)∧(mg ("EMPTYSTRING":Str)=some (.str ⟨#[]⟩ te))
theorem acc_str_call {A:Around} {E:Value→Shared→Prop} {s:Shared} {ι:List Addr} {σ:St} {lo i:Nat} {a f:Addr} {k:Int} {xs:List V} {ob:Obj} {fd:FuncData} {e0 e1 e2 e3 e4 e5 pa pb pt p0 p1 p2 p3 p4 p5:Pos} {kt kk:Nat} {gsc:Scope} {te:Tok} {Q:Value→Shared→Prop}
  (G:Facts K T mg mb) (X:AccTop K T Kf) (L:StrTop K T Kf mg f ob fd (strBody e0 e1 e2 e3 e4 e5 pa pb pt p0 p1 p2 p3 p4 p5 kt kk gsc) gsc te) (hl1:(e1.endLine==e5.line)=true) (hl2:(p3.endLine==p4.line)=true) (hN:K.N0≤s.heap.objs.size) (hA:A.depth+2<900) (hh:A.handled=none) (I:In0 K T ι σ s) (hi:ι[i]?=some a) (hσ:σ[i]?=some (.acc k xs))
  (hp:∀ x∈xs,∃ a b,x=.tup [.str a,.str b]) (ht:(PySem.Str.join ⟨#[]⟩ (xs.map pairTxt)).length≤4096) (hlen:xs.length≤4096) (h:∀ u s',Nx K T lo σ ι ι s s'→Q (.str (PySem.Str.join ⟨#[]⟩ (xs.map pairTxt)) u) s'):wpAny (model prog w) A (PySem.call (.ref f) [.ref a]) Q E s:=by
 refine nb fun kk'=>?_;obtain ⟨_,_,D,hdef,hcode,gen,hes,hesg,hmg⟩:=L;refine kk' ?_;refine enter_plain G D (Nat.lt_of_le_of_lt (Nat.le_add_right _ 2) hA) I.top hdef rfl fun h₀ tk E' hns U=>?_;have N1:Nx K T ι.length σ ι ι s { s with heap:=h₀,toks:=tk }:=Nx.heap G.mono I U tk;unfold strBody;have hpos:methodCallPos true (.Name ("EMPTYSTRING":Str) p0) (callEnv fd s.heap.objs.size f) p3 p4=pure p4:=by unfold methodCallPos;simp [hl2]
 refine wpAny_execs_cons (wpAny_Return_some ?_);rw [arm_eval_Call];refine Qq (glob_name (env:=callEnv fd s.heap.objs.size f) D.kind hes (by rw [show (callEnv fd s.heap.objs.size f).globals=mainGlobals from D.globals];exact G.glob N1.inn.top) hmg (by decide) (Qq (wpAny_standAt ?_)));unfold methodCall;rw [show methodCallForm _ _ _=true from rfl];refine Qq (wpAny_holding (wT rfl (GM.join ?_)));refine Qq (wpAny_of_eq hpos ?_);refine Calls.callWith_builtin rfl (evalArgs_any rfl (wpAny_items_cons ?_ rfl));refine acc_gen (Fv:=fun j v=>∃ u x,xs[j]?=some x∧v=.str (pairTxt x) u) G X D gen hcode hN (Nat.lt_of_succ_lt hA) hh I hi hσ hns U hp (fun {A E s m env j x y t u Q} hs hg hb hL ha hb2 hx k=>?_) fun n' hn a' s3 s5 fp wr GG St W st hfp ha hgen N3 hns3 keep post=>wpAny_items_nil ?_
 ·have hle:x.length+y.length≤4096:=Qy (Nat.le_of_eq (PySem.Str.length_append x y).symm) (Qy (len_le (List.mem_map.mpr ⟨_,List.mem_of_getElem? hx,rfl⟩)) ht);have hj:Txt.join ⟨#[]⟩ [x,y]=x++y:=(StrLaws.glued_eq_join _ _).trans (by rw [join_cons,join_cons];show x++(y++⟨#[]⟩)=_;rw [str_nil_right]);exact str_elt (mg:=mg) (by rw [hs];exact gen.kind) (by unfold Env.kindOf;rw [hs];exact hesg) (by unfold Env.kindOf;rw [hs];exact gen.fws) (by unfold Env.kindOf;rw [hs];exact gen.part) hg hmg hL ha hb2 hl1 hle fun t' tk'=>k _ _ _ ⟨t',_,hx,by rw [hj];rfl⟩ fun b o e=>Qg _ e
 ·refine SC.joinGen W.in4_2 (fun i s st=>by obtain ⟨g,hg⟩:=hgen i s st;exact hg.typeIs) st hfp ha (fun j v q=>by obtain ⟨_,u,x,_,rfl⟩:=q;exact ⟨_,_,rfl⟩) (fun s' l hm hacc=>?_) (hn▸size_line hlen);have hl:l.map (·.1)=xs.map pairTxt:=by
   have hsz:l.length=n':=by simpa [strValues] using hacc.1
   refine List.ext_getElem? fun j=>?_;rw [Qb,Qb];cases hq:l[j]? with
   |none=>rw [List.getElem?_eq_none (by rw [←hn,←hsz];exact List.getElem?_eq_none_iff.mp hq)];rfl
   |some p=>
    obtain ⟨_,u,x,hx,hv⟩:=hacc.2 j (.str p.1 p.2) (by simp [strValues,hq]);rw [hx];injection hv with h1 _
    exact congrArg some h1
  refine ⟨joinOk_of (by rw [hl,sum_join];exact Qy (Nat.add_le_add ht (Nat.le_of_eq (Nat.mul_zero _))) (by decide)),fun t' k=>?_⟩;rw [hl,show Txt.join ⟨#[]⟩ (xs.map pairTxt)=PySem.Str.join ⟨#[]⟩ (xs.map pairTxt) from StrLaws.glued_eq_join _ _];exact h _ _ ((post lo s5.toks s' hm).trans (Nx.tok (post lo s5.toks s' hm).inn k))
theorem acc_strs {f:Addr} {ob:Obj} {fd:FuncData} {e0 e1 e2 e3 e4 e5 pa pb pt p0 p1 p2 p3 p4 p5:Pos} {kt kk:Nat} {gsc:Scope} {te:Tok} (G:Facts K T mg mb) (X:AccTop K T Kf) (L:StrTop K T Kf mg f ob fd (strBody e0 e1 e2 e3 e4 e5 pa pb pt p0 p1 p2 p3 p4 p5 kt kk gsc) gsc te) (hl1:(e1.endLine==e5.line)=true) (hl2:(p3.endLine==p4.line)=true):SAccStr prog w K T:=
 fun {A ι σ s a lo i k xs Q E} hA I hN hi hσ hp ht hlen h=>acc_at I hi hσ fun items n d m t sl ho hd hn hkk ht' hrs=>by
  refine nb fun kk'=>?_;obtain ⟨od,hod,_⟩:=ht';refine kk' ?_;have II:InstAt s.heap a (accObj K.acc d items n sl) K.acc (some od):=⟨ho,rfl,rfl,hod⟩
  refine kso_call (Ok.unit2 hA) (X.inn I.top) II L.1 L.2.1 (acc_str_call (lo:=lo) G X L hl1 hl2 hN hA.room2 hA.2.2 I hi hσ hp ht hlen fun u s' N=>?_);exact h _ _ _ N (.str _ (asc_join _ (asc_pairs hrs hp)))
end
section
section
variable {K:Cst} {T:Heap→Prop} {prog:Program} {w:World} {A:Around} {E:Value→Shared→Prop} {ι:List Addr} {σ:St} {s:Shared} {mg mb:Str→Option Value}
theorem fold_rep {items:Array Value} {xs:List V} {H:List Addr} {h:Heap} (r:RVs H ι h items.toList xs) (k:Nat):RVs H ι h (List.foldl (fun x1 x2=>x1++x2) #[] (List.replicate k items)).toList (rep k xs):=by
 have key:∀ (k:Nat) (acc:Array Value) (ys:List V),RVs H ι h acc.toList ys→RVs H ι h (List.foldl (fun x1 x2=>x1++x2) acc (List.replicate k items)).toList (ys++rep k xs):=by
  intro k
  induction k with
  |zero=>intro acc ys q;rw [show ys++rep 0 xs=ys from List.append_nil _];exact q
  |succ k ih=>
   intro acc ys q;rw [List.replicate_succ,List.foldl_cons,show ys++rep (k+1) xs=(ys++xs)++rep k xs from by rw [List.append_assoc];rfl];exact ih _ _ (by rw [Array.toList_append];exact q.append r)
 exact key k #[] [] .nil
theorem mul_fro {a:Addr} {items:Array Value} {n:Nat} {k:Int} {u:Tok} {xs:List V} {lo:Nat} {Q:Value→Shared→Prop} (hT:Mono K T) (I:In0 K T ι σ s) (ho:s.heap.get? a=some (lstObj items n)) (hr:RVs K.hid ι s.heap items.toList xs) (h0:0≤k) (hk:k<64) (hl:xs.length≤4096)
  (h:∀ v s',Nx K T lo σ ι ι s s'→RV K.hid ι s'.heap v (.fro (rep k.toNat xs))→Q v s'):wpAny (model prog w) A (binaryOp .Mult (.ref a) (.int k u)) Q E s:=by
 have hsz:items.size*k.toNat≤2^24:=Qy (Nat.mul_le_mul (hr.size▸hl) (Wq ((Int.toNat_lt h0).mpr hk))) (by decide);refine wpAny_binaryOp_repeat_ref (T:="list") (U:="int") (by decide) ⟨_,ho,rfl⟩ (fun s'=>typeIs_int s' k u) noFill_list_mul F.fills_int_mul F.slot_int_rmul repeat_list F.slot_int_index.lookup
  (call_meets F.slot_int_rmul (typeIs_int s k u) F.entry_int_rmul (F.args_int_rmul_2 _ _) (int___rmul___int_list k u a items n)
   ⟨ho,rfl,⟨_,ho,rfl⟩,call_meets F.slot_list_mul ⟨_,ho,rfl⟩ F.entry_list_mul (F.args_list_mul_2 _ _)
    (AutoListH.list___mul___list_int_3 a items n k u (by simp [Builtin.List.listFitsIndex];omega) (by omega) (by simp [Builtin.List.listTooLong,sizeLine];omega))
    ⟨ho,?_⟩⟩)
 refine h _ _ (Nx.heap hT I (Ux.push _ _) _) (RV.newList I.rel ?_);refine iteL (fun z=>RVs K.hid ι s.heap (List.foldl (fun x1 x2=>x1++x2) #[] (List.replicate z items)).toList (rep k.toNat xs)) (fun he=>?_) fun _=>fold_rep hr _;have hx:xs=[]:=List.eq_nil_of_length_eq_zero (hr.size▸Array.isEmpty_iff_size_eq_zero.mp he);subst hx;rw [show rep k.toNat ([]:List V)=[] from List.flatten_eq_nil_iff.mpr fun l hl=>(List.mem_replicate.mp hl).2];exact .nil
end
section rules
variable {C:Cfg} {sc:Scope} {n lo:Nat} {σ σ' σ1 σ2 σ3:St} {ρ ρ':Rho} {e l r o i x:Expr} {p q q1:Pos} {a b c v:V}
theorem ev_SliceA {j:Nat} {k0 k:Int} {xs:List V} (h1:ev C n sc lo o ρ σ (.ref j) σ1) (h2:evo C n sc lo (some x) ρ σ1 (.int k) σ2) (hσ:σ2[j]?=some (.acc k0 xs)) (h0:0≤k) (hl:xs.length≤4096):ev C (n+1) sc lo (.Subscript o (.Slice (some x) none none q) p) ρ σ (.fro (xs.drop k.toNat)) σ2:=
 mkEv rfl rfl fun X H _ _ hA=>X.P.accSlice H (h1.2.1 X H hA.d) (h2 X H hA.d) hσ h0 hl
theorem go_CutA {j:Nat} {k0 k:Int} {xs:List V} {Q:Fl→Rho→St→Prop} (hlc:isLC e=false) (h:ev C n sc lo e ρ σ (.fro []) σ1) (h1:ev C n sc lo o ρ σ1 (.ref j) σ2) (h2:evo C n sc lo (some x) ρ σ2 (.int k) σ3) (hlo:lo≤j) (hσ:σ3[j]?=some (.acc k0 xs)) (h0:0≤k) (hl:xs.length≤4096)
  (hq:Q .next ρ (σ3.set j (.acc k0 (xs.take k.toNat)))):Go (ex C (n+1) sc lo (.Assign [.Subscript o (.Slice (some x) none none q1) q] e p) ρ σ) Q:=
 ⟨_,_,_,fun X H _ _ hw hA hs=>X.P.accCut H (ok_swaps h.1 hlc _ _ _) (h.2.1 X H hA.d) (h1.2.1 X H hA.d) (h2 X H hA.d) hlo hσ h0 hl,hq⟩
noncomputable def mcall (C:Cfg) (n lo:Nat) (f:Str) (fn:Fn) (vs:List V) (σ:St) (v:V) (σ':St):Prop:=∀ (X:Ctx C) (H:List Addr) {A:Around} {a:Addr} {ob:Obj} {fd:FuncData} {mg:Str→Option Value},FnAt (X.k H) X.T mg f fn a ob fd→Ok A n→FGood X.prog X.w (X.k H) X.T lo σ vs [] v σ' A a
theorem mcall_imp {f:Str} {fn:Fn} {vs:List V} {ρ0:Rho} {fl:Fl} (hok:okSc fn.scope=true) (hb:bindV fn.params vs []=some ρ0) (h:exs C n fn.scope lo fn.body ρ0.reverse σ fl ρ' σ1) (hw:fl=.ret v∨(fl=.next∧v=.none)):mcall C (n+1) lo f fn vs σ v σ1:=
 fun X H _ _ _ _ _ D hA=>mfn_imp (X.g H) D hok hb (fun _ _ hA hs hw=>h X H hw hA hs) hA (flv_of hw)
theorem ev_MFn {nm:Str} {fn:Fn} {args:List Expr} {vs:List V} {j:Nat} (hm:C.meths nm=some fn) (hok:methOk o q p args=true) (h1:ev C n sc lo o ρ σ (.ref j) σ1) (ht:tagV σ1 (.ref j)=some 2) (h2:evs C n sc lo args ρ σ1 vs σ2) (h3:mcall C n lo nm fn (.ref j::vs) σ2 v σ3):
  ev C (n+1) sc lo (.Call (.Attribute o nm q) args [] p) ρ σ v σ3:=mkEv rfl rfl fun X H _ _ hA=>X.P.accFn H hm (h1.2.1 X H hA.d) ht (h2.2 X H hA.d) hok fun D=>h3 X H D hA.d
theorem ev_StrA {j:Nat} {k0:Int} {xs:List V} (hk:kindIn sc ("str":Str)=some .globalImplicit) (h:evs C n sc lo [e] ρ σ [.ref j] σ1) (hσ:σ1[j]?=some (.acc k0 xs)) (hp:∀ x∈xs,∃ a b,x=.tup [.str a,.str b]) (ht:(PySem.Str.join ⟨#[]⟩ (xs.map pairTxt)).length≤4096) (hl:xs.length≤4096):
  ev C (n+1) sc lo (.Call (.Name ("str":Str) q) [e] [] p) ρ σ (.str (PySem.Str.join ⟨#[]⟩ (xs.map pairTxt))) σ1:=mkEv rfl rfl fun X H _ _ hA _ _ _ _ F I k=>by
 refine wpAny_Call_NameR (glob_blt (X.g H) F I hk ((X.g H).types "str" (by simp)) (by decide) ?_);refine PySem.callWith_type ((h.2 X H hA.d).plain _) (evalArgs_any ((h.2 X H hA.d).plain _) ((h.2 X H hA.d).run F I fun rvs s1 ι1 N1 r1=>rvs1 r1 fun u z ra=>rvRef ra fun a z2 hi=>?_));subst z z2;exact X.P.accStr H hA.deep N1.inn (n0_le F N1.grow) hi hσ hp ht hl fun rv s2 ι2 N2 r2=>k _ _ _ (N1.trans N2) r2
theorem ev_Rep {k:Int} {xs:List V} (h1:ev C n sc lo l ρ σ (.fro xs) σ1) (h2:ev C n sc lo r ρ σ1 (.int k) σ2) (h0:0≤k) (hk:k<64) (hl:xs.length≤4096):ev C (n+1) sc lo (.BinOp l .Mult r p) ρ σ (.fro (rep k.toNat xs)) σ2:=mkEv rfl rfl fun X H _ _ hA _ _ _ _ F I h=>
 wpAny_BinOp (h1.2.1 X H hA.d F I fun ra s1 ι1 N1 r1=>h2.2.1 X H hA.d (F.grow N1.grow) N1.inn fun rb s2 ι2 N2 r2=>rvFro (r1.grow N2.grow) fun a items m z h1 h2 ho hr=>rvInt r2 fun t z2=>by
  subst z z2;exact mul_fro (X.g H).mono N2.inn ho hr h0 hk hl fun v s3 N3 r3=>h _ _ _ ((N1.trans N2).trans N3) r3)
end rules
end
section
theorem rvs3 {H ι:List Addr} {h:Heap} {vs:List Value} {x y z:V} (r:RVs H ι h vs [x,y,z]) {G:Prop} (j:∀ u v t,vs=[u,v,t]→RV H ι h u x→RV H ι h v y→RV H ι h t z→G):G:=rvsCons r fun u us e a b=>rvs2 b fun v t e2 c d=>j u v t (by rw [e,e2]) a c d
section
variable {prog:Program} {w:World} {K:Cst} {T:Heap→Prop} {mg mb:Str→Option Value} {A:Around} {env:Env} {sc:Scope} {ρ:Rho} {lo:Nat} {σ σ1:St} {e target:Expr} {args:List Expr} {p q:Pos} {xs:List V}
theorem rng3_ok (G:Facts K T mg mb) (hh:A.handled=none) {a b c:Int} (hk:kindIn sc ("range":Str)=some .globalImplicit) (h1:LGood prog w K T lo σ σ1 [.int a,.int b,.int c] A env sc ρ args) (h0:c≠0) (hc:c.natAbs<1073741824) (hs:Builtin.Range.small a b c=true):
  IGood prog w K T lo (.Call (.Name ("range":Str) p) args [] q) σ σ1 (.fix (rangeL a b c)) A env sc ρ target:=fun F I h=>rng_road G hk h1 F I fun rvs s1 ι1 N1 r1=>
 rvs3 r1 fun u v x z ra rb rc=>rvInt ra fun t z2=>rvInt rb fun t2 z3=>rvInt rc fun t3 z4=>by
  subst z2 z3 z4 z;refine call_range_3 h0 (wpAny_pyIter_range (IsRange.new _ _ _ _ _ _ _) hs ?_) (.inl (PyProof.noPylong_small hc));refine itr_close (mk_range (target:=target) hh) N1 (Nx.heap G.mono N1.inn ((Ux.push _ _).trans (Ux.push _ _)) _) (fun b hb=>by rw [Wz hb,Heap.size_push];exact Nat.le_succ _) (n0_le F N1.grow) ?_ trivial h;rw [show a+((0:Nat):Int)*c=a by simp,show Builtin.Range.rangeSize a b c-((0:Nat):Int)=Builtin.Range.rangeSize a b c by simp];exact Heap.get?_push_size _ rfl
end
section rules
variable {C:Cfg} {sc:Scope} {n lo:Nat} {σ σ' σ1 σ2 σ3:St} {ρ ρ':Rho} {e l r o i x y:Expr} {p q q1:Pos} {a b c v:V}
theorem itr_range3 {k m d:Int} (hk:kindIn sc ("range":Str)=some .globalImplicit) (h:evs C n sc lo [x,y,e] ρ σ [.int k,.int m,.int d] σ1) (h0:d≠0) (hc:d.natAbs<1073741824) (hs:Builtin.Range.small k m d=true):itr C (n+1) sc lo (.Call (.Name ("range":Str) q) [x,y,e] [] p) ρ σ (.fix (rangeL k m d)) σ1:=
 ⟨rfl,fun X H _ _ _ ht hA=>rng3_ok (X.g H) hA.2.2 hk (h.2 X H hA.d) h0 hc hs⟩
theorem chain_cons {op op2:CmpOp} {ops:List CmpOp} {r2:Expr} {rs:List Expr} {z z1:Bool} (h:ev C n sc lo r ρ σ b σ1) (h2:cmpV σ1 op a b=some z1) (h3:if z1 then chain C n sc lo b (op2::ops) (r2::rs) ρ σ1 z σ2 else z=false∧σ1=σ2):chain C (n+1) sc lo a (op::op2::ops) (r::r2::rs) ρ σ z σ2:=by
 intro X H A env hA pos ι s va F I ra;obtain hm:markedEach (op::op2::ops) (r::r2::rs) (evalEach (r::r2::rs) env)=eval r env::markedEach (op2::ops) (r2::rs) (evalEach (r2::rs) env):=rfl;rw [hm];have go:∀ {Q:Value→Value→Shared→Prop} {E:Value→Shared→Prop},(∀ rv s1 ι1,Nx (X.k H) X.T lo σ1 ι ι1 s s1→RV (X.k H).hid ι1 s1.heap rv b→Q rv (.bool z1) s1)→
   wpAny (model X.prog X.w) A (eval r env) (fun rv s1=>wpAny (model X.prog X.w) A (compareOp op va rv) (Q rv) E s1) E s:=fun k=>h.2.1 X H hA.d F I fun rv s1 ι1 N1 r1=>cmp_ok N1.inn.rel hA h2 (ra.grow N1.grow) r1 fun tk=>k _ _ _ (N1.trans (Nx.tok (lo:=lo) N1.inn tk)) (r1.grow (Nx.tok (lo:=lo) N1.inn tk).grow)
 refine ⟨fun {Q E} k=>?_,fun {Q E} k=>?_⟩
 ·show wpAny _ _ (holding [va] (eval r env) >>=fun rv=>standAt pos >>=fun o_=>holding [va,rv] (compareOp op va rv) >>=fun c=>release [va,rv] [c] >>=fun o_=>holding [c,rv] (truthy c) >>=fun t=>if t=true then compareChain pos rv (op2::ops) (markedEach (op2::ops) (r2::rs) (evalEach (r2::rs) env)) else pure c) _ _ _;refine Qq (wpAny_holding (Wj (go (E:=E) (Q:=fun rv c s1=>wpAny (model X.prog X.w) A (if z1=true then compareChain pos rv (op2::ops) (markedEach (op2::ops) (r2::rs) (evalEach (r2::rs) env)) else pure c) Q E s1∧c=.bool z1) fun rv s1 ι1 N1 r1=>⟨?_,rfl⟩) (fun rv s1 h1=>Qq (wpAny_standAt (Qq (wpAny_holding (Wj h1 (fun c s2 hc=>?_) fun _ _ x=>x))))) fun _ _ x=>x))
  ·cases z1 with
   |true=>exact (h3 X H hA.d (F.grow N1.grow) N1.inn r1).1 fun s2 ι2 N3=>k _ _ (N1.trans N3)
   |false=>
    obtain ⟨rfl,rfl⟩:=h3;exact Qf (k _ _ N1)
  ·obtain ⟨hc,rfl⟩:=hc;exact Qq (wpAny_release (Qq (wpAny_holding (wpAny_truthy_bool hc))))
 ·show wpAny _ _ (holding [va] (eval r env) >>=fun rv=>standAt pos >>=fun o_=>holding [va,rv] (compareOp op va rv) >>=fun c=>release [va,rv] [c] >>=fun o_=>holding [c,rv] (truthy c) >>=fun t=>if t=true then testChain pos rv (op2::ops) (markedEach (op2::ops) (r2::rs) (evalEach (r2::rs) env)) else pure false) _ _ _;refine Qq (wpAny_holding (Wj (go (E:=E) (Q:=fun rv c s1=>wpAny (model X.prog X.w) A (if z1=true then testChain pos rv (op2::ops) (markedEach (op2::ops) (r2::rs) (evalEach (r2::rs) env)) else pure false) Q E s1∧c=.bool z1) fun rv s1 ι1 N1 r1=>⟨?_,rfl⟩) (fun rv s1 h1=>Qq (wpAny_standAt (Qq (wpAny_holding (Wj h1 (fun c s2 hc=>?_) fun _ _ x=>x))))) fun _ _ x=>x))
  ·cases z1 with
   |true=>exact (h3 X H hA.d (F.grow N1.grow) N1.inn r1).2 fun s2 ι2 N3=>k _ _ (N1.trans N3)
   |false=>
    obtain ⟨rfl,rfl⟩:=h3;exact Qf (k _ _ N1)
  ·obtain ⟨hc,rfl⟩:=hc;exact Qq (wpAny_release (Qq (wpAny_holding (wpAny_truthy_bool hc))))
end rules
end
section
section
variable {K:Cst} {T:Heap→Prop} {prog:Program} {w:World} {A:Around} {E:Value→Shared→Prop} {ι:List Addr} {σ:St} {s:Shared} {mg mb:Str→Option Value} {lo:Nat} {Q:Value→Shared→Prop} {a:Addr} {items:Array Value} {n:Nat}
theorem max_ok (hT:Mono K T) (hh:A.handled=none) (I:In0 K T ι σ s) (ho:s.heap.get? a=some (lstObj items n)) {ns:List Int} {i:Int} (hr:RVs K.hid ι s.heap items.toList (ns.map V.int)) (hmem:i∈ns) (hall:∀ a∈ns,a≤i) (h:∀ t s',Nx K T lo σ ι ι s s'→Q (.int i t) s'):
  wpAny (model prog w) A (PySem.call (.builtin "max") [.ref a]) Q E s:=by
 have hi:IntsAre items.toList ns:=ints_are hr;refine e11 (hi.allInts.items) fun xs ex=>?_;have hns:ns=xs.toList.map (·.1):=by
  rw [←hi.numsOf,←nums_intItems,←ex]
 have hlen:xs.size=ns.length:=by
  have:=congrArg List.length hns;simpa using this.symm
 have hpos:0<ns.length:=List.length_pos_of_mem hmem;refine max_intList hh (xs:=xs) (by rw [←ex];exact lstObj_isList ho) (by omega) fun v h' tk hv hk=>?_;refine e11 (intItems_at hv) fun t qz1=>?_;obtain rfl:=qz1;refine e02 (argBest_gt (numAt xs) (xs.size-1)) fun h1 h2=>?_;have key:numAt xs (argBest (fun i j=>decide (numAt xs i>numAt xs j)) (xs.size-1))=i:=by
  refine Int.le_antisymm ?_ ?_
  ·refine hall _ ?_;rw [hns,numAt_eq];exact getD_mem (by rw [Qx,Array.length_toList];omega)
  ·rw [hns] at hmem;refine e12 (mem_getD hmem) fun j hj ej=>?_;rw [Qx,Array.length_toList] at hj;rw [←ej,←numAt_eq];exact h2 j (Nat.le_sub_one_of_lt hj)
 rw [key];exact h t _ (Nx.heap hT I ⟨hk⟩ tk)
theorem sum_ok (hT:Mono K T) (hh:A.handled=none) (I:In0 K T ι σ s) (ho:s.heap.get? a=some (lstObj items n)) {ns:List Int} (hr:RVs K.hid ι s.heap items.toList (ns.map V.int)) (h:∀ t s',Nx K T lo σ ι ι s s'→Q (.int ns.sum t) s'):
  wpAny (model prog w) A (PySem.call (.builtin "sum") [.ref a]) Q E s:=by
 have hi:IntsAre items.toList ns:=ints_are hr;refine e11 (hi.allInts.items) fun xs ex=>?_;have hns:ns=xs.toList.map (·.1):=by
  rw [←hi.numsOf,←nums_intItems,←ex]
 refine sum_intListG hh (by rw [←ex];exact lstObj_isList ho) fun h' tk t' hk=>?_;rw [show preSum (numAt xs) xs.size=ns.sum from by rw [preSum_eq,List.take_of_length_le (by simp),hns]];exact h t' _ (Nx.heap hT I ⟨hk⟩ tk)
theorem sorted_intv (hT:Mono K T) (I:In0 K T ι σ s) (ho:s.heap.get? a=some (lstObj items n)) {ns ns':List Int} (hr:RVs K.hid ι s.heap items.toList (ns.map V.int)) (h64:ns.length<64)
  (hp:ns'.Perm ns) (hs:ns'.Pairwise (·≤·)) (h:∀ v s',Nx K T lo σ ι ι s s'→RV K.hid ι s'.heap v (.fro (ns'.map V.int))→Q v s'):wpAny (model prog w) A (PySem.call (.builtin "sorted") [.ref a]) Q E s:=by
 have hlen:items.toList.length=ns.length:=hr.length.trans (Qx ..);refine sorted_ints (vs:=items.toList) (by simpa using lstObj_isList ho) (ints_are hr) (hlen▸h64) fun out ns2 a1 a2 a3=>?_;have e:ns2=ns':=List.Perm.eq_of_pairwise (le:=fun a b:Int=>a≤b) (fun x y _ _ q1 q2=>Int.le_antisymm q1 q2) a3 hs (a2.trans hp.symm);subst e;have U:Ux s.heap (sortedAll s.heap items.toList out):=⟨fun b o eb=>sortedAll_old eb⟩
 refine e11 (sortedAll_at s.heap items.toList out) fun k he=>?_;refine h _ _ (Nx.heap hT I U s.toks) (.fro (fun hm=>?_) (fun hm=>?_) he ((rvs_ints a1).grow (U.up.grow (tb:=K.tabs) ι)))
 ·exact absurd (lt_of_mem I.rel hm) (Ww (Nat.le_succ _))
 ·refine e11 (I.rel.hid _ hm) fun o eo=>?_;exact absurd (Heap.lt_size eo) (Ww (Nat.le_succ _))
theorem pop0_meth {i:Nat} {r:List V} {x:V} {u:Tok} (hT:Mono K T) (I:In0 K T ι σ s) (hi:ι[i]?=some a) (hlo:lo≤i) (hσ:σ[i]?=some (.lst (x::r))) (hlen:r.length<4096)
  (h:∀ v s',Nx K T lo (σ.set i (.lst r)) ι ι s s'→RV K.hid ι s'.heap v x→Q v s'):wpAny (model prog w) A (PySem.call (.builtin "list.pop") [.ref a,.int 0 u]) Q E s:=by
 obtain ⟨items,n,ho,hr⟩:=rel_lst I.rel hσ hi;have hsz:=hr.size;obtain ⟨v,e1,e2⟩:=some_get hr (k:=0) (x:=x) rfl;refine call_meets F.slot_list_pop (lst_type ho) F.entry_list_pop (F.args_list_pop_2 _ _) (MeetsSeq.list_pop_at a items n 0 u 0 v (by decide) (by
  unfold seqIndex?;have:0<items.size:=by rw [hsz];exact Nat.succ_pos _
  simp only [Int.lt_irrefl,if_false];rw [if_pos (by simpa using this)]
  rfl) e1 (size_line (by rw [hsz];exact hlen))) ⟨ho,?_⟩
 obtain ⟨m,h1,h2⟩:=update_lst ho fun xs=>xs.eraseIdxIfInBounds 0;have N:=Nx.setL (lo:=lo) (ys:=r) hT I hi hlo hσ h2 s.toks h1 (by
  rw [Array.toList_eraseIdxIfInBounds];have:=hr.drop 1;simpa [List.eraseIdx_zero] using this)
 exact h v _ N (e2.grow N.grow)
theorem index_at {x:Value} {k:Nat} (eb:Value→Bool) (ho:s.heap.get? a=some (lstObj items n)) (he:∀ y,y∈items→MeetsSeq.EqGives y x (eb y)) (hs:items.size≤4096) (hk:k<items.size) (hit:∀ v,items[k]?=some v→eb v=true) (hno:∀ m v,m<k→items[m]?=some v→eb v=false) (h:∀ t s',(∃ tk,s'={ s with toks:=tk })→Q (.int k t) s'):
  wpAny (model prog w) A (PySem.call (.builtin "list.index") [.ref a,x]) Q E s:=by
 refine call_meets F.slot_list_index (lst_type ho) F.entry_list_index (F.args_list_index_2 _ _) (MeetsSeq.list_index a items n x eb he k hk (Int.lt_of_lt_of_le (Int.ofNat_lt.mpr hk) (Int.le_trans (Int.ofNat_le.mpr hs) (by decide))) (hit _ (Array.getElem?_eq_getElem hk)) fun m hm q=>hno m _ q (Array.getElem?_eq_getElem hm)) ⟨ho,?_⟩;exact h _ _ ⟨_,rfl⟩
theorem strs_are {H ι:List Addr} {h:Heap}:∀ {ss:List Str} {vs:List Value},RVs H ι h vs (ss.map V.str)→StrsAre vs ss
 |[],_,r=>by rw [r.nil'];exact .nil
 |x::ss,_,r=>rvsCons r fun u us e a b=>rvStr a fun t z _=>by rw [e,z];exact .cons _ _ (strs_are b)
theorem index_ints {ns:List Int} {x:Int} {t:Tok} {k:Nat} (ho:s.heap.get? a=some (lstObj items n)) (hr:RVs K.hid ι s.heap items.toList (ns.map V.int)) (hl:ns.length≤4096) (hk:ns[k]?=some x) (hb:∀ j,j<k→ns[j]?≠some x) (h:∀ t s',(∃ tk,s'={ s with toks:=tk })→Q (.int k t) s'):
  wpAny (model prog w) A (PySem.call (.builtin "list.index") [.ref a,.int x t]) Q E s:=by
 have hsz:items.size=ns.length:=hr.size.trans (Qx ..);refine index_at (isInt x) ho (fun y hy=>eq_isInt x t (ints_are hr) y (Array.mem_toList_iff.mpr hy)) (hsz▸hl) (hsz▸(Qz hk).1) (fun v hv=>?_) (fun m v hm hv=>?_) h
 ·refine e12 (some_get hr (k:=k) (x:=.int x) (by rw [Qb,hk];rfl)) fun v2 q1 q2=>rvInt q2 fun u z=>?_;rw [Qw (hv.symm.trans q1),z];exact beq_self_eq_true x
 ·have hm2:m<ns.length:=Nat.lt_trans hm (Qz hk).1;refine e12 (some_get hr (k:=m) (x:=.int ns[m]) (by rw [Qb,Qv hm2];rfl)) fun v2 q1 q2=>rvInt q2 fun u z=>?_;rw [Qw (hv.symm.trans q1),z];exact beq_false_of_ne fun q=>hb m hm (by rw [Qv hm2,q])
theorem index_strs {ns:List Str} {x:Str} {t:Tok} {k:Nat} (ho:s.heap.get? a=some (lstObj items n)) (hr:RVs K.hid ι s.heap items.toList (ns.map V.str)) (hl:ns.length≤4096) (hk:ns[k]?=some x) (hb:∀ j,j<k→ns[j]?≠some x) (h:∀ t s',(∃ tk,s'={ s with toks:=tk })→Q (.int k t) s'):
  wpAny (model prog w) A (PySem.call (.builtin "list.index") [.ref a,.str x t]) Q E s:=by
 have hsz:items.size=ns.length:=hr.size.trans (Qx ..);refine index_at (isStrOf x) ho (fun y hy=>eq_isStrOf x t (strs_are hr) y (Array.mem_toList_iff.mpr hy)) (hsz▸hl) (hsz▸(Qz hk).1) (fun v hv=>?_) (fun m v hm hv=>?_) h
 ·refine e12 (some_get hr (k:=k) (x:=.str x) (by rw [Qb,hk];rfl)) fun v2 q1 q2=>rvStr q2 fun u z _=>?_;rw [Qw (hv.symm.trans q1),z];exact beq_self_eq_true x
 ·have hm2:m<ns.length:=Nat.lt_trans hm (Qz hk).1;refine e12 (some_get hr (k:=m) (x:=.str ns[m]) (by rw [Qb,Qv hm2];rfl)) fun v2 q1 q2=>rvStr q2 fun u z _=>?_;rw [Qw (hv.symm.trans q1),z];exact beq_false_of_ne fun q=>hb m hm (by rw [Qv hm2,q])
end
section rules
variable {C:Cfg} {sc:Scope} {n lo:Nat} {σ σ' σ1 σ2 σ3:St} {ρ ρ':Rho} {e l r o i x y:Expr} {p q q1:Pos} {a b c v:V}
theorem ev_Max {ns:List Int} {k:Int} (hk:kindIn sc ("max":Str)=some .globalImplicit) (h:evs C n sc lo [e] ρ σ [v] σ1) (hq:seqOf σ1 v=some (ns.map V.int)) (hm:k∈ns) (ha:∀ a∈ns,a≤k):ev C (n+1) sc lo (.Call (.Name ("max":Str) q) [e] [] p) ρ σ (.int k) σ1:=
 mkEv rfl rfl fun X H _ _ hA _ _ _ _ F I k=>blt_road (X.g H) (h.2 X H hA.d) hk ((X.g H).fns "max" (by simp)) rfl F I fun rvs s1 ι1 N1 r1=>rvs1 r1 fun u z ra=>by
 refine e33 (seqOf_at N1.inn.rel hq ra) fun a items n z2 ho hr=>?_;subst z z2;exact max_ok (X.g H).mono hA.2.2 N1.inn ho hr hm ha fun t s2 N2=>k _ _ _ (N1.trans N2) (.int _ _)
theorem ev_Sum {ns:List Int} (hk:kindIn sc ("sum":Str)=some .globalImplicit) (h:evs C n sc lo [e] ρ σ [v] σ1) (hq:seqOf σ1 v=some (ns.map V.int)):ev C (n+1) sc lo (.Call (.Name ("sum":Str) q) [e] [] p) ρ σ (.int ns.sum) σ1:=
 mkEv rfl rfl fun X H _ _ hA _ _ _ _ F I k=>blt_road (X.g H) (h.2 X H hA.d) hk ((X.g H).fns "sum" (by simp)) rfl F I fun rvs s1 ι1 N1 r1=>rvs1 r1 fun u z ra=>by
 refine e33 (seqOf_at N1.inn.rel hq ra) fun a items n z2 ho hr=>?_;subst z z2;exact sum_ok (X.g H).mono hA.2.2 N1.inn ho hr fun t s2 N2=>k _ _ _ (N1.trans N2) (.int _ _)
theorem ev_SortI {ns ns':List Int} (hk:kindIn sc ("sorted":Str)=some .globalImplicit) (h:evs C n sc lo [e] ρ σ [v] σ1) (hq:seqOf σ1 v=some (ns.map V.int)) (h64:ns.length<64) (hp:ns'.Perm ns) (hs:ns'.Pairwise (·≤·)):
  ev C (n+1) sc lo (.Call (.Name ("sorted":Str) q) [e] [] p) ρ σ (.fro (ns'.map V.int)) σ1:=mkEv rfl rfl fun X H _ _ hA _ _ _ _ F I k=>blt_road (X.g H) (h.2 X H hA.d) hk ((X.g H).fns "sorted" (by simp)) rfl F I fun rvs s1 ι1 N1 r1=>rvs1 r1 fun u z ra=>by
 refine e33 (seqOf_at N1.inn.rel hq ra) fun a items n z2 ho hr=>?_;subst z z2;exact sorted_intv (X.g H).mono N1.inn ho hr h64 hp hs fun v s2 N2 r2=>k _ _ _ (N1.trans N2) r2
theorem chain_inI {ns:List Int} {k:Int} (h:ev C n sc lo r ρ σ b σ1) (hq:seqOf σ1 b=some (ns.map V.int)):chain C (n+1) sc lo (.int k) [.In] [r] ρ σ (ns.any (·==k)) σ1:=
 chain_of h fun X H _ hA _ _ _ _ _ _ I ra rb j=>rvInt ra fun t z=>by
  refine e33 (seqOf_at I.rel hq rb) fun a items n z2 ho hr=>?_;rw [z,z2];exact in_list_ints (vs:=items.toList) (by simpa using lstObj_isList ho) (ints_are hr) (j _)
theorem go_Continue {Q:Fl→Rho→St→Prop} (hq:Q .cont ρ σ):Go (ex C (n+1) sc lo (.Continue p) ρ σ) Q:=⟨_,_,_,fun X H _ _ hw hA hs _ _ _ _ F I k=>wpAny_Continue (k _ _ _ (Nx.refl I).toS F .cont),hq⟩
theorem ev_Pop0 {args:List Expr} {u:V} {xs:List V} {i:Nat} (hok:methOk o q p args=true) (h1:ev C n sc lo o ρ σ (.ref i) σ1) (h2:evs C n sc lo args ρ σ1 [.int 0] σ2) (ht:tagV σ1 (.ref i)=some 0) (hlo:lo≤i) (hs:σ2[i]?=some (.lst (u::xs))) (hl:xs.length<4096):
  ev C (n+1) sc lo (.Call (.Attribute o ("pop":Str) q) args [] p) ρ σ u (σ2.set i (.lst xs)):=mkEv rfl rfl fun X H _ _ hA=>list_road (h1.2.1 X H hA.d) ht (h2.2 X H hA.d) hok F.slot_list_pop F.type_list_pop fun I r rs k=>rvRef r fun a z hi=>rvs1 rs fun ru z2 ra=>rvInt ra fun t z3=>by
 rw [z2,z,z3];exact pop0_meth (X.g H).mono I hi hlo hs hl k
theorem ev_IndexI {args:List Expr} {ns:List Int} {x:Int} {k:Nat} (hok:methOk o q p args=true) (h1:ev C n sc lo o ρ σ a σ1) (h2:evs C n sc lo args ρ σ1 [.int x] σ2) (ht:tagV σ1 a=some 0) (hq:seqOf σ2 a=some (ns.map V.int)) (hl:ns.length≤4096) (hk:ns[k]?=some x) (hb:∀ j,j<k→ns[j]?≠some x):
  ev C (n+1) sc lo (.Call (.Attribute o ("index":Str) q) args [] p) ρ σ (.int k) σ2:=mkEv rfl rfl fun X H _ _ hA=>list_road (h1.2.1 X H hA.d) ht (h2.2 X H hA.d) hok F.slot_list_index F.type_list_index fun I r rs j=>rvs1 rs fun ru z2 ra=>rvInt ra fun t z3=>by
 refine e33 (seqOf_at I.rel hq r) fun a items m z ho hr=>?_;rw [z2,z,z3];refine index_ints ho hr hl hk hb fun t s' e=>e.elim fun tk e=>?_;subst e;exact j _ _ (Nx.heap (X.g H).mono I (Ux.refl _) tk) (.int _ _)
theorem ev_IndexS {args:List Expr} {ns:List Str} {x:Str} {k:Nat} (hok:methOk o q p args=true) (h1:ev C n sc lo o ρ σ a σ1) (h2:evs C n sc lo args ρ σ1 [.str x] σ2) (ht:tagV σ1 a=some 0) (hq:seqOf σ2 a=some (ns.map V.str)) (hl:ns.length≤4096) (hk:ns[k]?=some x) (hb:∀ j,j<k→ns[j]?≠some x):
  ev C (n+1) sc lo (.Call (.Attribute o ("index":Str) q) args [] p) ρ σ (.int k) σ2:=mkEv rfl rfl fun X H _ _ hA=>list_road (h1.2.1 X H hA.d) ht (h2.2 X H hA.d) hok F.slot_list_index F.type_list_index fun I r rs j=>rvs1 rs fun ru z2 ra=>rvStr ra fun t z3 _=>by
 refine e33 (seqOf_at I.rel hq r) fun a items m z ho hr=>?_;rw [z2,z,z3];refine index_strs ho hr hl hk hb fun t s' e=>e.elim fun tk e=>?_;subst e;exact j _ _ (Nx.heap (X.g H).mono I (Ux.refl _) tk) (.int _ _)
theorem ev_AddT {xs ys:List V} (h1:ev C n sc lo l ρ σ (.fro xs) σ1) (h2:ev C n sc lo r ρ σ1 (.fro ys) σ2) (hl:xs.length+ys.length≤4096):ev C (n+1) sc lo (.BinOp l .Add r p) ρ σ (.ref σ2.length) (σ2++[.lst (xs++ys)]):=mkEv rfl rfl fun X H _ _ hA _ _ _ _ F I h=>
 wpAny_BinOp (h1.2.1 X H hA.d F I fun ra s1 ι1 N1 r1=>h2.2.1 X H hA.d (F.grow N1.grow) N1.inn fun rb s2 ι2 N2 r2=>rvFro (r1.grow N2.grow) fun a1 i1 m1 z1 _ _ ho1 hr1=>rvFro r2 fun a2 i2 m2 z2 _ _ ho2 hr2=>by
  subst z1 z2;refine PySem.P.add_list ho1 ho2 ?_ (by rw [hr1.size,hr2.size];exact Qy hl (by decide));exact e12 (newList_ok (lo:=lo) (n:=0) (keep:=true) (X.g H).mono (n0_le (F.grow N1.grow) N2.grow) N2.inn (by rw [Array.toList_append];exact hr1.append hr2) rfl) fun ι3 N3 r3=>h _ _ _ ((N1.trans N2).trans N3) r3)
end rules
end
section
variable {prog:Program} {w:World} {C:Cfg} {K:Cst} {T:Heap→Prop} {mg mb:Str→Option Value} {Kf:Frag}
noncomputable def NsF (h:Heap) (a:Addr) (m:Str→Option Value):Prop:=h.Ns a m∧∃ o,h.get? a=some o∧privObj o
theorem NsF.at' {h h':Heap} {a:Addr} {m:Str→Option Value} (x:NsF h a m) (hk:∀ o,h.get? a=some o→h'.get? a=some o):NsF h' a m:=
 ⟨x.1.at' hk,let ⟨o,e,p⟩:=x.2;⟨o,hk o e,p⟩⟩
set_option tactic.hygienic true in
theorem putName_cls (name:Str) (hh:Int) (key v:Value) (o:Obj):(Obj.putName name hh key v o).cls=o.cls:=by
 rw [Obj.putName_eq];obtain ⟨c,d,dt,sl⟩:=o;cases dt<;>first|rfl|skip
 rename_i es n
 show (match es.findIdx? (·.key.isStr name) with|some i=>_|none=>_:Obj).cls=c;cases es.findIdx? (·.key.isStr name)<;>rfl
theorem update_is {h:Heap} {a:Addr} {f:Obj→Obj} {o o2:Obj} (ho:h.get? a=some o) (e:(h.update a f).get? a=some o2):o2=f o:=by
 obtain h1:=(Heap.get?_some_iff.mp e).1;obtain h2:=(Heap.get?_some_iff.mp ho).1;cases h;simp only [Heap.update,Array.getElem?_modify,if_true] at h1;simp only at h2;rw [h2] at h1;exact (Qw h1).symm
theorem nsSetF {M:Model} {A:Around} {E:Value→Shared→Prop} {s:Shared} {a:Addr} {m:Str→Option Value} {name:Str} {v:Value} {Q:Unit→Shared→Prop} (hn:NsF s.heap a m)
  (h:∀ h',NsF h' a (fun x=>if x=name then some v else m x)→Heap.SameBut a s.heap h'→Q () { s with heap:=h',toks:=s.toks+1 }):wpAny M A (nsSet a name v) Q E s:=by
 obtain ⟨hn,o,ho,hp⟩:=hn;intro Γ p hΓ;obtain key:=Sem.wp_nsSet M Γ (fun e o_ s'=>E e s') p s hn name v (fun o_ o_ s'=>s'.heap.Ns a (fun x=>if x=name then some v else m x)∧Heap.SameBut a s.heap s'.heap) (fun h' x y=>⟨x,y⟩);refine nb fun kk=>?_;obtain ⟨o',es,ep,ho',hd,hk,hm⟩:=id hn;refine kk ?_;obtain rfl:o'=o:=Qw (ho'.symm.trans ho);obtain hany:es.any (·.refKey)=false:=by
  rw [Array.any_eq_false'];intro e he;obtain ⟨n,t,h⟩:=hk e he;simp -iota [DictEntry.refKey,h]
 simp -iota only [nsSet,strHash,Sem.wp_bind',Sem.wp_cmd_ask,Sem.wp_pure',Sem.wp_cmd_mkText] at key⊢;rw [Sem.wp_loadPart_of M Γ _ p { s with toks:=s.toks+1 } (o:=o') _ ho] at key⊢;simp only [hd,aRefKeyMayBeTheName_eq,aRefKeyMayBeTheNameByArray,hany,Bool.and_false,Bool.false_eq_true,if_false,Sem.wp_cmd_updatePart] at key⊢;refine nb fun kk=>?_;refine e03 (key) fun k1 k2 k3=>?_;refine kk ?_;refine ⟨k1,h _ ⟨k2,?_⟩ k3⟩;refine nb fun kk=>?_;obtain ⟨o2,es2,ep2,e2,hd2,_⟩:=id k2;refine kk ?_;refine ⟨o2,e2,?_,.inr (xi2 _ _ hd2)⟩;obtain ⟨⟨n,e3,e4⟩,_⟩:=hp;exact ⟨n,by rw [update_is ho e2,putName_cls,e3],e4⟩
theorem storeF {M:Model} {A:Around} {E:Value→Shared→Prop} {s:Shared} {env:Env} {m:Str→Option Value} {name:Str} {v:Value} {Q:Unit→Shared→Prop} (hk:env.scope.kind=.function) (hl:env.kindOf name=some .local) (hn:NsF s.heap env.locals m)
  (h:∀ h' tk,NsF h' env.locals (fun x=>if x=name then some v else m x)→Heap.SameBut env.locals s.heap h'→Q () { s with heap:=h',toks:=tk }):wpAny M A (storeName env name v) Q E s:=by
 rw [storeName_local hl (by rw [hk];rfl)];exact nsSetF hn fun h' a b=>h h' _ a b
theorem newEnv1 {M:Model} {A:Around} {E:Value→Shared→Prop} {s:Shared} {scope:Scope} {globals:Addr} {name:Str} {v:Value} {qual:Str} {func:Option Addr} {code:Value} {builtins:Addr} {Q:Env→Shared→Prop}
  (hc:∀ x∈scope.names,x.2≠.cell) (hl:scope.names.lookup name=some .local) (hk:scope.kind=.function)
  (h:∀ h' tk,NsF h' s.heap.objs.size (fun x=>if x=name then some v else none)→Heap.SameBut s.heap.objs.size (s.heap.push { cls:=.type "frame",data:=.dict #[] }) h'→
   Q (newEnv scope s.heap.objs.size globals [] qual func code none builtins) { s with heap:=h',toks:=tk }):wpAny M A (newFunctionEnv scope globals [] [(name,v)] qual func code none builtins) Q E s:=by
 simp only [newFunctionEnv,Option.isSome_none,Bool.false_eq_true,if_false];refine Qq (wpAny_alloc ?_);rw [forIn_yield_id ([]:List (Str×Addr)) (fun x hx c=>by
   refine nb fun kk=>?_;obtain ⟨name,kind⟩:=x;refine kk ?_;have:(kind==NameKind.cell)=false:=by simpa using hc _ hx
   simp only [this,Bool.false_eq_true,if_false])]
 refine Qq (Qf (Qq ?_));refine wpAny_forIn_list _ (fun rest o_ s'=>(rest=[(name,v)]∧s'={ s with heap:=s.heap.push { cls:=.type "frame",data:=.dict #[] } })∨
   (rest=[]∧∃ h' tk,s'={ s with heap:=h',toks:=tk }∧NsF h' s.heap.objs.size (fun x=>if x=name then some v else none)∧Heap.SameBut s.heap.objs.size (s.heap.push { cls:=.type "frame",data:=.dict #[] }) h')) _ ?_ ?_ [(name,v)] _ (.inl ⟨rfl,rfl⟩)
 ·rintro ⟨n',v'⟩ rest _ s' (⟨e,rfl⟩|⟨e,_⟩)
  ·cases e;obtain hn0:NsF (s.heap.push { cls:=.type "frame",data:=.dict #[] }) s.heap.objs.size (fun o_=>none):=⟨Heap.Ns.new ..,_,Heap.get?_push_size _ rfl,⟨_,rfl,by decide⟩,.inr (xi2 _ _ rfl)⟩
   refine Qq (storeF (env:={ scope,locals:=s.heap.objs.size,globals,cells:=[],qual,func,code,frame:=some s.heap.objs.size,builtins }) hk hl hn0 fun h' tk a b=>Qf (.inr ⟨rfl,h',tk,rfl,a,b⟩))
  ·cases e
 ·rintro _ s' (⟨e,rfl⟩|⟨_,h',tk,rfl,a,b⟩)
  ·cases e
  ·exact Qf (h h' tk a b)
section
variable {M:Model} {A:Around} {R:GenEnd} {Y:Protocol} {n:Nat} {s₀:Shared} {c:Code} {fs:List Frame} {s:Shared} {env:Env} {Kf':Flow→Sem Fin} {H:Value→Sem Fin} {gd:Bool→Bool} {lv:List Value→List Value}
theorem seg_If {test:Expr} {body orelse:List Stmt} {pos:Pos}
  (h:wpAny M (A.over c fs) (isTrue test env (eval test env)) (fun b s'=>Seg M A R Y n s₀ c ((if b then execs body env else execs orelse env).wrap Kf' H gd lv) fs s') (fun x s'=>Seg M A R Y n s₀ c (H x) fs s') s):
  Seg M A R Y n s₀ c ((exec (.If test body orelse pos) env).wrap Kf' H gd lv) fs s:=by
 rw [arm_exec_If];refine seg_bind_wrap (wpAny_standAt ?_);refine seg_bind_wrap (Wj h (fun b s' hb=>?_) fun o_ o_ e=>e);cases b<;>exact hb
theorem seg_stmt {st:Stmt} {rest:List Stmt}
  (h:wpAny M (A.over c fs) (exec st env) (fun f s'=>f=.next∧Seg M A R Y n s₀ c ((execs rest env).wrap Kf' H gd lv) fs s') (fun x s'=>Seg M A R Y n s₀ c (H x) fs s') s):
  Seg M A R Y n s₀ c ((execs (st::rest) env).wrap Kf' H gd lv) fs s:=by
 refine seg_execs_cons (seg_wrap (Wj h (fun f s' hf=>?_) fun o_ o_ e=>e));refine nb fun kk=>?_;obtain ⟨qz0,hf⟩:=hf;obtain rfl:=qz0;refine kk ?_;exact hf
end
noncomputable def escTup1 (P:Nat→Pos) (k:Nat→Nat):Expr:=.Tuple [.Name ("pos":Str) (P 14),.BinOp (.Constant (.str ("\\":Str)) (k 2) (P 15)) .Add (.Name ("ch":Str) (P 16)) (P 17)] (k 3) (P 18)
noncomputable def escTup2 (P:Nat→Pos) (k:Nat→Nat):Expr:=.Tuple [.Name ("pos":Str) (P 31),.Name ("ch":Str) (P 32)] (k 7) (P 33)
noncomputable def escTup3 (P:Nat→Pos) (k:Nat→Nat):Expr:=.Tuple [.Name ("pos":Str) (P 39),.Constant (.str ("\\":Str)) (k 8) (P 40)] (k 9) (P 41)
noncomputable def escTurn (P:Nat→Pos) (k:Nat→Nat):Stmt:=
 .If (.Name ("escape":Str) (P 13)) [.Expr (.Yield (some (escTup1 P k)) (P 19)) (P 20),.Assign [.Name ("escape":Str) (P 21)] (.Constant (.bool false) (k 4) (P 22)) (P 23)]
  [.If (.Compare (.Name ("ch":Str) (P 24)) [.Eq] [.Constant (.str ("\\":Str)) (k 5) (P 25)] (P 26)) [.Assign [.Name ("escape":Str) (P 27)] (.Constant (.bool true) (k 6) (P 28)) (P 29)]
   [.Expr (.Yield (some (escTup2 P k)) (P 34)) (P 35)] (P 30)] (P 36)
noncomputable def escLast (P:Nat→Pos) (k:Nat→Nat):Stmt:=.If (.Name ("escape":Str) (P 37)) [.Expr (.Yield (some (escTup3 P k)) (P 42)) (P 43)] [] (P 38)
noncomputable def escTgt (P:Nat→Pos) (k:Nat→Nat):Expr:=.Tuple [.Name ("pos":Str) (P 6),.Name ("ch":Str) (P 7)] (k 10) (P 8)
noncomputable def escBody (P:Nat→Pos) (k:Nat→Nat):List Stmt:=
 [.Assign [.Name ("pos":Str) (P 0)] (.Constant (.int 0) (k 0) (P 1)) (P 2),.Assign [.Name ("escape":Str) (P 3)] (.Constant (.bool false) (k 1) (P 4)) (P 5),
  .For (escTgt P k) (.Call (.Name ("enumerate":Str) (P 9)) [.Name ("addr":Str) (P 10)] [] (P 11)) [escTurn P k] [] (P 12),escLast P k]
structure GFr (env:Env):Prop where
 kind:env.scope.kind=.function
 co:env.scope.isCoroutine=false
 addr:env.kindOf ("addr":Str)=some .local
 pos:env.kindOf ("pos":Str)=some .local
 esc:env.kindOf ("escape":Str)=some .local
 ch:env.kindOf ("ch":Str)=some .local
 enum:env.kindOf ("enumerate":Str)=some .globalImplicit
 glob:env.globals=mainGlobals
 blt:env.builtins=builtinsNs
noncomputable def Since (fp:List Addr) (s₀ s:Shared):Prop:=∃ h' tk,s={ s₀ with heap:=h',toks:=tk }∧∀ b o,b∉fp→s₀.heap.get? b=some o→h'.get? b=some o
theorem Since.refl (fp:List Addr) (s:Shared):Since fp s s:=⟨s.heap,s.toks,rfl,fun o_ o_ o_ e=>e⟩
theorem Since.step {fp:List Addr} {s₀ s:Shared} {h':Heap} {tk:Nat} (x:Since fp s₀ s) (k:∀ b o,b∉fp→s.heap.get? b=some o→h'.get? b=some o):Since fp s₀ { s with heap:=h',toks:=tk }:=by
 obtain ⟨h1,t1,rfl,k1⟩:=x;exact ⟨h',tk,rfl,fun b o hb e=>k b o hb (k1 b o hb e)⟩
noncomputable def GOut (G:List V) (i:Nat) (s₀:Shared) (v:Value) (s:Shared):Prop:=
 ∃ A q tq y u n,v=.ref A∧s.heap.get? A=some (tupObj #[.int q tq,.str y u] n)∧s₀.heap.get? A=none∧G[i]?=some (.tup [.int q,.str y])∧asc y=true
noncomputable def GProto (G:List V) (fp:List Addr):Protocol:=fun m s₀ v s kap=>GOut G (G.length-1-m) s₀ v s∧Since fp s₀ s∧(∀ b∈fp,∃ o,s.heap.get? b=some o∧privObj o)∧∀ s'',(∀ b∈fp,∀ o,s.heap.get? b=some o→s''.heap.get? b=some o)→kap (.send .none) s''
noncomputable def GEnd (fp:List Addr):GenEnd:=fun n s₀ r s₁=>r=.ok (.ret .none)∧n=0∧Since fp s₀ s₁
section
variable {A:Around} {E:Value→Shared→Prop} {s:Shared} {env:Env} {m:Str→Option Value} {P:Nat→Pos} {k:Nat→Nat} {M:Model}
theorem gname {x:Str} {p:Pos} {v:Value} {Q:Value→Shared→Prop} (F:GFr env) (hx:env.kindOf x=some .local) (hn:NsF s.heap env.locals m) (hv:m x=some v) (h:Q v s) (hd:(x==("__debug__":Str))=false:=by decide):
  wpAny M A (eval (.Name x p) env) Q E s:=wpAny_Name (wpAny_loadName_local F.kind hx hn.1 hv h) hd
theorem gset {x:Str} {p p':Pos} {c:Const} {kk:Nat} {v:Value} {Q:Flow→Shared→Prop} (F:GFr env) (hx:env.kindOf x=some .local) (hn:NsF s.heap env.locals m)
  (hc:∀ {Q:Value→Shared→Prop},(∀ tk,Q v { s with toks:=tk })→wpAny M A (eval (.Constant c kk p') env) Q E s)
  (h:∀ h' tk,NsF h' env.locals (fun y=>if y=x then some v else m y)→Heap.SameBut env.locals s.heap h'→Q .next { s with heap:=h',toks:=tk }) {p'':Pos}:
  wpAny M A (exec (.Assign [.Name x p] (.Constant c kk p') p'') env) Q E s:=
 wpAny_Assign_Name (hc fun tk=>storeF (s:={ s with toks:=tk }) F.kind hx hn fun h' tk' a b=>h h' tk' a b)
end
noncomputable def GNs (env:Env) (j:Nat) (b:Bool) (h:Heap):Prop:=∃ m,NsF h env.locals m∧m ("escape":Str)=some (.bool b)∧(b=true→0<j∧∃ tp,m ("pos":Str)=some (.int ((j:Int)-1) tp))
structure GAt (env:Env) (e it:Addr) (x:Str) (t:Tok) (j:Nat) (b:Bool) (h:Heap):Prop where
 ns:GNs env j b h
 en:∃ old,IsEnum h e it (j:Int) old
 st:h.IsStrIter it "str_ascii_iterator" x t j
 le:j≤x.cps.size
theorem GAt.at' {env:Env} {e it:Addr} {x:Str} {t:Tok} {j:Nat} {b:Bool} {h h':Heap} (g:GAt env e it x t j b h) (hk:∀ a∈[env.locals,e,it],∀ o,h.get? a=some o→h'.get? a=some o):GAt env e it x t j b h' where
 ns:=let ⟨m,a,r⟩:=g.ns;⟨m,a.at' (hk _ (by simp)),r⟩
 en:=let ⟨old,a⟩:=g.en;⟨old,hk e (by simp) _ a⟩
 st:=let ⟨o,ho,r⟩:=g.st;⟨o,hk it (by simp) _ ho,r⟩
 le:=g.le
theorem bs_is:("\\":Str)=⟨#[92]⟩:=by decide +kernel
section
variable {A:Around} {s₀ s:Shared} {env:Env} {P:Nat→Pos} {k:Nat→Nat} {e it:Addr} {x:Str} {t:Tok} {G:List V} {c:Code} {fs:List Frame} {Kk:Flow→Sem Fin} {H:Value→Sem Fin} {gd:Bool→Bool} {lv:List Value→List Value}
theorem seg_pair {n:Nat} {ex1 ex2:Expr} {kk:Nat} {p1 p2 p3:Pos} {q:Int} {y:Str} {pre:List V} {post:List V} (F:GFr env) (hfs:splitAtGen fs=none) (hgd:gd false=false) (hfg:fs.any Frame.guarded=false)
  (hG:G=pre++.tup [.int q,.str y]::post) (hn:n=post.length) (hy:asc y=true) (hS:Since [env.locals,e,it] s₀ s) (hpr:∀ b∈[env.locals,e,it],∃ o,s.heap.get? b=some o∧privObj o)
  (h1:∀ {s1:Shared} {Q:Value→Shared→Prop} {E:Value→Shared→Prop},s1.heap=s.heap→(∀ tk u,Q (.int q u) { s1 with toks:=tk })→wpAny (model prog w) (A.over c fs) (eval ex1 env) Q E s1)
  (h2:∀ {s1:Shared} {Q:Value→Shared→Prop} {E:Value→Shared→Prop},s1.heap=s.heap→(∀ tk u,Q (.str y u) { s1 with toks:=tk })→wpAny (model prog w) (A.over c fs) (eval ex2 env) Q E s1)
  (hst1:∀ r,starEach (ex1::r) env=(false,eval ex1 env)::starEach r env) (hst2:∀ r,starEach (ex2::r) env=(false,eval ex2 env)::starEach r env)
  (h:∀ s'':Shared,(∀ b∈[env.locals,e,it],∀ o,s.heap.get? b=some o→s''.heap.get? b=some o)→Seg (model prog w) A (GEnd [env.locals,e,it]) (GProto G [env.locals,e,it]) n s'' c (Kk .next) fs s''):
  Seg (model prog w) A (GEnd [env.locals,e,it]) (GProto G [env.locals,e,it]) (n+1) s₀ c ((exec (.Expr (.Yield (some (.Tuple [ex1,ex2] kk p1)) p2) p3) env).wrap Kk H gd lv) fs s:=by
 refine seg_Expr_Yield hfs hgd hfg ?_ F.co (by unfold interactive;rw [F.kind];rfl);refine wpAny_Tuple_spliced ?_;refine wpAny_items_cons (h1 rfl fun tk u=>wpAny_items_cons (h2 rfl fun tk2 u2=>wpAny_items_nil ?_) (hst2 _)) (hst1 _);refine ⟨by show 2≤sizeLine;decide,fun kap hkap=>?_⟩;obtain keep:∀ b o,s.heap.get? b=some o→(s.heap.push (tupObj #[.int q u,.str y u2] 0)).get? b=some o:=fun b o e=>Qg _ e;refine ⟨⟨s.heap.objs.size,q,u,y,u2,0,rfl,Heap.get?_push_size _ rfl,?_,?_,hy⟩,hS.step (h':=s.heap.push (tupObj #[.int q u,.str y u2] 0)) (fun b o o_ e=>keep b o e),fun b hb=>(let ⟨o,e,z⟩:=hpr b hb;⟨o,keep b o e,z⟩),fun s'' hal=>?_⟩
 ·obtain ⟨h',tk',rfl,hk⟩:=hS;cases q0:s₀.heap.get? h'.objs.size with
  |none=>rfl
  |some o=>
   have:=hk _ o (fun hm=>by obtain ⟨o,e,_⟩:=hpr _ hm;exact absurd (Heap.lt_size e) (Nat.lt_irrefl _)) q0;exact absurd (Heap.lt_size this) (Nat.lt_irrefl _)
 ·subst hG hn;rw [Qu,List.length_cons,show pre.length+(post.length+1)-1-post.length=pre.length from Nat.add_sub_cancel (n:=pre.length) (m:=post.length),List.getElem?_append_right (Nat.le_refl _),Nat.sub_self]
  rfl
 ·exact hkap .none s'' (h s'' fun b hb o e=>hal b hb o (keep b o e))
end
theorem enum_end {A:Around} {E:Value→Shared→Prop} {s:Shared} {e it:Addr} {x:Str} {t:Tok} {i:Int} {old:Value} {Q:Option Value→Shared→Prop} (hh:A.handled=none) (he:IsEnum s.heap e it i old) (hit:s.heap.IsStrIter it "str_ascii_iterator" x t x.cps.size)
  (hQ:∀ h',Heap.ExtBut it s.heap h'→(∃ o,h'.get? it=some o∧privObj o)→Q none { s with heap:=h' }):wpAny (model prog w) A (pyNext (.ref e)) Q E s:=by
 have hT:s.TypeIs (.ref e) "enumerate":=⟨_,he,rfl⟩
 refine next_of hT F.slot_enumerate_next F.entry_enumerate_next (F.args_enumerate_next_1 _) ?_;refine Qq (m:=field (.ref e) 2) (wpAny_field he rfl (x:=.ref it) rfl (Qq ?_));obtain ⟨o,ho,hc,hd⟩:=id hit;unfold Builtin.SmallTypes.nextOf;refine Qq (wpAny_callSpecial?_slot (name:=Str.ofString "__next__") hit.typeIs F.slot_str_ascii_iterator_next
  (wpAny_call_entry F.slot_str_ascii_iterator_next hit.typeIs F.entry_str_ascii_iterator_next ?_ (F.args_str_ascii_iterator_next_1 _)))
 refine Qq (m:=field (.ref it) 0) (wpAny_field ho hd (x:=.str x t) rfl (Qq (m:=field (.ref it) 1) (wpAny_field ho hd (x:=.int (x.cps.size:Nat) 0) rfl ?_)));show wpAny _ _ (match x.cps[x.cps.size]? with|some c=>_|none=>_) _ _ _;rw [Array.getElem?_size];have hu:=Heap.get?_update_self (h:=s.heap) (Obj.mapFields (·.setIfInBounds 0 .none)) ho (by obtain ⟨a1,a2,a3,a4⟩:=o;cases hd;rfl);have hp:privObj (Obj.mapFields (·.setIfInBounds 0 .none) o):=by
  obtain ⟨a1,a2,a3,a4⟩:=o;cases hd;exact ⟨⟨_,hc,by decide⟩,.inl ⟨_,rfl⟩⟩
 exact Qq (wpAny_rule (Qq (wpAny_setField ho hd (by simp) (Qq (wpAny_letGo (stop_ok hh fun h' k=>hQ _ (fun b o hb e=>k _ _ ((Heap.SameBut.update ..).extBut b o hb e)) ⟨_,k _ _ hu,hp⟩))))))
section
variable {A:Around} {s₀ s:Shared} {env:Env} {P:Nat→Pos} {k:Nat→Nat} {e it:Addr} {x:Str} {t:Tok} {G:List V} {c:Code} {fs:List Frame} {Kk:Flow→Sem Fin} {H:Value→Sem Fin} {gd:Bool→Bool} {lv:List Value→List Value}
theorem eq_bs (c:Nat):((⟨#[c]⟩:Str)==("\\":Str))=decide (c=92):=by
 rw [bs_is]
 by_cases h:c=92
 ·subst h;simp
 ·have:(⟨#[c]⟩:Str)≠⟨#[92]⟩:=fun e=>h (by simpa using congrArg Str.cps e);simp [this,h]
theorem bs_app (c:Nat):("\\":Str)++(⟨#[c]⟩:Str)=⟨#[92,c]⟩:=by rw [bs_is];rfl
theorem seg_turn {j ch:Nat} {b:Bool} {r:List Nat} {pre:List V} {m:Str→Option Value} {tp tc:Tok} (F:GFr env) (hne:e≠it) (hLe:env.locals≠e) (hLi:env.locals≠it) (hfs:splitAtGen fs=none) (hgd:gd false=false) (hfg:fs.any Frame.guarded=false)
  (hn:NsF s.heap env.locals m) (mp:m ("pos":Str)=some (.int (j:Int) tp)) (mc:m ("ch":Str)=some (.str ⟨#[ch]⟩ tc)) (me:m ("escape":Str)=some (.bool b)) (he:∃ old,IsEnum s.heap e it ((j+1:Nat):Int) old) (hit:s.heap.IsStrIter it "str_ascii_iterator" x t (j+1)) (hle:j+1≤x.cps.size)
  (hch:ch<128) (hS:Since [env.locals,e,it] s₀ s) (hG:G=pre++escGo j b (ch::r))
  (h:∀ b' (s₀' s':Shared),GAt env e it x t (j+1) b' s'.heap→Since [env.locals,e,it] s₀' s'→(∃ pre',G=pre'++escGo (j+1) b' r)→Seg (model prog w) A (GEnd [env.locals,e,it]) (GProto G [env.locals,e,it]) (escGo (j+1) b' r).length s₀' c (Kk .next) fs s'):
  Seg (model prog w) A (GEnd [env.locals,e,it]) (GProto G [env.locals,e,it]) (escGo j b (ch::r)).length s₀ c ((execs [escTurn P k] env).wrap Kk H gd lv) fs s:=by
 have hasc:asc ⟨#[ch]⟩=true:=by unfold asc;simpa -iota using hch
 have off:∀ {h':Heap},Heap.SameBut env.locals s.heap h'→(∃ old,IsEnum h' e it ((j+1:Nat):Int) old)∧h'.IsStrIter it "str_ascii_iterator" x t (j+1):=fun hs=>
  ⟨let ⟨old,z⟩:=he;⟨old,hs.extBut e _ (Ne.symm hLe) z⟩,let ⟨o,ho,q⟩:=hit;⟨o,hs.extBut it o (Ne.symm hLi) ho,q⟩⟩
 have hpr:∀ b∈[env.locals,e,it],∃ o,s.heap.get? b=some o∧privObj o:=fun b hb=>by
  simp -iota only [List.mem_cons,List.not_mem_nil,or_false] at hb;rcases hb with rfl|rfl|rfl
  ·exact hn.2
  ·obtain ⟨_,z⟩:=he;exact priv_enum z
  ·exact priv_striter hit
 refine seg_execs_cons ?_;unfold escTurn;refine seg_If (isTrue_plain (gname F F.esc hn me (wpAny_truthy_bool ?_)));cases b with
 |true=>
  simp -iota only [if_true];have e0:escGo j true (ch::r)=.tup [.int j,.str ⟨#[92,ch]⟩]::escGo (j+1) false r:=rfl;rw [e0] at hG⊢;refine seg_execs_cons ?_;unfold escTup1;refine seg_pair (pre:=pre) (post:=escGo (j+1) false r) F hfs hgd hfg hG rfl (by unfold asc;simpa -iota using hch) hS hpr (fun {s1 Q E} hs hQ=>?_) (fun {s1 Q E} hs hQ=>?_) (fun o_=>rfl) (fun o_=>rfl) fun s'' hal=>?_
  ·exact gname F F.pos (by rw [hs];exact hn) mp (hQ s1.toks _)
  ·refine wpAny_BinOp (wpAny_Constant_str (gname F F.ch (by rw [hs];exact hn) mc (PyProof.Rows.add_str (fun t' tk=>?_) ?_)))
   ·rw [bs_app];exact hQ _ _
   ·rw [bs_is];show 1+1≤sizeLine;decide
  ·have hn':NsF s''.heap env.locals m:=hn.at' (hal _ (by simp -iota));refine seg_stmt (gset F F.esc hn' (fun {Q} h=>wpAny_Constant_bool (h s''.toks)) fun h' tk hns hsb=>⟨rfl,?_⟩);refine h false _ _ ⟨⟨_,hns,rfl,fun z=>by cases z⟩,?_,?_,hle⟩ ((Since.refl _ s'').step fun b o hb e=>hsb.extBut b o (fun z=>hb (by simp -iota [z])) e) ⟨pre++[.tup [.int j,.str ⟨#[92,ch]⟩]],by rw [hG];simp⟩
   ·obtain ⟨old,z⟩:=he;exact ⟨old,hsb.extBut e _ (Ne.symm hLe) (hal e (by simp -iota) _ z)⟩
   ·obtain ⟨o,ho,q⟩:=hit;exact ⟨o,hsb.extBut it o (Ne.symm hLi) (hal it (by simp -iota) _ ho),q⟩
 |false=>
  simp -iota only [Bool.false_eq_true,if_false];refine seg_execs_cons ?_;refine seg_If (wpAny_isTrue_Compare1 (gname F F.ch hn mc (wpAny_Constant_str (PyProof.Rows.eq_str ?_))));rw [eq_bs];refine wpAny_truthy_bool ?_
  by_cases hc:ch=92
  ·have e0:escGo j false (ch::r)=escGo (j+1) true r:=if_pos hc;rw [e0] at hG⊢;rw [decide_eq_true hc];simp -iota only [if_true];refine seg_stmt (gset (s:={ s with toks:=s.toks+1 }) F F.esc hn (fun {Q} h=>wpAny_Constant_bool (h _)) fun h' tk hns hsb=>⟨rfl,?_⟩);exact h true _ _ ⟨⟨_,hns,rfl,fun o_=>⟨Nat.succ_pos _,tp,by rw [if_neg (by decide +kernel),mp];simp⟩⟩,(off hsb).1,(off hsb).2,hle⟩ (hS.step fun b o hb e=>hsb.extBut b o (fun z=>hb (by simp -iota [z])) e) ⟨pre,hG⟩
  ·have e0:escGo j false (ch::r)=.tup [.int j,.str ⟨#[ch]⟩]::escGo (j+1) false r:=if_neg hc;rw [e0] at hG⊢;rw [decide_eq_false hc];simp -iota only [Bool.false_eq_true,if_false];refine seg_execs_cons ?_;unfold escTup2;refine seg_pair (s:={ s with toks:=s.toks+1 }) (pre:=pre) (post:=escGo (j+1) false r) F hfs hgd hfg hG rfl hasc (hS.step fun o_ o_ o_ e=>e) hpr (fun {s1 Q E} hs hQ=>?_) (fun {s1 Q E} hs hQ=>?_) (fun o_=>rfl) (fun o_=>rfl) fun s'' hal=>?_
   ·exact gname F F.pos (by rw [hs];exact hn) mp (hQ s1.toks _)
   ·exact gname F F.ch (by rw [hs];exact hn) mc (hQ s1.toks _)
   ·exact h false s'' s'' ⟨⟨m,hn.at' (hal _ (by simp -iota)),me,fun z=>by cases z⟩,(let ⟨old,z⟩:=he;⟨old,hal e (by simp -iota) _ z⟩),(let ⟨o,ho,q⟩:=hit;⟨o,hal it (by simp -iota) _ ho,q⟩),hle⟩ (Since.refl _ _) ⟨pre++[.tup [.int j,.str ⟨#[ch]⟩]],by rw [hG];simp⟩
end
section
variable {A:Around} {env:Env} {P:Nat→Pos} {k:Nat→Nat} {e it:Addr} {x:Str} {t:Tok} {G:List V} {c₁:Code} {kf:Result→Sem Fin} {lv:List Value} {p:Pos} {kp:List Value}
theorem seg_escLoop (F:GFr env) (hh:A.handled=none) (hx:asc x=true) (hne:e≠it) (hLe:env.locals≠e) (hLi:env.locals≠it)
  (hend:∀ b (s₀ s:Shared),GNs env x.cps.size b s.heap→(∀ b∈[env.locals,e,it],∃ o,s.heap.get? b=some o∧privObj o)→Since [env.locals,e,it] s₀ s→(∃ pre,G=pre++escGo x.cps.size b [])→
   Seg (model prog w) A (GEnd [env.locals,e,it]) (GProto G [env.locals,e,it]) (escGo x.cps.size b []).length s₀ c₁ (kf (.ok .next)) [] s):
  ∀ (n j:Nat) (b:Bool) (s₀ s:Shared),x.cps.size-j=n→GAt env e it x t j b s.heap→Since [env.locals,e,it] s₀ s→(∃ pre,G=pre++escGo j b (x.cps.toList.drop j))→
   Seg (model prog w) A (GEnd [env.locals,e,it]) (GProto G [env.locals,e,it]) (escGo j b (x.cps.toList.drop j)).length s₀ (.forLoop (escTgt P k) (.ref e) [escTurn P k] [] env)
    ((model prog w).den (.forLoop (escTgt P k) (.ref e) [escTurn P k] [] env)) [.ret kf none false lv c₁ p kp] s:=by
 obtain hh':∀ c,(A.over c [.ret kf none false lv c₁ p kp]).handled=none:=fun c=>hh;intro n
 induction n with
 |zero=>
  intro j b s₀ s hn g hS hG;obtain rfl:j=x.cps.size:=Nat.le_antisymm g.le (Nat.le_of_sub_eq_zero hn);rw [List.drop_of_length_le (by simp)] at hG⊢;show Seg _ A _ _ _ s₀ _ ((forTurn (escTgt P k) (.ref e) [escTurn P k] [] env).onRaise (fun x=>do noteFrame x env;theTreesLotGoes x)) _ s;unfold forTurn;rw [Sem.onRaise_eq_wrap];refine seg_bind_wrap (wpAny_standAt ?_);refine nb fun kk=>?_;refine e11 (g.en) fun old he=>?_;refine kk ?_;refine seg_bind_wrap (wpAny_onRaise (enum_end (hh' (.forLoop (escTgt P k) (.ref e) [escTurn P k] [] env)) he g.st fun h' hxx hpi=>?_));refine seg_again rfl ?_;show Seg _ A _ _ _ s₀ _ (leafOf (.ok .next)) _ _;refine seg_leaf (.ok .next) (hend b s₀ _ ?_ (fun b hb=>?_) ?_ hG)
  ·obtain ⟨m,a,r⟩:=g.ns;exact ⟨m,a.at' fun o e=>hxx _ o hLi e,r⟩
  ·simp only [List.mem_cons,List.not_mem_nil,or_false] at hb;rcases hb with rfl|rfl|rfl
   ·obtain ⟨m,a,r⟩:=g.ns;refine nb fun kk=>?_;refine e12 (a.2) fun o e z=>?_;refine kk ?_;exact ⟨o,hxx _ o hLi e,z⟩
   ·obtain ⟨o,e1,z⟩:=priv_enum he;exact ⟨o,hxx _ o hne e1,z⟩
   ·exact hpi
  ·exact hS.step fun b o hb e=>hxx b o (fun z=>hb (by simp [z])) e
 |succ n ih=>
  intro j b s₀ s hn g hS hG;obtain hlt:j<x.cps.size:=subS hn;obtain hdrop:x.cps.toList.drop j=x.cps.toList[j]'(by simpa using hlt)::x.cps.toList.drop (j+1):=List.drop_eq_getElem_cons (by simpa using hlt);generalize hch:x.cps.toList[j]'(by simpa using hlt)=ch at hdrop;obtain hc128:ch<128:=by
   have:=List.all_eq_true.mp hx ch (by rw [←hch];exact List.getElem_mem _);simpa using this
  rw [hdrop] at hG⊢;refine nb fun kk=>?_;refine e11 (hG) fun pre hG=>?_;refine kk ?_;show Seg _ A _ _ _ s₀ _ ((forTurn (escTgt P k) (.ref e) [escTurn P k] [] env).onRaise (fun x=>do noteFrame x env;theTreesLotGoes x)) _ s;unfold forTurn;rw [Sem.onRaise_eq_wrap];refine seg_bind_wrap (wpAny_standAt ?_);refine nb fun kk=>?_;refine e11 (g.en) fun old he=>?_;refine kk ?_;refine seg_bind_wrap (wpAny_onRaise (wpAny_pyNext_enum_itemD (fp:=[it]) (St:=fun i h=>h.IsStrIter it "str_ascii_iterator" x t i) (Draws.strAscii (A:=(A.over (.forLoop (escTgt P k) (.ref e) [escTurn P k] [] env) [.ret kf none false lv c₁ p kp]).in1) (hh' (.forLoop (escTgt P k) (.ref e) [escTurn P k] [] env)) it x t) he g.st hlt hne (by simpa using hne) fun v h' tk hv ho hit' ht hsz keep=>?_));refine nb fun kk=>?_;refine e22 (hv) fun c' u e2 qz3=>?_;obtain rfl:=qz3;refine kk ?_;obtain rfl:ch=c':=by
   obtain e3:x.cps.toList[j]?=some c':=by rw [Array.getElem?_toList];exact e2
   rw [Qv (by simpa using hlt),hch] at e3;exact Qw e3
  refine seg_bind_wrap (wpAny_letOwnedTupleGo_enum (s:={ s with heap:=h',toks:=tk+1 }) ho fun h'' he' hs=>?_);obtain hse:s.heap.objs.size≠e:=fun z=>absurd (Heap.lt_size he) (by rw [←z];exact Nat.lt_irrefl _);obtain hT:h''.IsTuple s.heap.objs.size #[.int j tk,.str ⟨#[ch]⟩ u]:=⟨_,hs.extBut _ _ hse ht,rfl,_,rfl⟩
  unfold escTgt;refine seg_bind_wrap (wpAny_assign_Tuple (hh' (.forLoop (escTgt P k) (.ref e) [escTurn P k] [] env)) hT rfl rfl fun h3 hx3=>?_);obtain k3:∀ b o,b≠e→b≠it→s.heap.get? b=some o→h3.get? b=some o:=fun b o h1 h2 eb=>by
   obtain q:=hs.extBut b o h1 (keep b o h1 h2 eb);exact hx3 b o (Nat.ne_of_lt (Heap.lt_size q)) q
  refine nb fun kk=>?_;obtain ⟨m,hns,hesc,hpos⟩:=g.ns;refine kk ?_;obtain hns3:NsF h3 env.locals m:=hns.at' fun o eo=>k3 _ o hLe hLi eo;show wpAny _ _ (do holding [.str ⟨#[ch]⟩ u] (assign (.Name ("pos":Str) (P 6)) env (.int j tk));do holding [] (assign (.Name ("ch":Str) (P 7)) env (.str ⟨#[ch]⟩ u));pure ()) _ _ _;refine Qq (wpAny_holding (wpAny_assign_Name (storeF F.kind F.pos hns3 fun h4 tk4 hns4 hs4=>?_)));refine Qq (wpAny_holding (wpAny_assign_Name (storeF F.kind F.ch hns4 fun h5 tk5 hns5 hs5=>Qf ?_)));obtain k5:∀ b o,b≠env.locals→h3.get? b=some o→h5.get? b=some o:=fun b o hb eb=>hs5.extBut b o hb (hs4.extBut b o hb eb);obtain he3:IsEnum h3 e it ((j+1:Nat):Int) _:=hx3 e _ (Nat.ne_of_lt (Heap.lt_size he')) he';obtain hi3:h3.IsStrIter it "str_ascii_iterator" x t (j+1):=by
   obtain ⟨o,ho',q⟩:=hit';obtain q2:=hs.extBut it o (Ne.symm hne) ho';exact ⟨o,hx3 it o (Nat.ne_of_lt (Heap.lt_size q2)) q2,q⟩
  rw [Sem.bind_eq_wrap',Sem.wrap_wrap];refine seg_turn (e:=e) (it:=it) (x:=x) (t:=t) (j:=j) (ch:=ch) (b:=b) (r:=x.cps.toList.drop (j+1)) (pre:=pre) (m:=_) (tp:=tk) (tc:=u) F hne hLe hLi rfl rfl rfl hns5 (by rw [if_neg (by decide +kernel),if_pos rfl]) (by rw [if_pos rfl]) (by rw [if_neg (by decide +kernel),if_neg (by decide +kernel)];exact hesc)
   ⟨_,k5 e _ (Ne.symm hLe) he3⟩ (let ⟨o,ho',q⟩:=hi3;⟨o,k5 it o (Ne.symm hLi) ho',q⟩) hlt hc128 (hS.step fun b o hb eb=>?_) hG fun b' s₀' s' g' hS' hG'=>?_
  ·simp only [List.mem_cons,List.not_mem_nil,or_false,not_or] at hb;exact k5 b o hb.1 (k3 b o hb.2.1 hb.2.2 eb)
  ·exact seg_again rfl (ih (j+1) b' s₀' s' (subN hn) g' hS' hG')
end
section
variable {A:Around} {env:Env} {P:Nat→Pos} {k:Nat→Nat} {e it:Addr} {x:Str} {t:Tok} {G:List V} {c₁:Code}
theorem end_none {n:Nat} {s₀ s:Shared} {fp:List Addr} (hn:n=0) (hS:Since fp s₀ s) {c:Code}:Seg (model prog w) A (GEnd fp) (GProto G fp) n s₀ c (leafOf (.ok (.ret .none))) [] s:=seg_end _ ⟨rfl,hn,hS⟩
theorem seg_escStart {s:Shared} {m:Str→Option Value} (F:GFr env) (hh:A.handled=none) (hx:asc x=true) (hG:G=escGo 0 false x.cps.toList) (he:e=s.heap.objs.size+1) (hit:it=s.heap.objs.size)
  (hns:NsF s.heap env.locals m) (hm:m ("addr":Str)=some (.str x t)) (hg:s.heap.Ns mainGlobals mg) (hb:s.heap.Ns builtinsNs mb) (hgb:env.locals≠mainGlobals∧env.locals≠builtinsNs) (hen:mg ("enumerate":Str)=none∧mb ("enumerate":Str)=some (.type "enumerate")):
  Seg (model prog w) A (GEnd [env.locals,e,it]) (GProto G [env.locals,e,it]) G.length s (.func (escBody P k) env) ((model prog w).den (.func (escBody P k) env)) [] s:=by
 obtain hL:env.locals<s.heap.objs.size:=let ⟨o,e,_⟩:=hns.2;Heap.lt_size e
 refine seg_func ?_;unfold escBody;refine seg_stmt (gset F F.pos hns (fun {Q} h=>wpAny_Constant_int (h _)) fun h1 tk1 n1 s1=>⟨rfl,?_⟩);refine seg_stmt (gset (s:={ s with heap:=h1,toks:=tk1 }) F F.esc n1 (fun {Q} h=>wpAny_Constant_bool (h _)) fun h2 tk2 n2 s2=>⟨rfl,?_⟩);obtain hsz:h2.objs.size=s.heap.objs.size:=by rw [s2.1,s1.1]
 obtain k2:∀ b o,b≠env.locals→s.heap.get? b=some o→h2.get? b=some o:=fun b o hb e=>s2.extBut b o hb (s1.extBut b o hb e);refine seg_execs_cons ?_;rw [arm_exec_For];refine seg_bind_wrap (wpAny_standAt ?_);refine seg_bind_wrap (wpAny_Call_NameR (blt_name F.kind F.enum (by rw [F.glob];exact hg.at' fun o e=>k2 _ o hgb.1.symm e) (by rw [F.blt];exact hb.at' fun o e=>k2 _ o hgb.2.symm e) hen (by decide) ?_));refine PySem.callWith_type rfl (evalArgs_plain (spliced_cons (gname F F.addr n2 (by rw [if_neg (by decide +kernel),if_neg (by decide +kernel)];exact hm) (spliced_nil ?_))));refine call_enumerate_str fun h3 he3 hl3 hsz3 keep3=>?_;rw [show strIterType _="str_ascii_iterator" from by unfold strIterType;rw [asc_all hx];rfl] at hl3;refine seg_bind_wrap (wpAny_of_eq rfl ?_);refine seg_bind_wrap (wpAny_standAt ?_);refine seg_bind_wrap (wpAny_holding (wpAny_pyIter_enum he3 ?_));refine seg_call fun p=>?_;dsimp only at he3 hl3 hsz3;rw [hsz] at he3 hl3;rw [hsz,←he];rw [←he,←hit] at he3;rw [←hit] at hl3;obtain hne:e≠it:=by rw [he,hit];exact Nat.succ_ne_self _
 obtain hLe:env.locals≠e:=by rw [he];exact Nat.ne_of_lt (Nat.lt_succ_of_lt hL)
 obtain hLi:env.locals≠it:=by rw [hit];exact Nat.ne_of_lt hL
 rw [show G.length=(escGo 0 false (x.cps.toList.drop 0)).length from by rw [hG,List.drop_zero]];refine seg_escLoop F hh hx hne hLe hLi ?_ x.cps.size 0 false s _ rfl ⟨⟨_,n2.at' fun o e=>keep3 _ o e,if_pos rfl,fun z=>by cases z⟩,⟨_,he3⟩,hl3,Nat.zero_le _⟩ ((Since.refl _ s).step fun b o hb e=>keep3 b o (k2 b o (fun z=>hb (by simp -iota [z])) e)) ⟨[],by simpa -iota using hG⟩;intro b s₀ s' gns hpr hS hG';show Seg _ A _ _ _ s₀ _ ((execs [escLast P k] env).wrap _ _ _ _) [] s';refine nb fun kk=>?_;obtain ⟨m',n',me,mp⟩:=gns;refine kk ?_;refine seg_execs_cons ?_;unfold escLast;refine seg_If (isTrue_plain (gname F F.esc n' me (wpAny_truthy_bool ?_)));cases b with
 |false=>
  exact end_none rfl hS
 |true=>
  refine nb fun kk=>?_;refine e02 (mp rfl) fun hpos qz=>?_;obtain ⟨tp,mp⟩:=qz;refine kk ?_;obtain e0:escGo x.cps.size true []=[.tup [.int (x.cps.size-1:Int),.str ⟨#[92]⟩]]:=if_neg (Nat.ne_of_gt hpos);rw [e0] at hG'⊢;refine nb fun kk=>?_;refine e11 (hG') fun pre hG'=>?_;refine kk ?_;simp -iota only [if_true];refine seg_execs_cons ?_;unfold escTup3;refine seg_pair (pre:=pre) (post:=[]) F rfl rfl rfl hG' rfl (by decide) hS hpr (fun {s1 Q E} hs hQ=>?_) (fun {s1 Q E} hs hQ=>?_) (fun o_=>rfl) (fun o_=>rfl) fun s'' hal=>?_
  ·exact gname F F.pos (by rw [hs];exact n') mp (hQ s1.toks _)
  ·refine wpAny_Constant_str ?_;rw [bs_is];exact hQ _ _
  ·exact end_none rfl (Since.refl _ _)
end
theorem next_gen {A:Around} {E:Value→Shared→Prop} {s:Shared} {a:Addr} {g n:Nat} {gs:GenState} {fp:List Addr} {G:List V} {Q:Option Value→Shared→Prop} (hh:A.handled=none)
  (hl:s.heap.NoLimit) (hroom:A.depth<recursionLimit) (hg:s.heap.IsGen a g) (hgs:s.gens[g]?=some gs)
  (hgo:gs.Goes (model prog w) A.in1 (GEnd fp) (GProto G fp) n (.send .none) (s.setGen g .running))
  (hY:∀ v s₁ gs',gs'.bare=true→GProto G fp (n-1) (s.setGen g .running) v s₁ (fun r' s''=>match n with
    |0=>False
    |m+1=>gs'.Goes (model prog w) A.in1 (GEnd fp) (GProto G fp) m r' s'')→Q (some v) (s₁.setGen g gs'))
  (hP:∀ s₁,n=0→Since fp (s.setGen g .running) s₁→∀ h',(∀ b o,s₁.heap.get? b=some o→h'.get? b=some o)→Q none { s₁.setGen g .finished with heap:=h' }):
  wpAny (model prog w) A (pyNext (.ref a)) Q E s:=by
 refine next_of hg.typeIs slot_gen_next entry_gen_next (args_gen_next _) ?_;show wpAny _ A.in1 (Builtin.Generator.genWake (.ref a) (.send .none)) _ _ s;unfold Builtin.Generator.genWake;refine Qq (wpAny_holding (wpAny_genNumber hg (Qq (wpAny_genState hgs ?_))));cases gs with
 |running=>exact hgo.elim
 |finished=>exact hgo.elim
 |_=>
  refine Qq (wpAny_roomToWake hl hroom ?_);show wpAny _ A.in1 (.resume g (.send .none) [] _) _ _ s;refine wpAny_resumeQ hgs hgo (fun x s₁ hx=>?_) fun v s₁ gs' hb hv=>Qf ⟨v,rfl,hY v s₁ gs' hb hv⟩;obtain ⟨rfl,hn,hp⟩:=hx;show wpAny _ A.in1 (newExc (.type "StopIteration") [] >>=_) _ _ _;exact Qq (newStop fun h' b o k e c=>Qq (wpAny_raiseNew_none hh ⟨b,o,rfl,e,c,hP s₁ hn hp _ k⟩))
@[reducible] noncomputable def GenTop (T:Heap→Prop) (mg:Str→Option Value) (g:Addr) (ob:Obj) (fd:FuncData) (P:Nat→Pos) (k:Nat→Nat):Prop:=(mg ("_iter_escaped_chars":Str)=some (.ref g))∧(∀ {h:Heap},T h→h.get? g=some ob)∧(ob.data=.func fd)∧(fd.body=.stmts (escBody P k))∧(fd.scope.kind=.function)∧(fd.scope.isCoroutine=false)∧(fd.scope.isGenerator=true)∧(∀ {h:Heap},T h→h.CodeRec fd.code fd.qualname)∧(∀ x∈fd.scope.names,x.2≠.cell)∧(fd.closure=[])∧(fd.scope.names.lookup ("addr":Str)=some .local)∧(fd.scope.names.lookup ("pos":Str)=some .local)∧(fd.scope.names.lookup ("escape":Str)=some .local)∧(fd.scope.names.lookup ("ch":Str)=some .local)∧(fd.scope.names.lookup ("enumerate":Str)=some .globalImplicit)∧(fd.params.args.map (·.arg)=[("addr":Str)])∧(fd.params.posonlyargs=[])∧(fd.params.vararg=none)∧(fd.params.kwonlyargs=[])∧(fd.params.kwarg=none)∧(fd.defaults=.none)∧(fd.globals=mainGlobals)∧(fd.builtins=builtinsNs)
section
variable {T:Heap→Prop} {mg:Str→Option Value} {g:Addr} {ob:Obj} {fd:FuncData} {P:Nat→Pos} {k:Nat→Nat} (h:GenTop T mg g ob fd P k)
include h
theorem GenTop.glob:mg ("_iter_escaped_chars":Str)=some (.ref g):=h.1
theorem GenTop.there:∀ {h:Heap},T h→h.get? g=some ob:=h.2.1
theorem GenTop.data:ob.data=.func fd:=h.2.2.1
theorem GenTop.body:fd.body=.stmts (escBody P k):=h.2.2.2.1
theorem GenTop.kind:fd.scope.kind=.function:=h.2.2.2.2.1
theorem GenTop.co:fd.scope.isCoroutine=false:=h.2.2.2.2.2.1
theorem GenTop.gen:fd.scope.isGenerator=true:=h.2.2.2.2.2.2.1
theorem GenTop.code:∀ {h:Heap},T h→h.CodeRec fd.code fd.qualname:=h.2.2.2.2.2.2.2.1
theorem GenTop.nocell:∀ x∈fd.scope.names,x.2≠.cell:=h.2.2.2.2.2.2.2.2.1
theorem GenTop.closure:fd.closure=[]:=h.2.2.2.2.2.2.2.2.2.1
theorem GenTop.addr:fd.scope.names.lookup ("addr":Str)=some .local:=h.2.2.2.2.2.2.2.2.2.2.1
theorem GenTop.pos:fd.scope.names.lookup ("pos":Str)=some .local:=h.2.2.2.2.2.2.2.2.2.2.2.1
theorem GenTop.esc:fd.scope.names.lookup ("escape":Str)=some .local:=h.2.2.2.2.2.2.2.2.2.2.2.2.1
theorem GenTop.ch:fd.scope.names.lookup ("ch":Str)=some .local:=h.2.2.2.2.2.2.2.2.2.2.2.2.2.1
theorem GenTop.enum:fd.scope.names.lookup ("enumerate":Str)=some .globalImplicit:=h.2.2.2.2.2.2.2.2.2.2.2.2.2.2.1
theorem GenTop.args:fd.params.args.map (·.arg)=[("addr":Str)]:=h.2.2.2.2.2.2.2.2.2.2.2.2.2.2.2.1
theorem GenTop.posonly:fd.params.posonlyargs=[]:=h.2.2.2.2.2.2.2.2.2.2.2.2.2.2.2.2.1
theorem GenTop.vararg:fd.params.vararg=none:=h.2.2.2.2.2.2.2.2.2.2.2.2.2.2.2.2.2.1
theorem GenTop.kwonly:fd.params.kwonlyargs=[]:=h.2.2.2.2.2.2.2.2.2.2.2.2.2.2.2.2.2.2.1
theorem GenTop.kwarg:fd.params.kwarg=none:=h.2.2.2.2.2.2.2.2.2.2.2.2.2.2.2.2.2.2.2.1
theorem GenTop.dflt:fd.defaults=.none:=h.2.2.2.2.2.2.2.2.2.2.2.2.2.2.2.2.2.2.2.2.1
theorem GenTop.globals:fd.globals=mainGlobals:=h.2.2.2.2.2.2.2.2.2.2.2.2.2.2.2.2.2.2.2.2.2.1
theorem GenTop.builtins:fd.builtins=builtinsNs:=h.2.2.2.2.2.2.2.2.2.2.2.2.2.2.2.2.2.2.2.2.2.2
end
theorem GenTop.fr {g:Addr} {ob:Obj} {fd:FuncData} {P:Nat→Pos} {k:Nat→Nat} (D:GenTop T mg g ob fd P k) (L:Addr):GFr (callEnv fd L g):=
 ⟨D.kind,D.co,D.addr,D.pos,D.esc,D.ch,D.enum,D.globals,D.builtins⟩
structure GR (prog:Program) (w:World) (K:Cst) (A:Around) (P:Nat→Pos) (k:Nat→Nat) (env:Env) (a e it:Addr) (g:Nat) (x:Str) (t:Tok) (H:List Addr) (j:Nat) (ι:List Addr) (s:Shared):Prop where
 off:∀ b∈[a,env.locals,e,it],K.N0≤b∧b∉ι∧b∉H
 priv:∀ b∈[a,env.locals,e,it],∀ o,s.heap.get? b=some o→privObj o
 gen:s.heap.IsGen a g
 le:j≤(escGo 0 false x.cps.toList).length
 st:(j=0∧s.heap.objs.size=it∧e=it+1∧s.gens[g]?=some (.fresh (.func (escBody P k) env))∧∃ m,NsF s.heap env.locals m∧m ("addr":Str)=some (.str x t))∨
  (0<j∧(∀ b∈[env.locals,e,it],∃ o,s.heap.get? b=some o)∧∃ gs,s.gens[g]?=some gs∧gs.bare=true∧
   ∀ s'':Shared,(∀ b∈[env.locals,e,it],∀ o,s.heap.get? b=some o→s''.heap.get? b=some o)→gs.Goes (model prog w) A.in1 (GEnd [env.locals,e,it]) (GProto (escGo 0 false x.cps.toList) [env.locals,e,it]) ((escGo 0 false x.cps.toList).length-j) (.send .none) s'')
section
variable {A:Around} {P:Nat→Pos} {k:Nat→Nat} {env:Env} {a e it:Addr} {g:Nat} {x:Str} {t:Tok} {H:List Addr}
theorem gr_goes {j:Nat} {ι:List Addr} {σ:St} {s:Shared} (G:Facts K T mg mb) (F:GFr env) (hh:A.handled=none) (hx:asc x=true) (I:In0 (K.withH H) T ι σ s) (hL:env.locals≠mainGlobals∧env.locals≠builtinsNs) (R:GR prog w K A P k env a e it g x t H j ι s):
  ∃ gs,s.gens[g]?=some gs∧gs.Goes (model prog w) A.in1 (GEnd [env.locals,e,it]) (GProto (escGo 0 false x.cps.toList) [env.locals,e,it]) ((escGo 0 false x.cps.toList).length-j) (.send .none) (s.setGen g .running):=by
 rcases R.st with ⟨rfl,h1,h2,h3,m,h4,h5⟩|⟨_,_,gs,h1,_,h2⟩
 ·refine ⟨_,h3,rfl,?_⟩;rw [Nat.sub_zero];exact seg_escStart (s:=s.setGen g .running) F hh hx rfl (by rw [h2,←h1];rfl) h1.symm h4 h5 (G.glob I.top) (G.blt I.top) hL (G.types "enumerate" (by simp))
 ·exact ⟨gs,h1,h2 _ fun o_ o_ o_ e=>e⟩
theorem fin_gens {g:Nat} {s s₁:Shared} {gs gs':GenState} {fp:List Addr} (hg:s.gens[g]?=some gs) (hb:gs'.bare=true) (hS:Since fp (s.setGen g .running) s₁):(AllBare s.gens→AllBare (s₁.setGen g gs').gens)∧(∀ (q:Nat) y,q∉[g]→s.gens[q]?=some y→(s₁.setGen g gs').gens[q]?=some y)∧(s₁.setGen g gs').os=s.os∧(s₁.setGen g gs').gens[g]?=some gs':=by
 refine nb fun kk=>?_;obtain ⟨h',tk,rfl,_⟩:=hS;refine kk ?_;have G1:GenOnlyQ g s.gens (({ s.setGen g .running with heap:=h',toks:=tk }:Shared).setGen g gs').gens:=
  GenOnlyQ.of ((GenOnly.setGen s g .running).trans (GenOnly.setGen { s.setGen g .running with heap:=h',toks:=tk } g gs')) (setGen_self (gs:=.running) (setGen_self hg)) hb
 refine ⟨fun z=>GenOnlyQ.bare G1 z,fun q y hq e=>?_,rfl,setGen_self (gs:=.running) (setGen_self hg)⟩;rcases G1 with z|⟨⟨_,z⟩,_⟩
 ·rw [z];exact e
 ·rw [z q (fun h=>hq (by simp [h]))];exact e
end
section
variable {A:Around} {P:Nat→Pos} {k:Nat→Nat} {env:Env} {a e it:Addr} {g:Nat} {x:Str} {t:Tok} {H:List Addr} {target:Expr}
theorem escGo_nth (l:List V) (σ:St) (j:Nat):(It.fix l).nth σ j=some l[j]?:=rfl
theorem gr_ok (G:Facts K T mg mb) (F:GFr env) (hh:A.handled=none) (hroom:A.depth<recursionLimit) (hx:asc x=true) (hL:env.locals≠mainGlobals∧env.locals≠builtinsNs) (hap:a≠env.locals∧a≠e∧a≠it):IterOk prog w (K.withH H) T A (.ref a) target [a,env.locals,e,it] [g] (It.fix (escGo 0 false x.cps.toList)).nth (GR prog w K A P k env a e it g x t H) where
 fpok:=fun R=>⟨fun b hb=>⟨(R.off b hb).1,(R.off b hb).2.1,R.priv b hb⟩,fun b hb=>(R.off b hb).2.2⟩
 again:=fun R hQ=>wpAny_pyIter_gen R.gen hQ
 stable:=fun {j ι ι' s s'} R h0 q=>by
  have hex:∀ b∈[a,env.locals,e,it],∃ o,s.heap.get? b=some o:=by
   rcases R.st with ⟨rfl,h1,_⟩|⟨_,h2,_⟩
   ·exact h0 rfl
   ·intro b hb;rcases Wy hb with rfl|hb
    ·obtain ⟨o,_,_,e,_⟩:=R.gen;exact ⟨o,e⟩
    ·exact h2 b hb
  have kp:∀ b∈[a,env.locals,e,it],∀ o,s.heap.get? b=some o→s'.heap.get? b=some o:=fun b hb o eo=>q.keep b o (R.off b hb).2.1 (.inl hb) eo;refine ⟨fun b hb=>⟨(R.off b hb).1,?_,(R.off b hb).2.2⟩,fun b hb o eo=>?_,?_,?_,?_⟩
  ·obtain ⟨o,eo⟩:=hex b hb;exact not_news q.pre (R.off b hb).2.1 eo
  ·obtain ⟨o',e'⟩:=hex b hb;obtain rfl:=Qw (eo.symm.trans (kp b hb o' e'));exact R.priv b hb _ e'
  ·obtain ⟨o,n1,n2,eo,r⟩:=R.gen;exact ⟨o,n1,n2,kp a (by simp) o eo,r⟩
  ·exact R.le
  ·rcases R.st with ⟨rfl,h1,_⟩|⟨hj,h2,gs,h3,h4,h5⟩
   ·obtain ⟨o,eo⟩:=h0 rfl it (by simp);exact absurd (Heap.lt_size eo) (by rw [h1];exact Nat.lt_irrefl _)
   ·exact .inr ⟨hj,fun b hb=>(let ⟨o,eo⟩:=h2 b hb;⟨o,kp b (Qj _ hb) o eo⟩),gs,q.gm _ _ h3,h4,fun s'' hal=>h5 s'' fun b hb o eo=>hal b hb o (kp b (Qj _ hb) o eo)⟩
 turn:=fun {j y ι σ s Q E} hn R I h=>by
  rw [escGo_nth] at hn;have hn:=Qw hn;have hj:j<(escGo 0 false x.cps.toList).length:=(Qz hn).1;refine nb fun kk=>?_;refine e12 (gr_goes G F hh hx I hL R) fun gs hgs hgo=>?_;obtain ⟨m,hm⟩:∃ m,(escGo 0 false x.cps.toList).length-j=m+1:=⟨_,(Nat.sub_add_cancel (Nat.sub_pos_of_lt hj)).symm⟩
  refine kk ?_;rw [hm] at hgo;refine next_gen hh (G.lim I.top) hroom R.gen hgs hgo (fun v s₁ gs' hb hv=>⟨v,rfl,?_⟩) (fun s₁ hz o_=>absurd hz (Nat.succ_ne_zero m));refine nb fun kk=>?_;obtain ⟨⟨Ad,q,tq,y',u,nn,rfl,g1,g2,g3,g4⟩,hS,hpr,hkap⟩:=hv;refine e04 (fin_gens hgs hb hS) fun f1 f2 f3 f4=>?_;refine kk ?_;have hidx:(escGo 0 false x.cps.toList).length-1-(m+1-1)=j:=subIx hm;rw [hidx,hn] at g3;cases g3;refine nb fun kk=>?_;obtain ⟨h',tk,e1,hk⟩:=id hS;have keep:∀ b o,b∉[a,env.locals,e,it]→s.heap.get? b=some o→(s₁.setGen g gs').heap.get? b=some o:=fun b o hb eo=>by
   rw [e1];exact hk b o (fun z=>hb (Qj _ z)) eo
  have ka:∀ o,s.heap.get? a=some o→(s₁.setGen g gs').heap.get? a=some o:=fun o eo=>by
   rw [e1];exact hk a o (by simp [hap.1,hap.2.1,hap.2.2]) eo
  have hg':(s₁.setGen g gs').heap.IsGen a g:=let ⟨o,n1,n2,eo,r⟩:=R.gen;⟨o,n1,n2,ka o eo,r⟩
  have R':GR prog w K A P k env a e it g x t H (j+1) ι (s₁.setGen g gs'):=by
   refine ⟨R.off,fun b hb o eo=>?_,hg',hj,.inr ⟨Nat.succ_pos _,fun b hb=>(let ⟨o,e,_⟩:=hpr b hb;⟨o,e⟩),gs',f4,hb,fun s'' hal=>?_⟩⟩
   ·rcases Wy hb with rfl|hb
    ·obtain ⟨o',n1,n2,e',r⟩:=id R.gen;obtain rfl:=Qw (eo.symm.trans (ka o' e'));exact R.priv _ (by simp) _ e'
    ·obtain ⟨o',e',p'⟩:=hpr b hb;obtain rfl:=Qw (eo.symm.trans e');exact p'
   ·rw [show (escGo 0 false x.cps.toList).length-(j+1)=m from subN hm];exact hkap s'' hal
  have hnew:s.heap.get? Ad=none:=g2;obtain ⟨og,n1,n2,eog,hcg,_⟩:=id hg';refine kk ?_;refine letOwned_other (s:=s₁.setGen g gs') (it:=a) eog hcg (by decide) ?_
  ·refine h _ _ ⟨keep,f1,f2,f3⟩ ?_ R';refine .tup (fun hm=>?_) (fun hm=>?_) g1 (.cons (.int _ _) (.cons (.str _ g4) .nil))
   ·obtain ⟨i,hi,e0⟩:=List.getElem_of_mem hm;have:=lt_of_mem I.rel hm;obtain ⟨i2,hi2⟩:∃ o,σ[i]?=some o:=⟨_,Qv (I.rel.len▸hi)⟩
    refine e12 (I.rel.obj i _ hi2) fun b hb2 hr=>?_;rw [Qv hi,e0] at hb2;obtain rfl:=Qw hb2;cases hr with
    |lst z=>rw [hnew] at z;cases z
    |acc z=>rw [hnew] at z;cases z
   ·obtain ⟨o,eo⟩:=I.rel.hid _ hm;rw [hnew] at eo;cases eo
 fin:=fun {j ι σ s Q E} hn R I h=>by
  rw [escGo_nth] at hn;have hn:=Qw hn;have hj:j=(escGo 0 false x.cps.toList).length:=Nat.le_antisymm R.le (List.getElem?_eq_none_iff.mp hn);refine nb fun kk=>?_;refine e12 (gr_goes G F hh hx I hL R) fun gs hgs hgo=>?_;refine kk ?_;rw [hj,Nat.sub_self] at hgo;refine next_gen hh (G.lim I.top) hroom R.gen hgs hgo (fun v s₁ gs' hb hv=>?_) (fun s₁ o_ hS h2 hk2=>⟨rfl,?_⟩)
  ·exact (hv.2.2.2 s₁ fun o_ o_ o_ e=>e).elim
  ·obtain ⟨f1,f2,f3,f4⟩:=fin_gens (gs':=.finished) hgs rfl hS;obtain ⟨h',tk,e1,hk⟩:=id hS;exact h _ ⟨fun b o hb eo=>hk2 b o (by rw [e1];exact hk b o (fun z=>hb (Qj _ z)) eo),f1,f2,f3⟩
end
theorem gen_ok {g:Addr} {ob:Obj} {fd:FuncData} {P:Nat→Pos} {k:Nat→Nat} (G:Facts K T mg mb) (D:GenTop T mg g ob fd P k):SGen prog w K T mg:=by
 refine ⟨g,ob,fd,D.glob,D.data,D.there,?_⟩;intro A env sc ρ n lo σ ι s x t target Q E hA F I hx h;have hN:K.N0≤s.heap.objs.size:=n0_le F (Grow.refl (tb:=K.tabs) ι s.heap);have hroom:A.depth<recursionLimit:=Nat.lt_trans (show A.depth<900 by have:=hA.1;omega) (by decide);have hlim:=G.lim I.top;refine wpAny_call (codeAny_call_generator hroom (D.there I.top) D.data D.co D.gen D.body (D.code I.top) ?_);refine BindsTo.of_eq (bind_plain (vs:=[.str x t]) D.args D.posonly D.vararg D.kwonly D.kwarg D.dflt rfl (by simp)) _ _ _ _ ?_;rw [D.closure];refine newEnv1 D.nocell D.addr D.kind fun h1 tk n1 s1=>⟨?_,?_⟩
 ·exact hlim.fresh _ s1
 dsimp only;have hsz:h1.objs.size=s.heap.objs.size+1:=by rw [s1.1,Heap.size_push]
 have keep1:∀ b o,s.heap.get? b=some o→h1.get? b=some o:=fun b o e=>s1.extBut b o (Nat.ne_of_lt (Heap.lt_size e)) (Qg _ e);have keep:∀ b o,s.heap.get? b=some o→(h1.push { cls:=.type "generator",data:=.fields #[.int s.gens.size 0,.str fd.name tk,.str fd.qualname (tk+1)] }).get? b=some o:=fun b o e=>Qg _ (keep1 b o e);have henv:newEnv fd.scope s.heap.objs.size fd.globals [] (fd.qualname++".<locals>.") (some g) fd.code none fd.builtins=callEnv fd s.heap.objs.size g:=by unfold callEnv;rw [D.closure]
 rw [henv];have hgen:(h1.push { cls:=.type "generator",data:=.fields #[.int s.gens.size 0,.str fd.name tk,.str fd.qualname (tk+1)] }).IsGen h1.objs.size s.gens.size:=⟨_,_,_,Heap.get?_push_size _ rfl,rfl,rfl,rfl⟩
 refine wpAny_pyIter_gen hgen ?_;have hfree:∀ b,s.heap.objs.size≤b→s.heap.get? b=none:=fun b hb=>by
  cases q:s.heap.get? b with
  |none=>rfl
  |some o=>exact absurd (Heap.lt_size q) (Ww hb)
 refine h _ _ ι [h1.objs.size,s.heap.objs.size,s.heap.objs.size+3,s.heap.objs.size+2] [s.gens.size] (fun H=>GR prog w K A P k (callEnv fd s.heap.objs.size g) h1.objs.size (s.heap.objs.size+3) (s.heap.objs.size+2) s.gens.size x t H) ?_ (fun H=>?_) ?_ ?_ ?_
 ·have U:Ux s.heap (h1.push { cls:=.type "generator",data:=.fields #[.int s.gens.size 0,.str fd.name tk,.str fd.qualname (tk+1)] }):=⟨keep⟩
  exact ⟨U.up.grow ι,fun b o o_ e=>.inl (keep b o e),I.up G.mono U (AllBare.push I.gens rfl),rfl,fun q y e=>by
   have hlt:q<s.gens.size:=(Array.getElem?_eq_some_iff.mp e).1;show (s.gens.push _)[q]?=some y;rw [Array.getElem?_push,if_neg (Nat.ne_of_lt hlt)];exact e⟩
 ·refine gr_ok G (D.fr _) hA.2.2 hroom hx ⟨fun z=>?_,fun z=>?_⟩ ⟨?_,?_,?_⟩
  ·have:=(G.glob I.top).lt;rw [←z] at this;exact Nat.lt_irrefl _ this
  ·have:=(G.blt I.top).lt;rw [←z] at this;exact Nat.lt_irrefl _ this
  ·show h1.objs.size≠s.heap.objs.size;rw [hsz];exact Nat.succ_ne_self _
  ·rw [hsz];exact Nat.ne_of_lt (show s.heap.objs.size+1<s.heap.objs.size+3 from Nat.add_lt_add_left (by decide) _)
  ·rw [hsz];exact Nat.ne_of_lt (show s.heap.objs.size+1<s.heap.objs.size+2 from Nat.add_lt_add_left (by decide) _)
 ·have hlen:=I.rel;refine ⟨fun b hb=>?_,fun b hb o e=>?_,hgen,Nat.zero_le _,.inl ⟨rfl,?_,rfl,?_,_,n1.at' fun o e=>Qg _ e,if_pos rfl⟩⟩
  ·have hle:s.heap.objs.size≤b:=by
    simp only [List.mem_cons,List.not_mem_nil,or_false] at hb;rcases hb with rfl|rfl|rfl|rfl
    ·rw [hsz];exact Nat.le_succ _
    ·exact Nat.le_refl _
    ·exact Nat.le_add_right _ _
    ·exact Nat.le_add_right _ _
   refine ⟨Qy hN hle,fun hm=>absurd (lt_of_mem I.rel hm) (Ww hle),fun hm=>?_⟩;refine e11 (I.rel.hid b hm) fun o eo=>?_;exact absurd (Heap.lt_size eo) (Ww hle)
  ·simp only [List.mem_cons,List.not_mem_nil,or_false] at hb;rcases hb with rfl|rfl|rfl|rfl
   ·rw [Heap.get?_push_size _ rfl] at e;cases e;exact ⟨⟨_,rfl,by decide⟩,.inl ⟨_,rfl⟩⟩
   ·obtain ⟨o',e',p⟩:=n1.2;have q:=Qg { cls:=.type "generator",data:=.fields #[.int s.gens.size 0,.str fd.name tk,.str fd.qualname (tk+1)] } e';exact Qw (q.symm.trans e)▸p
   ·have:=Heap.lt_size e;rw [Heap.size_push,hsz] at this;exact absurd this (Ww (Nat.le_succ (s.heap.objs.size+2)))
   ·have:=Heap.lt_size e;rw [Heap.size_push,hsz] at this;exact absurd this (Nat.lt_irrefl _)
  ·show (h1.push _).objs.size=_;rw [Heap.size_push,hsz]
  ·exact Array.getElem?_push_size ..
 ·intro b hb;refine hfree b ?_;simp only [List.mem_cons,List.not_mem_nil,or_false] at hb;rcases hb with rfl|rfl|rfl|rfl
  ·rw [hsz];exact Nat.le_succ _
  ·exact Nat.le_refl _
  ·exact Nat.le_add_right _ _
  ·exact Nat.le_add_right _ _
 ·intro q hq;rw [Wz hq];exact Array.getElem?_eq_none (Nat.le_refl _)
end
section
variable {prog:Program} {w:World} {C:Cfg} {K:Cst} {mb:Str→Option Value} {Kf:Frag}
set_option tactic.hygienic true in
theorem frag_mem {α:Type} {a:Addr} {o:α}:∀ {l:List (Addr×α)},l.lookup a=some o→(a,o)∈l
 |[],e=>by cases e
 |(b,x)::r,e=>by
  rw [List.lookup_cons] at e;cases q:a==b with
  |true=>
   rw [q] at e;rw [Qw e,eq_of_beq q];exact Qk
  |false=>
   rw [q] at e;exact Qj _ (frag_mem e)
theorem mono_of (h:Kf.all (fun p=>decide (p.1<K.N0)&&!K.tabs.contains p.1)=true):Mono K Kf.In:=by
 intro h1 h2 X k a o e;obtain q:=List.all_eq_true.mp h _ (frag_mem e);simp only [Bool.and_eq_true,decide_eq_true_eq,Bool.not_eq_true',List.contains_eq_mem,decide_eq_false_iff_not] at q;exact (k a o q.1 (X a o e)).off q.2
noncomputable def isStrV:Value→Bool
 |.str ..=>true
 |_=>false
noncomputable def isIntV:Value→Bool
 |.int ..=>true
 |_=>false
noncomputable def isBoolV:Value→Bool
 |.bool _=>true
 |_=>false
noncomputable def dictEs (Kf:Frag) (a:Addr):Array DictEntry:=((Kf.lookup a).bind fun o=>dicOf o.data).getD #[]
noncomputable def dictOk (Kf:Frag) (a:Addr):Bool:=(Kf.lookup a).elim false fun o=>(dicOf o.data).elim false fun es=>es.toList.all fun e=>isStrV e.key
noncomputable def nsOf (Kf:Frag) (a:Addr) (x:Str):Option Value:=nsFind (dictEs Kf a) x
theorem iStrV {v:Value} (z:isStrV v=true):∃ x t,v=.str x t:=by
 cases v with
 |str x t=>exact (xi2 x t rfl)
 |_=>cases z
theorem iIntV {v:Value} (z:isIntV v=true):∃ x t,v=.int x t:=by
 cases v with
 |int x t=>exact (xi2 x t rfl)
 |_=>cases z
theorem iBoolV {v:Value} (z:isBoolV v=true):∃ x,v=.bool x:=by
 cases v with
 |bool x=>exact ⟨x,rfl⟩
 |_=>cases z
theorem ns_of {h:Heap} {a:Addr} (X:Kf.In h) (e:dictOk Kf a=true):h.Ns a (nsOf Kf a):=
 elimT e fun o hl e=>elimT e fun es he e=>(iDic he).elim fun n hd=>⟨o,es,n,X _ _ hl,hd,fun x hx=>iStrV (List.all_eq_true.mp e x (Array.mem_toList_iff.mpr hx)),fun y=>by unfold nsOf dictEs;rw [hl,Option.bind_some,he];rfl⟩
noncomputable def codeHdOk (Kf:Frag) (c P:Addr):Bool:=(Kf.lookup c).elim false fun o=>(fldOf o.data).elim false fun vs=>
 typOf o.cls==some "code"&&((vs[11]?:Option Value).bind refOf==some P&&(isStrV (vs.getD 18 .none)&&(isIntV (vs.getD 7 .none)&&(isBoolV (vs.getD 9 .none)&&(isIntV (vs.getD 10 .none)&&!(c==P))))))
theorem codeHd_of {h:Heap} {c P:Addr} (X:Kf.In h) (e:codeHdOk Kf c P=true):CodeHd h c P:=
 elimT e fun o hl e=>elimT e fun vs hv e=>
  have q1:vs[11]?=some (.ref P):=iBindR (eq_of_beq (and_l (and_r e)));have e2:=and_r (and_r e)
  (iStrV (and_l e2)).elim fun file z=>z.elim fun tf z1=>(iIntV (and_l (and_r e2))).elim fun flags z=>z.elim fun tg z2=>(iBoolV (and_l (and_r (and_r e2)))).elim fun inF z3=>(iIntV (and_l (and_r (and_r (and_r e2))))).elim fun text z=>z.elim fun tt z4=>
   ⟨o,vs,file,tf,flags,tg,inF,text,tt,X _ _ hl,iTyp (eq_of_beq (and_l e)),iFld hv,q1,by rw [Array.getD_eq_getD_getElem?,q1];rfl,z1,z2,z3,z4,ne_of_beq_false (notTF (and_r (and_r (and_r (and_r e2)))))⟩
noncomputable def strVOf:Value→Option Str
 |.str x _=>some x
 |_=>none
noncomputable def codeRecOk (Kf:Frag) (cd:Value) (q:Str):Bool:=(refOf cd).elim false fun c=>(Kf.lookup c).elim false fun o=>(fldOf o.data).elim false fun vs=>(vs[1]?:Option Value).elim false fun v=>strVOf v==some q
theorem iStrVOf {v:Value} {q:Str} (h:strVOf v=some q):∃ t,v=.str q t:=by
 cases v with
 |str x t=>exact ⟨t,congrArg (Value.str · t) (Qw h)⟩
 |_=>cases h
theorem codeRec_of {h:Heap} {cd:Value} {q:Str} (X:Kf.In h) (e:codeRecOk Kf cd q=true):h.CodeRec cd q:=
 elimT e fun c hc e=>elimT e fun o hl e=>elimT e fun vs hv e=>elimT e fun v hq e=>(iStrVOf (eq_of_beq e)).elim fun t ht=>⟨c,o,vs,t,iRefOf hc,X _ _ hl,iFld hv,by rw [hq,ht]⟩
noncomputable def plainD:Data→Bool
 |.plain=>true
 |_=>false
noncomputable def bmodOk (Kf:Frag) (bm:Addr):Bool:=(Kf.lookup bm).elim false fun o=>typOf o.cls==some "module"&&(o.dict==some builtinsNs&&(plainD o.data&&(!(bm==builtinsNs)&&!(bm==mainGlobals))))
theorem bmod_of {h:Heap} {bm P:Addr} {mg:Str→Option Value} (X:Kf.In h) (hm:mg "__builtins__"=some (.ref bm)) (e:bmodOk Kf bm=true) (hP:bm≠P):h.BuiltinsAt mg P:=
 elimT e fun o hl e=>
  have e2:=and_r (and_r e)
  ⟨bm,o,hm,ne_of_beq_false (notTF (and_l (and_r e2))),ne_of_beq_false (notTF (and_r (and_r e2))),hP,X _ _ hl,iTyp (eq_of_beq (and_l e)),eq_of_beq (and_l (and_r e)),(by
   have z:=and_l e2;cases q:o.data with
   |plain=>rfl
   |_=>rw [q] at z;cases z)⟩
@[reducible] noncomputable def HeadOk (K:Cst) (Kf:Frag) (bm:Addr):Prop:=(Kf.all (fun p=>decide (p.1<K.N0)&&!K.tabs.contains p.1)=true)∧(K.tabs.all (fun t=>decide (t<K.N0)&&!(bm==t)&&!(mainGlobals==t))=true)∧(K.codes.all (fun x=>codeHdOk Kf x.1 x.2&&K.tabs.contains x.2)=true)∧(dictOk Kf mainGlobals=true)∧(dictOk Kf builtinsNs=true)∧(dictOk Kf cStatics=true)∧(nsOf Kf cStatics "sys.recursionlimit"=none)∧(nsOf Kf mainGlobals "__builtins__"=some (.ref bm))∧(bmodOk Kf bm=true)∧(∀ f∈["range","enumerate","str"],nsOf Kf mainGlobals (Str.ofString f)=none∧nsOf Kf builtinsNs (Str.ofString f)=some (.type f))∧(∀ f∈["len","sum","max","min","sorted"],nsOf Kf mainGlobals (Str.ofString f)=none∧nsOf Kf builtinsNs (Str.ofString f)=some (.builtin f))
section
variable {K:Cst} {Kf:Frag} {bm:Addr} (h:HeadOk K Kf bm)
include h
theorem HeadOk.low:Kf.all (fun p=>decide (p.1<K.N0)&&!K.tabs.contains p.1)=true:=h.1
theorem HeadOk.tabs:K.tabs.all (fun t=>decide (t<K.N0)&&!(bm==t)&&!(mainGlobals==t))=true:=h.2.1
theorem HeadOk.codes:K.codes.all (fun x=>codeHdOk Kf x.1 x.2&&K.tabs.contains x.2)=true:=h.2.2.1
theorem HeadOk.g:dictOk Kf mainGlobals=true:=h.2.2.2.1
theorem HeadOk.b:dictOk Kf builtinsNs=true:=h.2.2.2.2.1
theorem HeadOk.st:dictOk Kf cStatics=true:=h.2.2.2.2.2.1
theorem HeadOk.nolim:nsOf Kf cStatics "sys.recursionlimit"=none:=h.2.2.2.2.2.2.1
theorem HeadOk.hbm:nsOf Kf mainGlobals "__builtins__"=some (.ref bm):=h.2.2.2.2.2.2.2.1
theorem HeadOk.bmod:bmodOk Kf bm=true:=h.2.2.2.2.2.2.2.2.1
theorem HeadOk.types:∀ f∈["range","enumerate","str"],nsOf Kf mainGlobals (Str.ofString f)=none∧nsOf Kf builtinsNs (Str.ofString f)=some (.type f):=h.2.2.2.2.2.2.2.2.2.1
theorem HeadOk.fns:∀ f∈["len","sum","max","min","sorted"],nsOf Kf mainGlobals (Str.ofString f)=none∧nsOf Kf builtinsNs (Str.ofString f)=some (.builtin f):=h.2.2.2.2.2.2.2.2.2.2
end
theorem facts_of {bm:Addr} (H:HeadOk K Kf bm):Facts K Kf.In (nsOf Kf mainGlobals) (nsOf Kf builtinsNs) where
 mono:=mono_of H.low
 tabs:=fun b hb=>by
  have:=List.all_eq_true.mp H.tabs b hb;simp only [Bool.and_eq_true,decide_eq_true_eq] at this;exact this.1.1
 codes:=fun X x hx=>by
  have:=List.all_eq_true.mp H.codes x hx;simp only [Bool.and_eq_true,List.contains_eq_mem,decide_eq_true_eq] at this;exact ⟨codeHd_of X this.1,this.2⟩
 lim:=fun X=>⟨_,ns_of X H.st,H.nolim⟩
 bmod:=fun X P hP=>by
  have:=List.all_eq_true.mp H.tabs P hP;simp only [Bool.and_eq_true,Bool.not_eq_true',beq_eq_false_iff_ne] at this;exact ⟨bmod_of X H.hbm H.bmod this.1.2,this.2⟩
 glob:=fun X=>ns_of X H.g
 blt:=fun X=>ns_of X H.b
 types:=H.types
 fns:=H.fns
end
section
variable {prog:Program} {w:World} {C:Cfg} {K:Cst} {mg:Str→Option Value} {Kf:Frag}
@[reducible] noncomputable def FnHead (K:Cst) (Kf:Frag) (mg:Str→Option Value) (f:Str) (fn:Fn) (a:Addr) (o:Obj) (fd:FuncData):Prop:=(Kf.lookup a=some o)∧(mg f=some (.ref a))∧((f==("__debug__":Str))=false)∧(o.data=.func fd)∧(fd.body=.stmts fn.body)∧(fd.scope=fn.scope)∧(fd.params=fn.params)∧(fd.closure=[])∧((fn.scope.names.all fun x=>x.2 !=.free)=true)∧(fd.globals=mainGlobals)∧(fd.builtins=builtinsNs)∧((!hostSc fn.scope||K.codes.any fun x=>refOf fd.code==some x.1)=true)∧(codeRecOk Kf fd.code fd.qualname=true)
section
variable {K:Cst} {Kf:Frag} {mg:Str→Option Value} {f:Str} {fn:Fn} {a:Addr} {o:Obj} {fd:FuncData} (h:FnHead K Kf mg f fn a o fd)
include h
theorem FnHead.lk:Kf.lookup a=some o:=h.1
theorem FnHead.glob:mg f=some (.ref a):=h.2.1
theorem FnHead.dbg:(f==("__debug__":Str))=false:=h.2.2.1
theorem FnHead.data:o.data=.func fd:=h.2.2.2.1
theorem FnHead.body:fd.body=.stmts fn.body:=h.2.2.2.2.1
theorem FnHead.scope:fd.scope=fn.scope:=h.2.2.2.2.2.1
theorem FnHead.params:fd.params=fn.params:=h.2.2.2.2.2.2.1
theorem FnHead.closure:fd.closure=[]:=h.2.2.2.2.2.2.2.1
theorem FnHead.free:(fn.scope.names.all fun x=>x.2 !=.free)=true:=h.2.2.2.2.2.2.2.2.1
theorem FnHead.globals:fd.globals=mainGlobals:=h.2.2.2.2.2.2.2.2.2.1
theorem FnHead.builtins:fd.builtins=builtinsNs:=h.2.2.2.2.2.2.2.2.2.2.1
theorem FnHead.host:(!hostSc fn.scope||K.codes.any fun x=>refOf fd.code==some x.1)=true:=h.2.2.2.2.2.2.2.2.2.2.2.1
theorem FnHead.code:codeRecOk Kf fd.code fd.qualname=true:=h.2.2.2.2.2.2.2.2.2.2.2.2
end
noncomputable def AllL {α:Type} (P:α→Prop) (l:List α):Prop:=List.rec True (fun x o_ ih=>P x∧ih) l
theorem AllL.nil {α:Type} {P:α→Prop}:AllL P []:=trivial
theorem AllL.cons {α:Type} {P:α→Prop} {x:α} {l:List α} (h:P x) (t:AllL P l):AllL P (x::l):=⟨h,t⟩
theorem AllL.mem {α:Type} {P:α→Prop} {l:List α} (h:AllL P l) {x:α} (hx:x∈l):P x:=by
 induction l with
 |nil=>cases hx
 |cons y l ih=>exact (Wy hx).elim (fun e=>e▸h.1) fun q=>ih h.2 q
noncomputable def BindOk (K:Cst) (Kf:Frag) (fn:Fn) (fd:FuncData):Prop:=∀ {vs:List V} {ks:List (Str×B)} {ρ:Rho},bindV fn.params vs ks=some ρ→∀ {H ι:List Addr} {s:Shared} {rvs:List Value} {rks:List (Str×Value)},Kf.In s.heap→RVs H ι s.heap rvs vs→RKs (K.withH H) ι s.heap s.heap.objs.size rks ks→
  ∃ bs:List (Str×Value×B),BindsTo s fd ⟨rvs,rks⟩ (bs.map fun p=>(p.1,p.2.1))∧(bs.map fun p=>(p.1,p.2.2))=ρ∧∀ p∈bs,canSet fn.scope p.1=true∧RB ι s.heap (K.withH H) s.heap.objs.size p.2.1 p.2.2
set_option tactic.hygienic true in
theorem fnAt_of {f:Str} {fn:Fn} {a:Addr} {o:Obj} {fd:FuncData} {bm:Addr} (H:HeadOk K Kf bm) (D:FnHead K Kf mg f fn a o fd)
  (hb:BindOk K Kf fn fd):FnAt K Kf.In mg f fn a o fd:=
 ⟨D.glob,D.dbg,D.data,D.body,D.scope,D.closure,fun x hx=>by
  have:=List.all_eq_true.mp D.free _ hx;simp -iota at this,D.globals,D.builtins,fun X=>X _ _ D.lk,fun hh=>by
  have:=D.host;rw [hh] at this;exact e12 (List.any_eq_true.mp this) fun x hx e=>⟨x,hx,iRefOf (eq_of_beq e)⟩,fun X=>codeRec_of X D.code,fun X=>(facts_of H).lim X,hb⟩
theorem bindV_eq (p:Arguments) (args:List V) (kw:List (Str×B)):bindV p args kw=bindG (p.args.map (·.arg)) (p.defaults.map dfl) (p.kwonlyargs.map (·.arg)) args kw:=rfl
noncomputable def bisN:List Str:=[("a":Str),("x":Str),("lo":Str),("hi":Str)]
theorem iBindK {r ρ:Rho} {kwo:List Str} {kw:List (Str×B)} {G:Prop} (e:bindK r kwo kw=some ρ) (j0:kwo=[]→kw=[]→ρ=r→G) (j1:∀ k,kwo=[k]→kw=[]→ρ=r++[(k,.val .none)]→G) (j2:∀ k b,kwo=[k]→kw=[(k,b)]→ρ=r++[(k,b)]→G):G:=by
 cases kwo with
 |nil=>exact iT e fun h e=>j0 rfl (List.isEmpty_iff.mp h) (Qw e).symm
 |cons k ko=>cases kw with
  |nil=>exact iT e fun h e=>j1 k (by rw [List.isEmpty_iff.mp h]) rfl (Qw e).symm
  |cons x q=>
   refine iT e fun h e=>j2 k x.2 (by rw [List.isEmpty_iff.mp (and_l h)]) ?_ ?_
   ·rw [List.isEmpty_iff.mp (and_l (and_r h)),eq_of_beq (and_r (and_r h))]
   ·rw [←Qw e,eq_of_beq (and_r (and_r h))]
theorem mapO_id:∀ l:List V,mapO id (l.map some)=some l
 |[]=>rfl
 |x::l=>bnd (a:=x) rfl (mpd (mapO_id l) rfl)
noncomputable def AllV:Nat→(List Value→Prop)→Prop
 |0,P=>P []
 |n+1,P=>∀ v,AllV n fun l=>P (v::l)
theorem AllV.at {n:Nat}:∀ {P:List Value→Prop},AllV n P→∀ {vs:List Value},vs.length=n→P vs:=by
 induction n with
 |zero=>intro P h vs e;rw [List.eq_nil_of_length_eq_zero e];exact h
 |succ n ih=>intro P h vs e;cases vs with
  |nil=>cases e
  |cons v vs=>exact ih (h v) (Nat.succ.inj e)
theorem zip3 {H ι:List Addr} {h:Heap} {names:List Str}:∀ {rvs:List Value} {vs:List V},RVs H ι h rvs vs→names.length=vs.length→(names.zip (rvs.zip vs)).map (fun p=>(p.1,p.2.1))=names.zip rvs∧(names.zip (rvs.zip vs)).map (fun p=>(p.1,B.val p.2.2))=vals names vs∧∀ p∈rvs.zip vs,RV H ι h p.1 p.2:=by
 induction names with
 |nil=>
  intro rvs vs r hl;cases vs with
  |nil=>rw [r.nil'];exact ⟨rfl,rfl,fun o_ h=>nomatch h⟩
  |cons=>cases hl
 |cons y ys ih=>
  intro rvs vs r hl;cases vs with
  |nil=>cases hl
  |cons v vs=>
   refine nb fun kk=>?_;refine e23 (r.cons') fun u us qz2 a b=>?_;obtain rfl:=qz2;refine e03 (ih b (Nat.succ.inj hl)) fun h1 h2 h3=>?_;refine kk ?_;refine ⟨congrArg (_::·) h1,congrArg (_::·) h2,fun p hp=>?_⟩;rcases Wy hp with q|hp
   ·rw [q];exact a
   ·exact h3 p hp
theorem rksNil {ι:List Addr} {h:Heap} {K:Cst} {L:Nat} {rks:List (Str×Value)} {ks:List (Str×B)} (r:RKs K ι h L rks ks) (e:ks=[]):rks=[]:=by cases r<;>first|rfl|cases e
theorem rksOne {ι:List Addr} {h:Heap} {K:Cst} {L:Nat} {rks:List (Str×Value)} {ks:List (Str×B)} {k:Str} {b:B} (r:RKs K ι h L rks ks) (e:ks=[(k,b)]):∃ v,rks=[(k,v)]∧RB ι h K L v b:=by
 subst e;cases r with
 |cons rb rr=>cases rr;exact ⟨_,rfl,rb⟩
theorem binds_all {fn:Fn} {fd:FuncData} {names kwo:List Str} {dv:List Value} {ds:List V} (hsz:ds.length≤names.length) (hn:fn.params.args.map (·.arg)=names) (hd:fn.params.defaults.map dfl=ds.map some) (hk:fn.params.kwonlyargs.map (·.arg)=kwo) (hdv:∀ {H ι h},RVs H ι h dv ds)
  (hset:((names++kwo).all fun x=>canSet fn.scope x)=true) (p0:∀ S j,j≤ds.length→AllV (names.length-ds.length+j) fun vs=>peek Kf S (bindArgs fd ⟨vs,[]⟩)=some (names.zip (vs++dv.drop j)++kwo.map fun k=>(k,.none)))
  (p1:∀ S j k v,kwo=[k]→j≤ds.length→AllV (names.length-ds.length+j) fun vs=>peek Kf S (bindArgs fd ⟨vs,[(k,v)]⟩)=some (names.zip (vs++dv.drop j)++[(k,v)]))
  :BindOk K Kf fn fd:=by
 intro vs ks ρ e H ι s rvs rks X r rk;rw [bindV_eq,hn,hd,hk] at e;refine iT e fun hl e=>bI e fun dd ed e=>?_;have h1:=of_decide_eq_true (and_l hl);have h2:=of_decide_eq_true (and_r hl);rw [Qx] at h2 ed;rw [←List.map_drop,mapO_id] at ed;have e:bindK (vals names (vs++_)) kwo ks=some ρ:=(Qw ed).symm▸e;clear ed;have hr:=r.length;refine nb fun kk=>?_;refine e03 (bind_ar hsz h1 h2) fun hj hm hlen=>?_;refine kk ?_;have hm:=hr.trans hm;rw [←List.length_drop,←Qu] at hlen;generalize vs.length+ds.length-names.length=j at e hj hm hlen;have R:RVs H ι s.heap (rvs++dv.drop j) (vs++ds.drop j):=r.append (hdv.drop j);refine nb fun kk=>?_;refine e03 (zip3 R hlen) fun z1 z2 z3=>?_;refine kk ?_;have cs:∀ x,x∈names++kwo→canSet fn.scope x=true:=List.all_eq_true.mp hset;have fin:∀ kk:List (Str×Value×B),BindsTo s fd ⟨rvs,rks⟩ (names.zip (rvs++dv.drop j)++kk.map fun p=>(p.1,p.2.1))→ρ=vals names (vs++ds.drop j)++(kk.map fun p=>(p.1,p.2.2))→(∀ p∈kk,p.1∈kwo∧RB ι s.heap (K.withH H) s.heap.objs.size p.2.1 p.2.2)→
   ∃ bs:List (Str×Value×B),BindsTo s fd ⟨rvs,rks⟩ (bs.map fun p=>(p.1,p.2.1))∧(bs.map fun p=>(p.1,p.2.2))=ρ∧∀ p∈bs,canSet fn.scope p.1=true∧RB ι s.heap (K.withH H) s.heap.objs.size p.2.1 p.2.2:=fun kk q1 q2 q3=>by
  refine ⟨((names.zip ((rvs++dv.drop j).zip (vs++ds.drop j))).map fun p=>(p.1,p.2.1,B.val p.2.2))++kk,?_,?_,fun p hp=>?_⟩
  ·rw [List.map_append,List.map_map];exact (congrArg (fun z=>z++kk.map fun p=>(p.1,p.2.1)) z1).symm▸q1
  ·rw [List.map_append,List.map_map,q2];exact congrArg (fun z=>z++kk.map fun p=>(p.1,p.2.2)) z2
  ·rcases Wx hp with hp|hp
   ·obtain ⟨q,hq,rfl⟩:=List.mem_map.mp hp;exact ⟨cs _ (List.mem_append_left _ (List.of_mem_zip hq).1),.val (z3 _ (List.of_mem_zip hq).2)⟩
   ·exact ⟨cs _ (List.mem_append_right _ (q3 p hp).1),(q3 p hp).2⟩
 have B0:∀ S,peek Kf S (bindArgs fd ⟨rvs,[]⟩)=some (names.zip (rvs++dv.drop j)++kwo.map fun k=>(k,.none)):=fun S=>(p0 S j hj).at hm;refine iBindK e (fun q1 q2 q3=>?_) (fun k q1 q2 q3=>?_) fun k b q1 q2 q3=>?_
 ·exact fin [] (by rw [rksNil rk q2];exact kp_binds X fun S=>(B0 S).trans (by rw [q1];rfl)) (q3.trans (List.append_nil _).symm) fun o_ h=>nomatch h
 ·exact fin [(k,.none,.val .none)] (by rw [rksNil rk q2];exact kp_binds X fun S=>(B0 S).trans (by rw [q1];rfl)) q3 fun p hp=>by rw [Wz hp,q1];exact ⟨List.mem_singleton_self _,.val .none⟩
 ·exact (rksOne rk q2).elim fun v z=>fin [(k,v,b)] (by rw [z.1];exact kp_binds X fun S=>(p1 S j k v q1 hj).at hm) q3 fun p hp=>by rw [Wz hp,q1];exact ⟨List.mem_singleton_self _,z.2⟩
theorem plain0 {P:Setting→Nat→List Value→Prop} {m:Nat} (h:∀ S,AllV m (P S 0)):∀ S j,j≤0→AllV (m+j) (P S j):=fun S j hj=>by
 obtain rfl:=Nat.le_zero.mp hj;exact h S
theorem upto2 {P:Nat→Prop} (h:P 0∧P 1∧P 2):∀ j,j≤2→P j
 |0,_=>h.1
 |1,_=>h.2.1
 |2,_=>h.2.2
 |j+3,hj=>absurd hj (by omega)
theorem bis0 {P:Setting→Nat→List Value→Prop} (h:∀ S,AllV 2 (P S 0)∧AllV 3 (P S 1)∧AllV 4 (P S 2)):∀ S j,j≤2→AllV (2+j) (P S j):=fun S=>upto2 (h S)
theorem bis1 {P:Setting→Nat→Str→Value→List Value→Prop} {key:Str} (h:∀ S v,AllV 2 (P S 0 key v)∧AllV 3 (P S 1 key v)∧AllV 4 (P S 2 key v)):∀ S j k v,[key]=[k]→j≤2→AllV (2+j) (P S j k v):=fun S j k v z hj=>by
 rw [←(List.cons.inj z).1];exact upto2 (P:=fun j=>AllV (2+j) (P S j key v)) (h S v) j hj
end
section
variable {prog:Program} {w:World} {C:Cfg} {K:Cst} {mg mb:Str→Option Value} {Kf:Frag}
noncomputable def obOf (Kf:Frag) (a:Addr):Obj:=(Kf.lookup a).getD { cls:=.none,data:=.plain }
noncomputable def fdOf (o:Obj):FuncData:=match o.data with
 |.func fd=>fd
 |_=>default
noncomputable def FnH (K:Cst) (Kf:Frag) (p:Program) (f:Str) (a:Addr):Prop:=FnHead K Kf (nsOf Kf mainGlobals) f (fnD p f) a (obOf Kf a) (fdOf (obOf Kf a))
noncomputable def fnL (K:Cst) (Kf:Frag) (p:Program) (x:Str×Addr):Option Obj×Option Value×Bool×Data×FuncBody×Scope×Arguments×List (Str×Addr)×Bool×Addr×Addr×Bool×Bool:=
 (Kf.lookup x.2,nsOf Kf mainGlobals x.1,x.1==("__debug__":Str),(obOf Kf x.2).data,(fdOf (obOf Kf x.2)).body,(fdOf (obOf Kf x.2)).scope,(fdOf (obOf Kf x.2)).params,(fdOf (obOf Kf x.2)).closure,(fnD p x.1).scope.names.all fun x=>x.2 !=.free,(fdOf (obOf Kf x.2)).globals,(fdOf (obOf Kf x.2)).builtins,
  !hostSc (fnD p x.1).scope||K.codes.any fun y=>refOf (fdOf (obOf Kf x.2)).code==some y.1,codeRecOk Kf (fdOf (obOf Kf x.2)).code (fdOf (obOf Kf x.2)).qualname)
noncomputable def fnR (Kf:Frag) (p:Program) (x:Str×Addr):Option Obj×Option Value×Bool×Data×FuncBody×Scope×Arguments×List (Str×Addr)×Bool×Addr×Addr×Bool×Bool:=
 (some (obOf Kf x.2),some (.ref x.2),false,.func (fdOf (obOf Kf x.2)),.stmts (fnD p x.1).body,(fnD p x.1).scope,(fnD p x.1).params,[],true,mainGlobals,builtinsNs,true,true)
theorem fnH_all {K:Cst} {Kf:Frag} {p:Program} {l:List (Str×Addr)} (h:l.map (fnL K Kf p)=l.map (fnR Kf p)) (x:Str×Addr) (hx:x∈l):FnH K Kf p x.1 x.2:=
 have e:=List.map_inj_left.mp h x hx
 ⟨congrArg (·.1) e,congrArg (·.2.1) e,congrArg (·.2.2.1) e,congrArg (·.2.2.2.1) e,congrArg (·.2.2.2.2.1) e,congrArg (·.2.2.2.2.2.1) e,congrArg (·.2.2.2.2.2.2.1) e,congrArg (·.2.2.2.2.2.2.2.1) e,congrArg (·.2.2.2.2.2.2.2.2.1) e,congrArg (·.2.2.2.2.2.2.2.2.2.1) e,congrArg (·.2.2.2.2.2.2.2.2.2.2.1) e,congrArg (·.2.2.2.2.2.2.2.2.2.2.2.1) e,congrArg (·.2.2.2.2.2.2.2.2.2.2.2.2) e⟩
noncomputable def MethOk (Kf:Frag) (f:Addr) (names:List Str) (body:List Stmt):Prop:=FnTop Kf.In Kf f (obOf Kf f) (fdOf (obOf Kf f)) names body
theorem methOk_of {f:Addr} {names:List Str} {body:List Stmt} (lk:Kf.lookup f=some (obOf Kf f)) (typ:typeIn Kf (.ref f)=some (.type "function")) (data:(obOf Kf f).data=.func (fdOf (obOf Kf f))) (hb:(fdOf (obOf Kf f)).body=.stmts body)
  (kind:(fdOf (obOf Kf f)).scope.kind=.function) (co:(fdOf (obOf Kf f)).scope.isCoroutine=false) (gen:(fdOf (obOf Kf f)).scope.isGenerator=false) (code:codeRecOk Kf (fdOf (obOf Kf f)).code (fdOf (obOf Kf f)).qualname=true)
  (nocell:((fdOf (obOf Kf f)).scope.names.all fun x=>x.2 !=.cell)=true) (loc:(names.all fun x=>(fdOf (obOf Kf f)).scope.names.lookup x==some .local)=true)
  (args:(fdOf (obOf Kf f)).params.args.map (·.arg)=names) (posonly:(fdOf (obOf Kf f)).params.posonlyargs=[]) (vararg:(fdOf (obOf Kf f)).params.vararg=none) (kwonly:(fdOf (obOf Kf f)).params.kwonlyargs=[]) (kwarg:(fdOf (obOf Kf f)).params.kwarg=none)
  (nodup:names.Nodup) (globals:(fdOf (obOf Kf f)).globals=mainGlobals) (builtins:(fdOf (obOf Kf f)).builtins=builtinsNs):MethOk Kf f names body:=
 (⟨fun X=>X _ _ lk,typ,data,hb,kind,co,gen,fun X=>codeRec_of X code,fun x hx=>bne_iff_ne.mp (List.all_eq_true.mp nocell x hx),fun x hx=>eq_of_beq (List.all_eq_true.mp loc x hx),args,posonly,vararg,kwonly,kwarg,nodup,globals,builtins⟩:FnTop Kf.In Kf f (obOf Kf f) (fdOf (obOf Kf f)) names body)
end
section
variable {prog:Program} {w:World} {C:Cfg} {K:Cst} {T:Heap→Prop} {mg mb:Str→Option Value} {Kf:Frag}
theorem AccAll.withH (AA:AccAll prog K T Kf mg mb) (H:List Addr):AccAll prog (K.withH H) T Kf mg mb:=
 ⟨AA.X.withH H,⟨AA.Y.stat,AA.Y.init⟩,⟨AA.Z.makes,AA.Z.cls,AA.Z.seta,AA.Z.nosize,AA.Z.keep,AA.Z.chk,AA.Z.made⟩,AA.glob,AA.app,AA.push,AA.init⟩
theorem LenTop.withH {f:Addr} {ob:Obj} {fd:FuncData} {body:List Stmt} {gsc:Scope} (L:LenTop K T Kf f ob fd body gsc) (H:List Addr):LenTop (K.withH H) T Kf f ob fd body gsc:=⟨L.ga,L.at_,L.fn,L.dflt,L.code,L.ksum,L.gen,L.klen⟩
structure TopOk (prog:Program) (C:Cfg) (K:Cst) (Kf:Frag) (bm:Addr):Prop where
 head:HeadOk K Kf bm
 acc:AccAll prog K Kf.In Kf (nsOf Kf mainGlobals) (nsOf Kf builtinsNs)
 len:∀ {G:Prop},(∀ f e0 e1 e2 e3 e4 e5 e6 pa pb pt p0 p1 p2 p3 p4 p5 p6 kt gsc,LenTop K Kf.In Kf f (obOf Kf f) (fdOf (obOf Kf f)) (lenBody e0 e1 e2 e3 e4 e5 e6 pa pb pt p0 p1 p2 p3 p4 p5 p6 kt gsc) gsc→G)→G
 gen:∃ g P k,GenTop Kf.In (nsOf Kf mainGlobals) g (obOf Kf g) (fdOf (obOf Kf g)) P k
 getI:findIn Kf (.ref K.acc) "__getitem__"=some (some (.builtin "list.__getitem__"))
 setI:findIn Kf (.ref K.acc) "__setitem__"=some (some (.builtin "list.__setitem__"))
 mfns:∀ nm fn,C.meths nm=some fn→(nm==("_initial_size":Str))=false∧∃ f ob fd,findIn Kf (.ref K.acc) nm=some (some (.ref f))∧typeIn Kf (.ref f)=some (.type "function")∧FnAt K Kf.In (fun _=>some (.ref f)) nm fn f ob fd
 str:∀ {G:Prop},(∀ f e0 e1 e2 e3 e4 e5 pa pb pt p0 p1 p2 p3 p4 p5 kt kk gsc te,StrTop K Kf.In Kf (nsOf Kf mainGlobals) f (obOf Kf f) (fdOf (obOf Kf f)) (strBody e0 e1 e2 e3 e4 e5 pa pb pt p0 p1 p2 p3 p4 p5 kt kk gsc) gsc te→(e1.endLine==e5.line)=true→(p3.endLine==p4.line)=true→G)→G
 fns:∀ f fn,C.fns f=some fn→∃ a o fd,FnAt K Kf.In (nsOf Kf mainGlobals) f fn a o fd
theorem TopOk.prims {bm:Addr} (O:TopOk prog C K Kf bm):Prims prog w C K Kf.In (nsOf Kf mainGlobals) where
 gen:=fun H=>by
  refine e31 (O.gen) fun g P k D=>?_;exact gen_ok ((facts_of O.head).withH H) D
 accMeth:=fun H=>acc_meths ((facts_of O.head).withH H) (O.acc.withH H)
 accNew:=fun H=>acc_news ((facts_of O.head).withH H) (O.acc.withH H)
 accLen:=fun H=>by
  exact O.len fun f e0 e1 e2 e3 e4 e5 e6 pa pb pt p0 p1 p2 p3 p4 p5 p6 kt gsc L=>acc_lens ((facts_of O.head).withH H) (O.acc.withH H) (L.withH H)
 accItr:=fun H=>acc_itrs ((facts_of O.head).withH H) (O.acc.X.withH H)
 accSlice:=fun H=>fun h1 h2 hσ h0 hl=>acc_slice ((facts_of O.head).withH H) (O.acc.X.withH H) O.getI h1 h2 hσ h0 hl
 accCut:=fun H=>fun hs h1 h2 h3 hlo hσ h0 hl=>acc_cut ((facts_of O.head).withH H) (O.acc.X.withH H) O.setI hs h1 h2 h3 hlo hσ h0 hl
 accFn:=fun H=>acc_fns (O.acc.X.withH H) fun nm fn h=>let ⟨h1,f,ob,fd,h2,h3,h4⟩:=O.mfns nm fn h;⟨h1,f,ob,fd,h2,h3,h4.withH H⟩
 accStr:=fun H=>O.str fun f e0 e1 e2 e3 e4 e5 pa pb pt p0 p1 p2 p3 p4 p5 kt kk gsc te L l1 l2=>acc_strs ((facts_of O.head).withH H) (O.acc.X.withH H) L l1 l2
 fns:=O.fns
noncomputable def escPos (l:List Pos) (i:Nat):Pos:=l.getD i ⟨0,0,0,0⟩
noncomputable def escNat (l:List Nat) (i:Nat):Nat:=l.getD i 0
end
end Mine.Internal
end
section
open PySem PySem.W PyProof.Rows
set_option tactic.hygienic false
namespace Mine.Internal.L
section
theorem nA {L m y:Nat} (hy:y<6) (h:m<9):L+m≠L+14-y:=by lia
theorem nB {L m y:Nat} (hy:y<6) (h:m<9):L+14-y≠L+m:=(nA hy h).symm
theorem nC {L x y:Nat} (hx:x<6) (hy:y<6) (h:x≠y):L+14-x≠L+14-y:=by lia
theorem nD {L i j:Nat} (h:i≠j):L+i≠L+j:=fun e=>h (Nat.add_left_cancel e)
theorem nE {L i j:Nat} (h:i<j):L+i≠L+j:=nD (Nat.ne_of_lt h)
theorem nF {L i j:Nat} (h:j<i):L+i≠L+j:=nD (Nat.ne_of_gt h)
theorem nL {L y:Nat} (h:y<6):L≤L+14-y:=by lia
theorem nT {n k:Nat} (h:k<n):n-1-k+1=n-k:=by omega
theorem nG {L m:Nat} (h:m<6):L+9+(6-(m+1))=L+14-m∧L+9+(6-(m+1))+1=L+9+(6-m):=by omega
theorem nZ {z y m:Nat} (h:m<6) (h1:z≤6*(6-(m+1))) (h2:y≤z+6):y≤6*(6-m):=by omega
theorem leD {x a b:Nat} (h:x<a) (k:a≤b):x≤b:=Wq (Qh h k)
theorem nS {n k:Nat} (h:k<n):n-1-k<n:=by lia
theorem ev_CInt (i:Int) (k:Nat) (p:Pos) {C:Cfg} {sc:Scope} {n lo:Nat} {σ:St} {ρ:Rho}:ev C (n+1) sc lo (.Constant (.int i) k p) ρ σ (.int i) σ:=ev_Const rfl
theorem ev_CBool (b:Bool) (k:Nat) (p:Pos) {C:Cfg} {sc:Scope} {n lo:Nat} {σ:St} {ρ:Rho}:ev C (n+1) sc lo (.Constant (.bool b) k p) ρ σ (.bool b) σ:=ev_Const rfl
theorem ev_CNone (k:Nat) (p:Pos) {C:Cfg} {sc:Scope} {n lo:Nat} {σ:St} {ρ:Rho}:ev C (n+1) sc lo (.Constant .none k p) ρ σ .none σ:=ev_Const rfl
theorem ev_CStr {s:Str} {k:Nat} {p:Pos} {C:Cfg} {sc:Scope} {n lo:Nat} {σ:St} {ρ:Rho} (h:asc s=true):ev C (n+1) sc lo (.Constant (.str s) k p) ρ σ (.str s) σ:=ev_Const (if_pos h)
theorem bin_add (σ:St) (x y:Int):binV σ .Add (.int x) (.int y)=some (.int (x+y)):=rfl
theorem bin_sub (σ:St) (x y:Int):binV σ .Sub (.int x) (.int y)=some (.int (x-y)):=rfl
theorem bin_mul {σ:St} {x y:Int} (h1:smallI x=true) (h2:smallI y=true):binV σ .Mult (.int x) (.int y)=some (.int (x*y)):=bnt (and2 h1 h2) rfl
theorem bin_div {σ:St} {x y:Int} (h1:y≠0) (h2:smallI y=true):binV σ .FloorDiv (.int x) (.int y)=some (.int (x.fdiv y)):=bnt (and2 (notT (decide_eq_false h1)) h2) rfl
theorem bin_mod {σ:St} {x y:Int} (h1:y≠0):binV σ .Mod (.int x) (.int y)=some (.int (x.fmod y)):=bnt (notT (decide_eq_false h1)) rfl
theorem bin_pow {σ:St} {x y:Int} (h0:0≤y) (h1:y≤4096) (h2:smallI x=true):binV σ .Pow (.int x) (.int y)=some (.int (x^y.toNat)):=bnt (and2 (and2 (dec h0) (dec h1)) h2) rfl
theorem cmp_lt (σ:St) (x y:Int):cmpV σ .Lt (.int x) (.int y)=some (decide (x<y)):=rfl
theorem cmp_le (σ:St) (x y:Int):cmpV σ .LtE (.int x) (.int y)=some (decide (x≤y)):=rfl
theorem cmp_gt (σ:St) (x y:Int):cmpV σ .Gt (.int x) (.int y)=some (decide (y<x)):=rfl
theorem cmp_eqI (σ:St) (x y:Int):cmpV σ .Eq (.int x) (.int y)=some (decide (x=y)):=by
 show some (PyData.eqv (.int x) (.int y))=_
 by_cases h:x=y
 ·subst h;simp [PyData.eqv]
 ·simp [PyData.eqv,h]
theorem cmp_neI (σ:St) (x y:Int):cmpV σ .NotEq (.int x) (.int y)=some (!decide (x=y)):=by
 obtain h:=cmp_eqI σ x y;change some (PyData.eqv (.int x) (.int y))=_ at h;show some (!PyData.eqv (.int x) (.int y))=_;rw [Qw h]
theorem cmp_isNN (σ:St):cmpV σ .Is .none .none=some true:=rfl
theorem cmp_isIN (σ:St) (x:Int):cmpV σ .Is (.int x) .none=some false:=rfl
theorem cmp_isBN (σ:St) (x:Bool):cmpV σ .Is (.bool x) .none=some false:=rfl
theorem cmp_isFN (σ:St):cmpV σ .Is .fn .none=some false:=rfl
theorem cmp_isBB (σ:St) (x y:Bool):cmpV σ .Is (.bool x) (.bool y)=some (x==y):=rfl
theorem cmp_isNotBB (σ:St) (x y:Bool):cmpV σ .IsNot (.bool x) (.bool y)=some (x !=y):=rfl
theorem bind_name {sc:Scope} {x:Str} {p:Pos} {v:V} {ρ:Rho} (h:canSet sc x=true):bindT sc (.Name x p) v ρ=some ((x,.val v)::ρ):=bnt h rfl
theorem bind_two {sc:Scope} {x y:Str} {p q r:Pos} {k:Nat} {v u:V} {ρ:Rho} (h:(canSet sc x&&canSet sc y)=true):bindT sc (.Tuple [.Name x p,.Name y q] k r) (.tup [v,u]) ρ=some ((y,.val u)::(x,.val v)::ρ):=bnt (and_l h) (bnt (and_r h) rfl)
theorem bind_three {sc:Scope} {x y z:Str} {p q r s:Pos} {k:Nat} {v u t:V} {ρ:Rho} (h:(canSet sc x&&canSet sc y&&canSet sc z)=true):bindT sc (.Tuple [.Name x p,.Name y q,.Name z s] k r) (.tup [v,u,t]) ρ=some ((z,.val t)::(y,.val u)::(x,.val v)::ρ):=bnt (and_l (and_l h)) (bnt (and_r (and_l h)) (bnt (and_r h) rfl))
theorem bind_four {sc:Scope} {x y z w:Str} {p q r s o:Pos} {k:Nat} {v u t m:V} {ρ:Rho} (h:(canSet sc x&&canSet sc y&&canSet sc z&&canSet sc w)=true):bindT sc (.Tuple [.Name x p,.Name y q,.Name z s,.Name w o] k r) (.tup [v,u,t,m]) ρ=some ((w,.val m)::(z,.val t)::(y,.val u)::(x,.val v)::ρ):=bnt (and_l (and_l (and_l h))) (bnt (and_r (and_l (and_l h))) (bnt (and_r (and_l h)) (bnt (and_r h) rfl)))
theorem go_ForM {α:Type} {f:α→V} {l:List α} {C:Cfg} {n lo:Nat} {sc:Scope} {ρ:Rho} {σ σ1:St} {t e:Expr} {b:List Stmt} {p:Pos} {Q:Fl→Rho→St→Prop} (I:Nat→Rho→St→Prop) (htg:tgtOk e t=true) (hi:itr C n sc lo e ρ σ (.fix (l.map f)) σ1)
  (h0:I 0 ρ σ1) (step:∀ k x ρ σ,l[k]?=some x→I k ρ σ→∃ ρ1,bindT sc t (f x) ρ=some ρ1∧Go (exs C n sc lo b ρ1 σ) (Turn I Q k)) (fin:∀ ρ σ,I l.length ρ σ→Q .next ρ σ):Go (ex C (n+1) sc lo (.For t e b [] p) ρ σ) Q:=by
 refine go_For I htg hi h0 (fun k v ρ σ hv h=>?_) fun ρ σ h=>fin ρ σ (by rwa [Qx] at h);rw [Qb,Option.map_eq_some_iff] at hv;obtain ⟨x,hx,rfl⟩:=hv;exact step k x ρ σ hx h
theorem go_ForR {f:Nat→V} {m:Nat} {C:Cfg} {n lo:Nat} {sc:Scope} {ρ:Rho} {σ σ1:St} {t e:Expr} {b:List Stmt} {p:Pos} {Q:Fl→Rho→St→Prop} (I:Nat→Rho→St→Prop) (htg:tgtOk e t=true) (hi:itr C n sc lo e ρ σ (.fix ((List.range m).map f)) σ1)
  (h0:I 0 ρ σ1) (step:∀ k ρ σ,k<m→I k ρ σ→∃ ρ1,bindT sc t (f k) ρ=some ρ1∧Go (exs C n sc lo b ρ1 σ) (Turn I Q k)) (fin:∀ ρ σ,I m ρ σ→Q .next ρ σ):Go (ex C (n+1) sc lo (.For t e b [] p) ρ σ) Q:=by
 refine go_ForM I htg hi h0 (fun k x ρ σ hx h=>?_) fun ρ σ h=>fin ρ σ (by rwa [List.length_range] at h);have hk:=(Qz hx).1;rw [List.length_range] at hk;rw [List.getElem?_range hk] at hx;obtain rfl:=Qw hx;exact step k ρ σ hk h
noncomputable def nthS (l:List Stmt) (i:Nat):Stmt:=l.getD i (.Pass ⟨0,0,0,0⟩)
noncomputable def thenS (s:Stmt):List Stmt:=if h:s.ctorIdx=12 then Stmt.If.elim s h fun _ a _ _=>a else []
noncomputable def elseS (s:Stmt):List Stmt:=if h:s.ctorIdx=12 then Stmt.If.elim s h fun _ _ b _=>b else []
noncomputable def bodyS (s:Stmt):List Stmt:=if h:s.ctorIdx=9 then Stmt.For.elim s h fun _ _ b _ _=>b else if h:s.ctorIdx=11 then Stmt.While.elim s h fun _ b _ _=>b else []
noncomputable def exprS (s:Stmt):Expr:=if h:s.ctorIdx=5 then Stmt.Assign.elim s h fun _ e _=>e else if h:s.ctorIdx=12 then Stmt.If.elim s h fun t _ _ _=>t else if h:s.ctorIdx=3 then Stmt.Return.elim s h fun e _=>e.getD (.Constant .none 0 ⟨0,0,0,0⟩) else .Constant .none 0 ⟨0,0,0,0⟩
abbrev pw:Program:=PySem.Challenge.pw_uy0008_01
noncomputable def fnNames:List Str:=["insort_right","bisect_right","insort_left","bisect_left","_strip_quoted_realnames","_check_parenthesis","_law_cells","_law_units","_law_nest","_law_close","_law_least","_law_order","law"]
noncomputable def methD (p:Program) (x:Str):Fn:=((p.main.body.findSome? fun st=>if h:st.ctorIdx=2 then Stmt.ClassDef.elim st h fun _ _ _ b _ _ _ _ _ _ _=>b.findSome? fun st=>if h:st.ctorIdx=0 then Stmt.FunctionDef.elim st h fun n params body _ _ _ scope _ _ _=>if n==x then some (⟨params,body,scope⟩:Fn) else none else none else none).getD (fnD p x))
noncomputable def cfg:Cfg where
 fns:=fun x=>if fnNames.contains x then some (fnD pw x) else none
 impure:=fun f=>f==("insort_left":Str)||f==("insort_right":Str)
 keep:=fun p=>[111,137,143,150,176,207].contains p.line
 meths:=fun x=>if x==("pop_from":Str) then some (methD pw "pop_from") else none
theorem ev_FnC {sc:Scope} {n lo:Nat} {σ σ1 σ2:St} {ρ:Rho} {f:Str} {args:List Expr} {kw:List Keyword} {vs:List V} {ks:List (Str×B)} {p q:Pos} {v:V} (h1:evs cfg n sc lo args ρ σ vs σ1) (h2:kwV sc ρ kw=some ks) (hk:kindIn sc f=some .globalImplicit) (hna:(f==("_Accumulator":Str))=false)
  (hf:cfg.fns f=some (fnD pw f)) (h3:call cfg n lo f (fnD pw f) vs ks σ1 v σ2):ev cfg (n+1) sc lo (.Call (.Name f q) args kw p) ρ σ v σ2:=ev_Fn h1 h2 hk hna hf h3
end
end Mine.Internal.L
end
section
set_option tactic.hygienic false
namespace Mine.Internal.L
section
def Le:List Nat→List Nat→Prop
 |[],[]=>True
 |u::U,v::V=>u+U.sum≤v+V.sum∧Le U V
 |_,_=>False
theorem Le.refl:∀ U,Le U U
 |[]=>trivial
 |_::U=>⟨Nat.le_refl _,Le.refl U⟩
theorem Le.sum:∀ {U V},Le U V→U.sum≤V.sum
 |[],[],_=>Nat.le_refl _
 |u::U,v::V,h=>by rw [List.sum_cons,List.sum_cons];exact h.1
theorem Le.len:∀ {U V},Le U V→U.length=V.length
 |[],[],_=>rfl
 |_::_,_::_,h=>congrArg (·+1) (Le.len h.2)
theorem Le.trans:∀ {U V W},Le U V→Le V W→Le U W
 |[],[],[],_,_=>trivial
 |_::_,_::_,_::_,h,g=>⟨Qy h.1 g.1,h.2.trans g.2⟩
theorem Le.drop:∀ {U V} (k:Nat),Le U V→Le (U.drop k) (V.drop k)
 |U,V,0,h=>h
 |[],[],_+1,_=>trivial
 |_::_,_::_,k+1,h=>Le.drop k h.2
theorem Le.cons {U V:List Nat} (x:Nat) (h:Le U V):Le (x::U) (x::V):=⟨Nat.add_le_add_left h.sum x,h⟩
theorem Le.bubble {x:Nat} {V2:List Nat}:∀ {V1:List Nat},(∀ y∈V1,y≤x)→Le (x::(V1++V2)) (V1++x::V2)
 |[],_=>Le.refl _
 |y::V1,h=>by
  refine ⟨?_,Le.trans (V:=x::(V1++V2)) ⟨Nat.add_le_add_right (h y (Qk ..)) _,Le.refl _⟩ (Le.bubble fun z hz=>h z (Qj _ hz))⟩;show x+(y::(V1++V2)).sum≤y+(V1++x::V2).sum;simp only [List.sum_cons,List.sum_append];omega
theorem le_sorted:∀ {L V:List Nat},L.Pairwise (fun a b=>b≤a)→L.Perm V→Le L V
 |[],V,_,h=>by rw [List.nil_perm.mp h];trivial
 |x::L,V,hs,h=>by
  obtain ⟨V1,V2,rfl⟩:=List.append_of_mem (h.subset (Qk ..));obtain ⟨h1,h2⟩:=List.pairwise_cons.mp hs;have hp:L.Perm (V1++V2):=(h.trans List.perm_middle).cons_inv;exact ((le_sorted h2 hp).cons x).trans (Le.bubble fun y hy=>h1 y (hp.symm.subset (List.mem_append_left _ hy)))
theorem le_up {sx s:Nat} {R:List Nat} (h2:s≤sx):∀ j,Le (List.replicate j s++R) (List.replicate j sx++R)
 |0=>Le.refl _
 |j+1=>⟨Nat.add_le_add h2 (le_up h2 j).sum,le_up h2 j⟩
theorem le_level {sb sx s j:Nat} {R:List Nat} (h1:sb≤s) (h2:s≤sx):∀ i:Nat,(i+j)*s≤i*sb+j*sx→Le (List.replicate (i+j) s++R) (List.replicate i sb++(List.replicate j sx++R))
 |0,_=>by rw [Nat.zero_add];exact le_up h2 j
 |i+1,h=>by
  rw [Nat.add_right_comm i 1 j,Nat.succ_mul,Nat.succ_mul] at h;have ih:=le_level (R:=R) h1 h2 i (Nat.le_of_add_le_add_right (Qy h (Qy (Nat.le_of_eq (Nat.add_right_comm ..)) (Nat.add_le_add_left h1 _))));rw [Nat.add_right_comm i 1 j];refine ⟨?_,ih⟩;show s+(List.replicate (i+j) s++R).sum≤sb+(List.replicate i sb++(List.replicate j sx++R)).sum;rw [List.sum_append,List.sum_append,List.sum_append,List.sum_replicate_nat,List.sum_replicate_nat,List.sum_replicate_nat,←Nat.add_assoc,←Nat.add_assoc (i*sb),←Nat.add_assoc sb,Nat.add_comm s,←Nat.add_assoc sb,Nat.add_comm sb];exact Nat.add_le_add_right h _
inductive Mix {α:Type}:List α→List α→List α→Prop
 |nil:Mix [] [] []
 |l {a b c:List α} (x:α):Mix a b c→Mix (x::a) b (x::c)
 |r {a b c:List α} (x:α):Mix a b c→Mix a (x::b) (x::c)
theorem Mix.perm {α:Type} {a b c:List α} (h:Mix a b c):c.Perm (a++b):=by
 induction h with
 |nil=>exact .nil
 |l x _ ih=>exact ih.cons x
 |r x _ ih=>exact (ih.cons x).trans List.perm_middle.symm
theorem Mix.left {α:Type}:∀ (a:List α),Mix a [] a
 |[]=>.nil
 |x::a=>.l x (Mix.left a)
theorem Mix.right {α:Type}:∀ (a:List α),Mix [] a a
 |[]=>.nil
 |x::a=>.r x (Mix.right a)
theorem Mix.appL {α:Type} {a b c:List α} (h:Mix a b c):∀ t:List α,Mix (t++a) b (t++c)
 |[]=>h
 |x::t=>.l x (Mix.appL h t)
theorem Mix.appR {α:Type} {a b c:List α} (h:Mix a b c):∀ t:List α,Mix a (t++b) (t++c)
 |[]=>h
 |x::t=>.r x (Mix.appR h t)
theorem Mix.flat {α:Type} {a b c:List (List α)} (h:Mix a b c):Mix a.flatten b.flatten c.flatten:=by
 induction h with
 |nil=>exact .nil
 |l x _ ih=>exact ih.appL x
 |r x _ ih=>exact ih.appR x
theorem Mix.filter {α:Type} (q:α→Bool):∀ t:List α,Mix (t.filter q) (t.filter fun x=>!q x) t
 |[]=>.nil
 |x::t=>by
  cases h:q x with
  |true=>rw [List.filter_cons_of_pos h,List.filter_cons_of_neg (by simp [h])];exact .l x (Mix.filter q t)
  |false=>rw [List.filter_cons_of_neg (by simp [h]),List.filter_cons_of_pos (by simp [h])];exact .r x (Mix.filter q t)
def sm (f:Nat→Nat) (l:List Nat):Nat:=(l.map f).sum
theorem sm_cons (f:Nat→Nat) (x:Nat) (l:List Nat):sm f (x::l)=f x+sm f l:=by unfold sm;rw [List.map_cons,List.sum_cons]
theorem sm_app (f:Nat→Nat) (a b:List Nat):sm f (a++b)=sm f a+sm f b:=by unfold sm;rw [List.map_append,List.sum_append]
theorem sm_perm (f:Nat→Nat) {a b:List Nat} (h:a.Perm b):sm f a=sm f b:=(h.map f).sum_nat
def cross (A B:List Nat):Nat:=(A.map fun u=>(B.map fun v=>min u v).sum).sum
theorem cross_cons (u:Nat) (A B:List Nat):cross (u::A) B=(B.map fun v=>min u v).sum+cross A B:=by unfold cross;rw [List.map_cons,List.sum_cons]
theorem cross_app (A1 A2 B:List Nat):cross (A1++A2) B=cross A1 B+cross A2 B:=by unfold cross;rw [List.map_append,List.sum_append]
theorem cross_consR (v:Nat) (B:List Nat):∀ A:List Nat,cross A (v::B)=(A.map fun u=>min v u).sum+cross A B
 |[]=>rfl
 |u::A=>by
  rw [cross_cons,cross_cons,cross_consR v B A,List.map_cons,List.sum_cons,List.map_cons,List.sum_cons,Nat.min_comm u v];omega
theorem cross_comm:∀ A B:List Nat,cross A B=cross B A
 |[],B=>by
  induction B with
  |nil=>rfl
  |cons v B ih=>rw [cross_cons,←ih];rfl
 |u::A,B=>by rw [cross_cons,cross_consR,cross_comm A B]
theorem min_sum (u:Nat):∀ B:List Nat,(B.map fun v=>min u v).sum≤B.sum
 |[]=>Nat.le_refl _
 |v::B=>by rw [List.map_cons,List.sum_cons,List.sum_cons];exact Nat.add_le_add (Nat.min_le_right ..) (min_sum u B)
theorem cross_le (B:List Nat):∀ A:List Nat,cross A B≤A.length*B.sum
 |[]=>Nat.zero_le _
 |u::A=>by rw [cross_cons,List.length_cons,Nat.succ_mul,Nat.add_comm];exact Nat.add_le_add (cross_le B A) (min_sum u B)
theorem min_all {u:Nat}:∀ {B:List Nat},(∀ v∈B,v≤u)→(B.map fun v=>min u v).sum=B.sum
 |[],_=>rfl
 |v::B,h=>by rw [List.map_cons,List.sum_cons,List.sum_cons,Nat.min_eq_right (h v (Qk ..)),min_all fun x hx=>h x (Qj _ hx)]
theorem cross_rep {u:Nat} {B:List Nat} (h:∀ v∈B,v≤u):∀ n:Nat,cross (List.replicate n u) B=n*B.sum
 |0=>(Nat.zero_mul _).symm
 |n+1=>by rw [List.replicate_succ,cross_cons,cross_rep h n,min_all h,Nat.succ_mul,Nat.add_comm]
section
variable {w p:Nat→Nat} {M:Nat}
def cst (w p:Nat→Nat):List Nat→Nat
 |[]=>0
 |x::r=>p x*(w x+sm w r)+cst w p r
theorem cst_cons (x:Nat) (r:List Nat):cst w p (x::r)=p x*(w x+sm w r)+cst w p r:=rfl
theorem cst_app:∀ a b:List Nat,cst w p (a++b)=cst w p a+sm p a*sm w b+cst w p b
 |[],b=>by rw [List.nil_append,show sm p []=0 from rfl,Nat.zero_mul];exact (Nat.zero_add _).symm
 |x::a,b=>by
  rw [List.cons_append,cst_cons,cst_cons,cst_app a b,sm_app,sm_cons,←Nat.add_assoc (w x),Nat.mul_add (p x) (w x+sm w a),Nat.add_mul];omega
def Dom (w p:Nat→Nat) (M:Nat):List Nat→List Nat→Prop
 |[],U=>U=[]
 |x::a,U=>U.length=sm p (x::a)∧U.sum≤M*sm w (x::a)∧Dom w p M a (U.drop (p x))
theorem Dom.len:∀ {a U:List Nat},Dom w p M a U→U.length=sm p a
 |[],_,h=>by rw [show _=[] from h];rfl
 |_::_,_,h=>h.1
theorem Dom.sum:∀ {a U:List Nat},Dom w p M a U→U.sum≤M*sm w a
 |[],_,h=>by rw [show _=[] from h];exact Nat.zero_le _
 |_::_,_,h=>h.2.1
theorem Dom.mono:∀ {a U V:List Nat},Le U V→Dom w p M a V→Dom w p M a U
 |[],[],_,_,_=>rfl
 |[],_::_,_,h,g=>by rw [show _=[] from g] at h;exact h.elim
 |x::a,_,_,h,g=>⟨h.len.trans g.1,Qy h.sum g.2.1,(g.2.2).mono (h.drop _)⟩
theorem Mix.symm {α:Type} {a b c:List α} (h:Mix a b c):Mix b a c:=by
 induction h with
 |nil=>exact .nil
 |l x _ ih=>exact .r x ih
 |r x _ ih=>exact .l x ih
theorem take_dom {x:Nat} {a A:List Nat} (h:Dom w p M (x::a) A):(A.take (p x)).length=p x:=by rw [List.length_take,h.1,sm_cons];exact Nat.min_eq_left (Nat.le_add_right ..)
theorem Dom.step {x:Nat} {a b c A B V:List Nat} (h:Mix a b c) (ha:Dom w p M (x::a) A) (hb:Dom w p M b B) (v1:Dom w p M c V) (v2:V.Perm (A.drop (p x)++B)):Dom w p M (x::c) (A.take (p x)++V)∧(A.take (p x)++V).Perm (A++B):=by
 have hl:=take_dom ha;have hp:(A.take (p x)++V).Perm (A++B):=by
  have:=v2.append_left (A.take (p x));rwa [←List.append_assoc,List.take_append_drop] at this
 refine ⟨⟨?_,?_,?_⟩,hp⟩
 ·rw [hp.length_eq,Qu,ha.1,hb.len,sm_cons,sm_cons,sm_perm p h.perm,sm_app,Nat.add_assoc]
 ·rw [hp.sum_nat,List.sum_append,sm_cons,sm_perm w h.perm,sm_app,←Nat.add_assoc,Nat.mul_add,←sm_cons];exact Nat.add_le_add ha.2.1 hb.sum
 ·rw [List.drop_append_of_le_length (Nat.le_of_eq hl.symm),List.drop_of_length_le (Nat.le_of_eq hl)];exact v1
theorem Dom.mix {a b c:List Nat} (h:Mix a b c):∀ {A B:List Nat},Dom w p M a A→Dom w p M b B→∃ V,Dom w p M c V∧V.Perm (A++B):=by
 induction h with
 |nil=>intro A B ha hb;exact ⟨[],rfl,by rw [show A=[] from ha,show B=[] from hb];exact .nil⟩
 |l x h ih=>
  intro A B ha hb;obtain ⟨V,v1,v2⟩:=ih ha.2.2 hb;exact ⟨_,Dom.step h ha hb v1 v2⟩
 |r x h ih=>
  intro A B ha hb;obtain ⟨V,v1,v2⟩:=ih ha hb.2.2;obtain ⟨h1,h2⟩:=Dom.step h.symm hb ha v1 (v2.trans List.perm_append_comm);exact ⟨_,h1,h2.trans List.perm_append_comm⟩
theorem lowN {x a b k d y c:Nat} (h1:k≤y) (h2:a+b+d≤c):x+a+b+(k+d)≤x+y+c:=by omega
theorem low_step {x:Nat} {a b c A B:List Nat} (h:Mix a b c) (ha:Dom w p M (x::a) A) (hb:Dom w p M b B) (i:M*cst w p a+M*cst w p b+cross (A.drop (p x)) B≤M*cst w p c):M*cst w p (x::a)+M*cst w p b+cross A B≤M*cst w p (x::c):=by
 have e:=cross_app (A.take (p x)) (A.drop (p x)) B;rw [List.take_append_drop] at e;have k:=cross_le B (A.take (p x));rw [take_dom ha] at k;have k2:=Qy k (Nat.mul_le_mul_left (p x) hb.sum);rw [cst_cons,cst_cons,sm_perm w h.perm,sm_app,←Nat.add_assoc,Nat.mul_add M,Nat.mul_add M,Nat.mul_add (p x) (w x+sm w a),Nat.mul_add M (p x*(w x+sm w a)),Nat.mul_left_comm M (p x) (sm w b),e];exact lowN k2 i
theorem low {a b c:List Nat} (h:Mix a b c):∀ {A B:List Nat},Dom w p M a A→Dom w p M b B→M*cst w p a+M*cst w p b+cross A B≤M*cst w p c:=by
 induction h with
 |nil=>intro A B ha hb;rw [show A=[] from ha];exact Nat.le_refl _
 |l x h ih=>intro A B ha hb;exact low_step h ha hb (ih ha.2.2 hb)
 |r x h ih=>
  intro A B ha hb;rw [cross_comm,Nat.add_comm (M*_)];exact low_step h.symm hb ha (by rw [cross_comm,Nat.add_comm (M*_)];exact ih ha hb.2.2)
end
end
section
variable {w p:Nat→Nat} {M:Nat}
def sl (w p:Nat→Nat) (M:Nat) (b:List Nat):Nat:=sm w b*(M/sm p b)
def us (w p:Nat→Nat) (M:Nat) (row:List (List Nat)):List Nat:=row.flatMap fun b=>List.replicate (sm p b) (sl w p M b)
@[reducible] def Fit (p:Nat→Nat) (M:Nat):Prop:=0<M∧∀ b:List Nat,b≠[]→b.length≤6→0<sm p b∧sm p b*(M/sm p b)=M
theorem us_cons (b:List Nat) (row:List (List Nat)):us w p M (b::row)=List.replicate (sm p b) (sl w p M b)++us w p M row:=rfl
theorem sl_all (hf:Fit p M) {b:List Nat} (h:b≠[]) (hl:b.length≤6):sm p b*sl w p M b=M*sm w b:=by
 unfold sl;rw [Nat.mul_left_comm,(hf.2 b h hl).2,Nat.mul_comm]
@[reducible] def Row (row:List (List Nat)):Prop:=∀ b∈row,b≠[]∧b.length≤6
theorem us_sum (hf:Fit p M):∀ {row:List (List Nat)},Row row→(us w p M row).sum=M*sm w row.flatten
 |[],_=>rfl
 |b::row,h=>by
  obtain ⟨h1,h2⟩:=h b (Qk ..);rw [us_cons,List.sum_append,List.sum_replicate_nat,sl_all hf h1 h2,us_sum hf fun x hx=>h x (Qj _ hx),List.flatten_cons,sm_app,Nat.mul_add]
theorem us_len:∀ row:List (List Nat),(us w p M row).length=sm p row.flatten
 |[]=>rfl
 |b::row=>by rw [us_cons,Qu,List.length_replicate,us_len row,List.flatten_cons,sm_app]
@[reducible] def Down (w p:Nat→Nat) (M:Nat) (row:List (List Nat)):Prop:=row.Pairwise fun a b=>sl w p M b≤sl w p M a
theorem us_le {s:Nat} {row:List (List Nat)} (h:∀ b∈row,sl w p M b≤s):∀ v∈us w p M row,v≤s:=fun v hv=>by
 obtain ⟨b,h1,h2⟩:=List.mem_flatMap.mp hv;rw [(List.mem_replicate.mp h2).2];exact h b h1
theorem us_down:∀ {row:List (List Nat)},Down w p M row→(us w p M row).Pairwise fun a b=>b≤a
 |[],_=>.nil
 |b::row,h=>by
  obtain ⟨h1,h2⟩:=List.pairwise_cons.mp h;rw [us_cons];refine List.pairwise_append.mpr ⟨List.pairwise_replicate.mpr (.inr (Nat.le_refl _)),us_down h2,fun x hx y hy=>?_⟩;rw [(List.mem_replicate.mp hx).2];exact us_le h1 y hy
theorem highN {x a b k c y z:Nat} (h:c=a+b+k):x+(y+z)+c=x+y+a+b+(z+k):=by omega
theorem high_step (hf:Fit p M) {x:List Nat} {A B C:List (List Nat)} (h:Mix A B C) (hb:Row B) (h1:∀ y∈C,sl w p M y≤sl w p M x) (i:M*cst w p C.flatten=M*cst w p A.flatten+M*cst w p B.flatten+cross (us w p M A) (us w p M B)):M*cst w p (x::C).flatten=M*cst w p (x::A).flatten+M*cst w p B.flatten+cross (us w p M (x::A)) (us w p M B):=by
 rw [us_cons,cross_app,cross_rep (us_le fun y hy=>h1 y (h.perm.symm.subset (List.mem_append_right _ hy))),us_sum hf hb,List.flatten_cons,List.flatten_cons,cst_app,cst_app,sm_perm w h.flat.perm,sm_app,Nat.mul_add (sm p x),Nat.mul_add M,Nat.mul_add M,Nat.mul_add M,Nat.mul_add M,Nat.mul_add M,Nat.mul_left_comm M (sm p x) (sm w B.flatten)];exact highN i
theorem high (hf:Fit p M) {A B C:List (List Nat)} (h:Mix A B C):Row A→Row B→Down w p M C→M*cst w p C.flatten=M*cst w p A.flatten+M*cst w p B.flatten+cross (us w p M A) (us w p M B):=by
 induction h with
 |nil=>intros;rfl
 |l x h ih=>
  intro ha hb hd;obtain ⟨h1,h2⟩:=List.pairwise_cons.mp hd;exact high_step hf h hb h1 (ih (fun y hy=>ha y (Qj _ hy)) hb h2)
 |r x h ih=>
  intro ha hb hd;obtain ⟨h1,h2⟩:=List.pairwise_cons.mp hd;rw [cross_comm,Nat.add_comm (M*cst w p (List.flatten _))];exact high_step hf h.symm ha h1 (by rw [cross_comm,Nat.add_comm (M*cst w p (List.flatten _))];exact ih ha (fun y hy=>hb y (Qj _ hy)) h2)
inductive Ch (w p:Nat→Nat) (M:Nat):List Nat→List (List Nat)→List Nat→List (List Nat)→Prop
 |stop {b:List Nat} {A:List (List Nat)}:(∀ x∈A.head?,sl w p M x≤sl w p M b)→Ch w p M b A b A
 |go {b x b':List Nat} {A A':List (List Nat)}:sl w p M b≤sl w p M x→Ch w p M (b++x) A b' A'→Ch w p M b (x::A) b' A'
theorem Ch.ok (hf:Fit p M) {b b':List Nat} {A A':List (List Nat)} (h:Ch w p M b A b' A'):b≠[]→(b++A.flatten).length≤6→Row A→Down w p M A→b'++A'.flatten=b++A.flatten∧Row (b'::A')∧Down w p M (b'::A')∧∀ π,Dom w p M π (us w p M (b::A))→Dom w p M π (us w p M (b'::A')):=by
 induction h with
 |@stop b A hx=>
  intro h1 h2 h3 h4;refine ⟨rfl,fun x hx=>?_,List.pairwise_cons.mpr ⟨?_,h4⟩,fun π q=>q⟩
  ·rcases Wy hx with rfl|hx
   ·exact ⟨h1,Qy (by rw [Qu];exact Nat.le_add_right ..) h2⟩
   ·exact h3 x hx
  ·match A,hx,h4 with
   |[],_,_=>exact fun y hy=>nomatch hy
   |x::A,hx,h4=>
    intro y hy;rcases Wy hy with rfl|hy
    ·exact hx _ rfl
    ·exact Qy ((List.pairwise_cons.mp h4).1 y hy) (hx x rfl)
 |@go b x b' A A' hx _ ih=>
  intro h1 h2 h3 h4;rw [List.flatten_cons,←List.append_assoc] at h2;have hbx:(b++x).length≤6:=Qy (by rw [Qu (as:=b++x)];exact Nat.le_add_right ..) h2;obtain ⟨r1,r2,r3,r4⟩:=ih (fun e=>h1 (List.append_eq_nil_iff.mp e).1) h2 (fun y hy=>h3 y (Qj _ hy)) (List.pairwise_cons.mp h4).2;refine ⟨by rw [r1,List.flatten_cons,List.append_assoc],r2,r3,fun π q=>r4 π (q.mono ?_)⟩;obtain ⟨g1,g2⟩:=h3 x (Qk ..);have e1:=sl_all (w:=w) hf h1 (Qy (by rw [Qu];exact Nat.le_add_right ..) hbx);have e2:=sl_all (w:=w) hf g1 g2;have hne:b++x≠[]:=fun e=>h1 (List.append_eq_nil_iff.mp e).1;have e3:=sl_all (w:=w) hf hne hbx;have hpos:=(hf.2 _ hne hbx).1;rw [us_cons,us_cons,us_cons];rw [sm_app p,sm_app w,Nat.mul_add,←e1,←e2] at e3;rw [sm_app p] at hpos⊢;refine le_level ?_ ?_ _ (Nat.le_of_eq e3)
  ·refine Nat.le_of_mul_le_mul_left ?_ hpos;rw [e3,Nat.add_mul];exact Nat.add_le_add_left (Nat.mul_le_mul_left _ hx) _
  ·refine Nat.le_of_mul_le_mul_left ?_ hpos;rw [e3,Nat.add_mul];exact Nat.add_le_add_right (Nat.mul_le_mul_left _ hx) _
inductive Fo where
 |nil
 |node (kids rest:Fo)
def Fo.sz:Fo→Nat
 |.nil=>0
 |.node a b=>a.sz+1+b.sz
def LE:Nat→Fo→List Nat→Prop
 |_,.nil,π=>π=[]
 |k,.node f g,π=>∃ a b,LE (k+1) f a∧LE (k+1+f.sz) g b∧Mix (k::a) b π
theorem LE.perm:∀ {F:Fo} {k:Nat} {π:List Nat},LE k F π→π.Perm (List.range' k F.sz)
 |.nil,_,_,h=>by rw [show _=[] from h];exact .nil
 |.node f g,k,π,⟨a,b,h1,h2,h3⟩=>by
  have e:List.range' k (f.sz+1+g.sz)=k::(List.range' (k+1) f.sz++List.range' (k+1+f.sz) g.sz):=by
   rw [Nat.add_right_comm,List.range'_succ,List.range'_append_1]
  rw [show (Fo.node f g).sz=f.sz+1+g.sz from rfl,e];exact h3.perm.trans ((LE.perm h1).append (LE.perm h2)|>.cons k)
inductive BL (w p:Nat→Nat) (M:Nat):Nat→Fo→List (List Nat)→Prop
 |nil {k:Nat}:BL w p M k .nil []
 |node {k:Nat} {f g:Fo} {A A' B C:List (List Nat)} {b:List Nat}:BL w p M (k+1) f A→BL w p M (k+1+f.sz) g B→Ch w p M [k] A b A'→Mix (b::A') B C→Down w p M C→BL w p M k (.node f g) C
theorem horn (hf:Fit p M) {k:Nat} {F:Fo} {C:List (List Nat)} (h:BL w p M k F C):F.sz≤6→LE k F C.flatten∧Row C∧Down w p M C∧∀ π,LE k F π→Dom w p M π (us w p M C)∧cst w p C.flatten≤cst w p π:=by
 induction h with
 |nil=>exact fun _=>⟨rfl,fun x hx=>(nomatch hx),.nil,fun π e=>by rw [show π=[] from e];exact ⟨rfl,Nat.le_refl _⟩⟩
 |@node k f g A A' B C b hA hB hc hm hd iA iB=>
  intro hs;have hs:f.sz+1+g.sz≤6:=hs;obtain ⟨a1,a2,a3,a4⟩:=iA (Qy (Qy (Nat.le_succ _) (Nat.le_add_right _ _)) hs);obtain ⟨b1,b2,b3,b4⟩:=iB (Qy (Nat.le_add_left _ _) hs);have lA:A.flatten.length=f.sz:=a1.perm.length_eq.trans List.length_range';obtain ⟨c1,c2,c3,c4⟩:=hc.ok hf (List.cons_ne_nil _ _) (by rw [Qu,lA,List.length_singleton,Nat.add_comm];exact Qy (Nat.le_add_right _ _) hs) a2 a3;have hfl:Mix (k::A.flatten) B.flatten C.flatten:=by
   have:=hm.flat;rwa [List.flatten_cons,c1] at this
  have hrow:Row C:=fun x hx=>(Wx (hm.perm.subset hx)).elim (c2 x) (b2 x);refine ⟨⟨_,_,a1,b1,hfl⟩,hrow,hd,?_⟩;rintro π ⟨a,b',h1,h2,h3⟩;obtain ⟨d1,d2⟩:=a4 a h1;obtain ⟨e1,e2⟩:=b4 b' h2;have hperm:a.Perm A.flatten:=h1.perm.trans a1.perm.symm;have hk1:Row [[k]]:=fun x hx=>by rw [Wz hx];exact ⟨List.cons_ne_nil _ _,Nat.le_of_ble_eq_true rfl⟩
  have hkA:Row ([k]::A):=fun x hx=>(Wy hx).elim (fun e=>hk1 x (List.mem_singleton.mpr e)) (a2 x);have hD:Dom w p M (k::a) (us w p M ([k]::A)):=by
   have hl:(List.replicate (sm p [k]) (sl w p M [k])).length=p k:=by rw [List.length_replicate,sm_cons];rfl
   refine ⟨?_,?_,?_⟩
   ·rw [us_len,List.flatten_cons];exact sm_perm p (hperm.cons k).symm
   ·rw [us_sum hf hkA,List.flatten_cons];exact Nat.le_of_eq (congrArg (M*·) (sm_perm w (hperm.cons k).symm))
   ·rw [us_cons,List.drop_append_of_le_length (Nat.le_of_eq hl.symm),List.drop_of_length_le (Nat.le_of_eq hl)];exact d1
  have hD2:=c4 _ hD;obtain ⟨V,v1,v2⟩:=Dom.mix h3 hD2 e1;refine ⟨v1.mono (le_sorted (us_down hd) (((hm.perm.flatMap_right _).trans (by rw [List.flatMap_append];exact .refl _)).trans v2.symm)),?_⟩;refine Nat.le_of_mul_le_mul_left ?_ hf.1;have hi:=high hf hm c2 b2 hd;have lo:=low h3 hD2 e1;rw [List.flatten_cons,c1] at hi;have e3:cst w p (k::A.flatten)≤cst w p (k::a):=by
   rw [cst_cons,cst_cons,sm_perm w hperm];exact Nat.add_le_add_left d2 _
  have m1:=Nat.mul_le_mul_left M e3;have m2:=Nat.mul_le_mul_left M e2;rw [hi];exact Qy (Nat.add_le_add_right (Nat.add_le_add m1 m2) _) lo
end
section
theorem mix_insR {α:Type} {R:α→Prop} {x:α} {a b c:List α} (h:Mix a b c):∀ r:Nat,(∀ y∈a,R y)→(∀ y∈c.drop r,¬R y)→Mix (a++[x]) b (c.take r++x::c.drop r):=by
 induction h with
 |nil=>intro r _ _;rw [List.take_nil,List.drop_nil];exact .l x .nil
 |@l a b c y h ih=>
  intro r h1 h2;cases r with
  |zero=>exact absurd (h1 y (Qk ..)) (h2 y (Qk ..))
  |succ r=>exact .l y (ih r (fun z hz=>h1 z (Qj _ hz)) h2)
 |@r a b c y h ih=>
  intro r h1 h2;cases r with
  |zero=>
   obtain rfl:a=[]:=List.eq_nil_iff_forall_not_mem.mpr fun z hz=>h2 z (Qj _ (h.perm.symm.subset (List.mem_append_left _ hz))) (h1 z hz);exact .l x (.r y h)
  |succ r=>exact .r y (ih r h1 h2)
theorem mix_insL {α:Type} {R:α→Prop} {x:α} {a b c:List α} (h:Mix a b c):∀ r:Nat,(∀ y∈a,R y)→(∀ y∈c.take r,¬R y)→Mix (x::a) b (c.take r++x::c.drop r):=by
 induction h with
 |nil=>intro r _ _;rw [List.take_nil,List.drop_nil];exact .l x .nil
 |@l a b c y h ih=>
  intro r h1 h2;cases r with
  |zero=>exact .l x (.l y h)
  |succ r=>exact absurd (h1 y (Qk ..)) (h2 y (Qk ..))
 |@r a b c y h ih=>
  intro r h1 h2;cases r with
  |zero=>exact .l x (.r y h)
  |succ r=>exact .r y (ih r h1 fun z hz=>h2 z (Qj _ hz))
theorem cut_at {α:Type} (q:α→Bool):∀ c:List α,c.Pairwise (fun a b=>q b=true→q a=true)→∃ r,r≤c.length∧(∀ (i:Nat) (y:α),c[i]?=some y→q y=decide (i<r))∧(∀ y∈c.take r,q y=true)∧∀ y∈c.drop r,q y=false
 |[],_=>⟨0,Nat.le_refl _,fun i y h=>absurd h (by rw [List.getElem?_nil];exact nofun),fun y h=>(nomatch h),fun y h=>(nomatch h)⟩
 |x::c,h=>by
  obtain ⟨h1,h2⟩:=List.pairwise_cons.mp h;obtain ⟨r,r1,r2,r3,r4⟩:=cut_at q c h2;cases hx:q x with
  |true=>
   refine ⟨r+1,Nat.succ_le_succ r1,fun i y e=>?_,fun y hy=>?_,r4⟩
   ·cases i with
    |zero=>rw [←Qw e,hx];exact (decide_eq_true (Nat.succ_pos _)).symm
    |succ i=>rw [r2 i y e];exact decide_eq_decide.mpr Nat.succ_lt_succ_iff.symm
   ·rcases Wy hy with rfl|hy
    ·exact hx
    ·exact r3 y hy
  |false=>
   have all:∀ y∈x::c,q y=false:=fun y hy=>by
    rcases Wy hy with rfl|hy
    ·exact hx
    ·cases e:q y with
     |false=>rfl
     |true=>rw [h1 y hy e] at hx;exact hx
   exact ⟨0,Nat.zero_le _,fun i y e=>by rw [all y (List.mem_of_getElem? e)];exact (decide_eq_false (Nat.not_lt_zero _)).symm,fun y hy=>(nomatch hy),all⟩
theorem pair_ins {α:Type} {R:α→α→Prop} {x:α} {c:List α} {r:Nat} (h:c.Pairwise R) (h1:∀ y∈c.take r,R y x) (h2:∀ y∈c.drop r,R x y):(c.take r++x::c.drop r).Pairwise R:=by
 have hs:(c.take r++c.drop r).Pairwise R:=by rw [List.take_append_drop];exact h
 obtain ⟨p1,p2,p3⟩:=List.pairwise_append.mp hs;refine List.pairwise_append.mpr ⟨p1,List.pairwise_cons.mpr ⟨h2,p2⟩,fun a ha b hb=>?_⟩;rcases Wy hb with rfl|hb
 ·exact h1 a ha
 ·exact p3 a ha b hb
section
variable {w p:Nat→Nat} {M:Nat} {ou:Nat→Nat}
def Spec (ou:Nat→Nat):Nat→Nat→Fo→Prop
 |_,_,.nil=>True
 |k,o,.node f g=>ou k=o∧Spec ou (k+1) k f∧Spec ou (k+1+f.sz) o g
def Step (w p:Nat→Nat) (M:Nat) (ou:Nat→Nat) (m:Nat) (R R':Nat→List (List Nat)):Prop:=
 ∃ b A',Ch w p M [m] (R m) b A'∧Mix (b::A') (R (ou m)) (R' (ou m))∧Down w p M (R' (ou m))∧∀ j,j≠m→j≠ou m→R' j=R j
inductive Run (w p:Nat→Nat) (M:Nat) (ou:Nat→Nat) (k:Nat):Nat→(Nat→List (List Nat))→(Nat→List (List Nat))→Prop
 |nil {R:Nat→List (List Nat)}:Run w p M ou k k R R
 |cons {m:Nat} {R R' R'':Nat→List (List Nat)}:k≤m→Step w p M ou m R R'→Run w p M ou k m R' R''→Run w p M ou k (m+1) R R''
theorem Run.split {k l m:Nat} {R R':Nat→List (List Nat)} (h:Run w p M ou k m R R'):k≤l→l≤m→∃ S,Run w p M ou l m R S∧Run w p M ou k l S R':=by
 induction h with
 |nil=>
  intro h1 h2;obtain rfl:=Nat.le_antisymm h1 h2;exact ⟨_,.nil,.nil⟩
 |@cons m R R' R'' h hs hr ih=>
  intro h1 h2;rcases Nat.lt_or_eq_of_le h2 with h3|rfl
  ·obtain ⟨S,s1,s2⟩:=ih h1 (Nat.le_of_lt_succ h3);exact ⟨S,.cons (Nat.le_of_lt_succ h3) hs s1,s2⟩
  ·exact ⟨R,.nil,.cons h hs hr⟩
theorem Run.one {k:Nat} {R R':Nat→List (List Nat)} (h:Run w p M ou k (k+1) R R'):Step w p M ou k R R':=by
 generalize e:k+1=m at h;cases h with
 |nil=>omega
 |@cons m R _ R'' _ hs hr=>
  obtain rfl:=Nat.succ.inj e;generalize e2:k=m at hr;cases hr with
  |nil=>exact e2▸hs
  |cons h _ _=>omega
theorem out_mono {k l c d o:Nat} (h:o<k∨c≤o) (h1:k≤l) (h2:d≤c):o<l∨d≤o:=h.imp (fun q=>Qh q h1) (Qy h2)
theorem out_ne {k c o x:Nat} (h:o<k∨c≤o) (h1:k≤x) (h2:x<c):x≠o:=fun e=>h.elim (fun q=>Ww h1 (e▸q)) fun q=>Ww q (e▸h2)
theorem sz_node {f g:Fo} (k:Nat):k+(Fo.node f g).sz=k+1+f.sz+g.sz:=by show k+(f.sz+1+g.sz)=_;omega
theorem run_BL:∀ {F:Fo} {k o:Nat} {R R':Nat→List (List Nat)},Spec ou k o F→(o<k∨k+F.sz≤o)→Run w p M ou k (k+F.sz) R R'→R o=[]→(∀ j,k≤j→j<k+F.sz→R j=[])→BL w p M k F (R' o)∧∀ j,j≠o→(j<k∨k+F.sz≤j)→R' j=R j
 |.nil,k,o,R,R',_,_,hr,ho,_=>by
  obtain rfl:R=R':=by
   generalize e:k+Fo.nil.sz=m at hr;cases hr with
   |nil=>rfl
   |cons h _ _=>exact absurd (Qh (Nat.lt_succ_self _) (Nat.le_of_eq (Eq.symm e))) (Ww h)
  rw [ho];exact ⟨.nil,fun _ _ _=>rfl⟩
 |.node f g,k,o,R,R',⟨e,sf,sg⟩,hk,hr,ho,hj=>by
  have es:=sz_node (f:=f) (g:=g) k;have u1:=Nat.le_add_right (k+1) f.sz;have u2:=Nat.le_add_right (k+1+f.sz) g.sz;have u3:=Qy (Nat.le_succ k) u1;have uc:k<_:=Qh u1 u2;rw [es] at hr hj hk;obtain ⟨S,h1,hr⟩:=hr.split (l:=k+1+f.sz) u3 u2;obtain ⟨S2,h2,hr⟩:=hr.split (l:=k+1) (Nat.le_succ k) u1;obtain ⟨g1,g2⟩:=run_BL sg (out_mono hk u3 (Nat.le_refl _)) h1 ho fun j q1 q2=>hj j (Qy u3 q1) q2;obtain ⟨f1,f2⟩:=run_BL sf (.inl (Nat.lt_succ_self k)) h2 ((g2 k (out_ne hk (Nat.le_refl _) uc) (.inl u1)).trans (hj k (Nat.le_refl _) uc)) fun j q1 q2=>
   have v1:=Nat.le_of_succ_le q1;have v2:=Qh q2 u2
   (g2 j (out_ne hk v1 v2) (.inl q2)).trans (hj j v1 v2)
  obtain ⟨b,A',c1,c2,c3,c4⟩:=hr.one;rw [e] at c2 c3 c4;rw [f2 o (out_ne hk (Nat.le_refl _) uc).symm (out_mono hk (Nat.le_succ k) u2)] at c2;refine ⟨.node f1 g1 c1 c2 c3,fun j q1 q2=>?_⟩;rw [es] at q2;have v:=(out_ne q2 (Nat.le_refl _) uc).symm;rw [c4 j v q1,f2 j v (out_mono q2 (Nat.le_succ k) u2),g2 j q1 (out_mono q2 u3 (Nat.le_refl _))]
@[reducible] def Beh (ou:Nat→Nat) (o:Nat) (π:List Nat):Prop:=∀ a x b,π=a++x::b→ou x=o∨ou x∈a
theorem spec_in:∀ {F:Fo} {k o x:Nat},Spec ou k o F→k≤x→x<k+F.sz→ou x=o∨(k≤ou x∧ou x<x)
 |.nil,k,o,x,_,h1,h2=>absurd h2 (Ww h1)
 |.node f g,k,o,x,⟨e,sf,sg⟩,h1,h2=>by
  rw [sz_node] at h2
  by_cases q:x=k
  ·exact .inl (q▸e)
  ·by_cases q2:x<k+1+f.sz
   ·have x1:k<x:=Nat.lt_of_le_of_ne h1 (Ne.symm q);exact .inr ((spec_in sf x1 q2).elim (fun e=>⟨Nat.le_of_eq e.symm,Nat.lt_of_le_of_lt (Nat.le_of_eq e) x1⟩) fun h=>⟨Nat.le_of_succ_le h.1,h.2⟩)
   ·exact (spec_in sg (Nat.not_lt.mp q2) h2).imp id fun h=>⟨Qy (Qy (Nat.le_succ k) (Nat.le_add_right ..)) h.1,h.2⟩
theorem spec_bd {k b x y:Nat} (h:y=k∨(k+1≤y∧y<x)) (hx:x<b) (hk:k<b):k≤y∧y<b:=h.elim (fun e=>by subst e;exact ⟨Nat.le_refl _,hk⟩) fun h=>⟨Nat.le_of_succ_le h.1,Nat.lt_trans h.2 hx⟩
theorem LE.of:∀ {F:Fo} {k o:Nat} {π:List Nat},Spec ou k o F→(o<k∨k+F.sz≤o)→(∀ x,x∈π↔k≤x∧x<k+F.sz)→π.Nodup→Beh ou o π→LE k F π
 |.nil,k,o,π,_,_,hm,_,_=>List.eq_nil_iff_forall_not_mem.mpr fun x hx=>Ww ((hm x).mp hx).1 ((hm x).mp hx).2
 |.node f g,k,o,π,⟨e,sf,sg⟩,hk,hm,hn,hb=>by
  have es:=sz_node (f:=f) (g:=g) k;have u1:=Nat.le_add_right (k+1) f.sz;have u2:=Nat.le_add_right (k+1+f.sz) g.sz;have u3:=Qy (Nat.le_succ k) u1;have uc:k<_:=Qh u1 u2;rw [es] at hm hk
  let q:Nat→Bool:=fun x=>decide (x<k+1+f.sz)
  have hmix:=Mix.filter q π;have part:∀ {r:Nat→Bool} {a b:List Nat} {x:Nat},π.filter r=a++x::b→ou x=o∨(ou x∈π∧(r (ou x)=true→ou x∈a)):=by
   intro r a b x he;obtain ⟨P,S,rfl,e1,e2⟩:=List.filter_eq_append_iff.mp he;obtain ⟨P2,S2,rfl,e3,e4,e5⟩:=List.filter_eq_cons_iff.mp e2;rcases hb (P++P2) x S2 (by rw [List.append_assoc]) with h|h
   ·exact .inl h
   ·refine .inr ⟨List.mem_append.mpr ((Wx h).imp id (List.mem_append_left _)),fun hr=>?_⟩;rcases Wx h with h|h
    ·rw [←e1];exact List.mem_filter.mpr ⟨h,hr⟩
    ·exact absurd hr (e3 _ h)
  have hin:∀ x,x∈π.filter q↔k≤x∧x<k+1+f.sz:=fun x=>by
   rw [List.mem_filter,hm,decide_eq_true_eq];exact ⟨fun h=>⟨h.1.1,h.2⟩,fun h=>⟨⟨h.1,Qh h.2 u2⟩,h.2⟩⟩
  have hout:∀ x,x∈π.filter (fun x=>!q x)↔k+1+f.sz≤x∧x<k+1+f.sz+g.sz:=fun x=>by
   rw [List.mem_filter,hm,Bool.not_eq_true',decide_eq_false_iff_not];exact ⟨fun h=>⟨Nat.not_lt.mp h.2,h.1.2⟩,fun h=>⟨⟨Qy u3 h.1,h.2⟩,Ww h.1⟩⟩
  have hg:LE (k+1+f.sz) g (π.filter fun x=>!q x):=by
   refine LE.of sg (out_mono hk u3 (Nat.le_refl _)) hout (hn.filter _) fun a x b he=>?_;rcases part he with h|⟨h1,h2⟩
   ·exact .inl h
   ·have hx:=(hout x).mp (by rw [he];exact List.mem_append_right _ (Qk ..));have hs:=spec_in sg hx.1 hx.2;rcases hs with h|h
    ·exact .inl h
    ·exact .inr (h2 (by rw [Bool.not_eq_true',decide_eq_false_iff_not];exact Ww h.1))
  have hkin:k∈π.filter q:=(hin k).mpr ⟨Nat.le_refl _,u1⟩;cases hc:π.filter q with
  |nil=>rw [hc] at hkin;exact absurd hkin (List.not_mem_nil)
  |cons x a=>
   have hx:=(hin x).mp (by rw [hc];exact Qk ..);have hxk:x=k:=by
    refine Decidable.byContradiction fun hne=>?_;have hs:=spec_bd (spec_in sf (Nat.lt_of_le_of_ne hx.1 (Ne.symm hne)) hx.2) hx.2 u1;rcases part (a:=[]) hc with h|⟨_,h2⟩
    ·exact out_ne hk hs.1 (Qh hs.2 u2) h
    ·exact absurd (h2 (decide_eq_true hs.2)) (List.not_mem_nil)
   rw [hxk] at hc;have hna:(k::a).Nodup:=hc▸hn.filter q;refine ⟨a,_,LE.of sf (.inl (Nat.lt_succ_self k)) (fun y=>?_) (List.nodup_cons.mp hna).2 (fun c y b he=>?_),hg,hc▸hmix⟩
   ·have h1:=hin y;rw [hc,List.mem_cons] at h1;have h2:=(List.nodup_cons.mp hna).1
    constructor
    ·intro hy;have:=h1.mp (.inr hy);exact ⟨Nat.lt_of_le_of_ne this.1 fun e=>h2 (e▸hy),this.2⟩
    ·intro hy;rcases h1.mpr ⟨Nat.le_of_succ_le hy.1,hy.2⟩ with rfl|h
     ·exact absurd hy.1 (Nat.not_succ_le_self _)
     ·exact h
   ·have hy:=(hin y).mp (by rw [hc,he];exact Qj _ (List.mem_append_right _ (Qk ..)));have hne:y≠k:=fun e=>(List.nodup_cons.mp hna).1 (by rw [he,←e];exact List.mem_append_right _ (Qk ..));have hs:=spec_bd (spec_in sf (Nat.lt_of_le_of_ne hy.1 (Ne.symm hne)) hy.2) hy.2 u1;rcases part (a:=k::c) (b:=b) (x:=y) (by rw [hc,he];rfl) with h|⟨_,h2⟩
    ·exact absurd h (out_ne hk hs.1 (Qh hs.2 u2))
    ·rcases Wy (h2 (decide_eq_true hs.2)) with h|h
     ·exact .inl h
     ·exact .inr h
theorem LE.beh:∀ {F:Fo} {k o:Nat} {π:List Nat},Spec ou k o F→LE k F π→Beh ou o π
 |.nil,_,_,_,_,h=>by rw [show _=[] from h];intro a x b e;exact absurd e (by simp)
 |.node f g,k,o,π,⟨e,sf,sg⟩,⟨a,b,h1,h2,h3⟩=>by
  have ia:=LE.beh sf h1;have ib:=LE.beh sg h2;have ik:Beh ou o (k::a):=fun c x d he=>by
   cases c with
   |nil=>injection he with h _;exact .inl (h▸e)
   |cons z c=>
    injection he with e1 e2
    rcases ia c x d e2 with h|h
    ·exact .inr (List.mem_cons.mpr (.inl (h.trans e1)))
    ·exact .inr (Qj _ h)
  have gen:∀ {A B C:List Nat},Mix A B C→(∀ P,(∀ c x d,A=c++x::d→ou x=o∨ou x∈P++c)→(∀ c x d,B=c++x::d→ou x=o∨ou x∈P++c)→∀ c x d,C=c++x::d→ou x=o∨ou x∈P++c):=by
   intro A B C h
   induction h with
   |nil=>intro P _ _ c x d he;exact absurd he (by simp)
   |@l A B C y h ih=>
    intro P hA hB c x d he;cases c with
    |nil=>injection he with h _;exact hA [] x A (by rw [h];rfl)
    |cons z c=>
     injection he with e1 e2
     have:=ih (P++[y]) (fun c x d e=>by rw [List.append_assoc];exact hA (y::c) x d (by rw [e];rfl)) (fun c x d e=>(hB c x d e).imp id fun q=>by
      rw [List.append_assoc];exact (Wx q).elim (List.mem_append_left _) fun q=>List.mem_append_right _ (Qj _ q)) c x d e2
     rw [List.append_assoc] at this;rw [←e1];exact this
   |@r A B C y h ih=>
    intro P hA hB c x d he;cases c with
    |nil=>injection he with h _;exact hB [] x B (by rw [h];rfl)
    |cons z c=>
     injection he with e1 e2
     have:=ih (P++[y]) (fun c x d e=>(hA c x d e).imp id fun q=>by
      rw [List.append_assoc];exact (Wx q).elim (List.mem_append_left _) fun q=>List.mem_append_right _ (Qj _ q)) (fun c x d e=>by rw [List.append_assoc];exact hB (y::c) x d (by rw [e];rfl)) c x d e2
     rw [List.append_assoc] at this;rw [←e1];exact this
  exact fun c x d he=>gen h3 [] (fun c x d e=>ik c x d e) (fun c x d e=>ib c x d e) c x d he
end
end
section
def dyN:Nat→List Bool→Option Nat
 |h,[]=>some h
 |h,true::r=>dyN (h+1) r
 |0,false::_=>none
 |h+1,false::r=>dyN h r
def dyk:Nat→Nat→List (List Bool)
 |0,0=>[[]]
 |0,_+1=>[]
 |n+1,0=>(dyk n 1).map (true::·)
 |n+1,h+1=>(dyk n (h+2)).map (true::·)++(dyk n h).map (false::·)
theorem dyk_mem:∀ (b:List Bool) (h:Nat),dyN h b=some 0→b∈dyk b.length h
 |[],h,e=>by obtain rfl:h=0:=Qw e;exact List.mem_singleton.mpr rfl
 |true::b,0,e=>List.mem_map.mpr ⟨b,dyk_mem b 1 e,rfl⟩
 |true::b,h+1,e=>List.mem_append_left _ (List.mem_map.mpr ⟨b,dyk_mem b (h+2) e,rfl⟩)
 |false::b,h+1,e=>List.mem_append_right _ (List.mem_map.mpr ⟨b,dyk_mem b h e,rfl⟩)
def stB (b:List Bool):List Nat:=(List.range 12).filter fun k=>b.getD k false
def cutB (b:List Bool) (i m:Nat):List Bool:=(b.take (i+2*m+2)).drop i
def clB (b:List Bool) (i:Nat):Nat:=((List.range 6).find? fun m=>dyN 0 (cutB b i m)==some 0).getD 6
def enB (b:List Bool):List Nat:=(stB b).map fun i=>i+2*clB b i+1
def stepB (s:List Int×List Int) (x:Bool):List Int×List Int:=if x then (s.1++[s.2.getLastD 0],s.2++[(s.1.length:Int)]) else (s.1,s.2.dropLast)
def nstB (b:List Bool):List Int×List Int:=b.foldl stepB ([],[-1])
def olB (b:List Bool):List Int:=(nstB b).1
def candB (b:List Bool) (one:Nat):List Int:=-1::((List.range one).filter fun two=>decide ((enB b).getD one 0<(enB b).getD two 0)).map fun k:Nat=>(k:Int)
def pf:Nat→List Bool→Fo×List Bool
 |n+1,true::r=>let x:=pf n r;let y:=pf n (x.2.drop 1);(.node x.1 y.1,y.2)
 |_,l=>(.nil,l)
def foB (b:List Bool):Fo:=(pf 12 b).1
def specB (ou:Nat→Nat):Nat→Nat→Fo→Bool
 |_,_,.nil=>true
 |k,o,.node f g=>ou k==o&&specB ou (k+1) k f&&specB ou (k+1+f.sz) o g
theorem specB_ok {ou:Nat→Nat}:∀ {F:Fo} {k o:Nat},specB ou k o F=true→Spec ou k o F
 |.nil,_,_,_=>trivial
 |.node f g,k,o,h=>by
  unfold specB at h;rw [Bool.and_eq_true,Bool.and_eq_true,beq_iff_eq] at h;exact ⟨h.1.1,specB_ok h.1.2,specB_ok h.2⟩
def ouB (l:List Int) (k:Nat):Nat:=if l.getD k 0<0 then 6 else (l.getD k 0).toNat
@[reducible] def FactB (b:List Bool):Prop:=
 ((stB b).length=6∧(stB b).head?=some 0∧(olB b).length=6)∧(∀ i∈stB b,i+2*clB b i+1<12∧dyN 0 (cutB b i (clB b i))=some 0∧∀ m<clB b i,dyN 0 (cutB b i m)≠some 0)∧
 (∀ k<6,((olB b).getD k 0∈candB b k∧∀ a∈candB b k,a≤(olB b).getD k 0)∧(-1≤(olB b).getD k 0∧(olB b).getD k 0<k))∧
 (∀ k<12,(nstB (b.take k)).2≠[]∧(nstB (b.take k)).1.length≤100∧(nstB (b.take k)).2.length≤100)∧(foB b).sz=6∧specB (ouB (olB b)) 0 6 (foB b)=true
theorem fact_all:∀ b∈dyk 12 0,FactB b:=by decide +kernel
theorem fact_of {b:List Bool} (hl:b.length=12) (h:dyN 0 b=some 0):FactB b:=fact_all b (hl▸dyk_mem b 0 h)
end
section
def bt (S x:Nat):Bool:=S/2^x % 2==1
theorem bt_lt:∀ {S x:Nat},S<64→bt S x=true→x<6:=fun {S x} h e=>by
 refine Decidable.byContradiction fun q=>?_;have:S/2^x=0:=Nat.div_eq_of_lt (Qh h (Nat.pow_le_pow_right (by decide:0<2) (Nat.le_of_not_lt q)));unfold bt at e;rw [this] at e;exact absurd e (by decide)
theorem bt_add:∀ S<64,∀ x<6,bt S x=false→S<S+2^x∧S+2^x<64∧∀ y<6,bt (S+2^x) y=(y==x||bt S y):=by decide +kernel
theorem bt_full:∀ S<64,(∀ x<6,bt S x=true)→S=63:=by decide +kernel
theorem bt_63:∀ x<6,bt 63 x=true:=by decide
theorem gset {l:List Int} {i j:Nat} {v:Int} (h:i<l.length):(l.set i v).getD j 0=if i=j then v else l.getD j 0:=by
 rw [Qd,List.getElem?_set,Qd]
 by_cases q:i=j
 ·rw [if_pos q,if_pos q,if_pos h];rfl
 ·rw [if_neg q,if_neg q]
section
variable {w p ou:Nat→Nat} {room:Nat}
def fr (ou:Nat→Nat) (S x:Nat):Bool:=!bt S x&&(ou x==6||bt S (ou x))
def col (p:Nat→Nat) (room S:Nat):Nat:=room+sm p ((List.range 6).filter (bt S))
def inc (w p:Nat→Nat) (room S x:Nat):Int:=((w x*(col p room S+p x):Nat):Int)
def dpT (w p ou:Nat→Nat) (room S:Nat) (best:List Int) (x:Nat):List Int:=
 if fr ou S x&&!(decide (0≤best.getD (S+2^x) 0)&&decide (best.getD (S+2^x) 0≤best.getD S 0+inc w p room S x)) then best.set (S+2^x) (best.getD S 0+inc w p room S x) else best
def dpS (w p ou:Nat→Nat) (room:Nat) (best:List Int) (S:Nat):List Int:=
 if best.getD S 0<0 then best else (List.range 6).foldl (dpT w p ou room S) best
def dp (w p ou:Nat→Nat) (room k:Nat):List Int:=(List.range k).foldl (dpS w p ou room) (0::List.replicate 63 (-1))
def costR (w p:Nat→Nat) (room:Nat) (π:List Nat):Nat:=room*sm w π+cst w p π
@[reducible] def Cov (ou:Nat→Nat) (S:Nat) (π:List Nat):Prop:=π.Nodup∧(∀ x,x∈π↔x<6∧bt S x=true)∧Beh ou 6 π
theorem costR_snoc (π:List Nat) (x:Nat):costR w p room (π++[x])=costR w p room π+w x*(room+sm p π+p x):=by
 unfold costR;rw [cst_app,sm_app,cst_cons,sm_cons,show sm w []=0 from rfl,show cst w p []=0 from rfl,Nat.add_zero,Nat.add_zero,Nat.mul_add,Nat.mul_add,Nat.mul_add,Nat.mul_comm (w x) room,Nat.mul_comm (w x) (sm p π),Nat.mul_comm (w x) (p x),Nat.add_assoc (cst w p π),Nat.add_assoc (room*w x)];exact Nat.add_add_add_comm ..
theorem col_of {S:Nat} {π:List Nat} (h:Cov ou S π):col p room S=room+sm p π:=by
 unfold col;refine congrArg (room+·) (sm_perm p ((List.perm_ext_iff_of_nodup (List.nodup_range.filter _) h.1).mpr fun x=>?_));rw [List.mem_filter,List.mem_range,h.2.1]
theorem cov_add {S x:Nat} {π:List Nat} (hS:S<64) (hx:x<6) (hf:fr ou S x=true) (h:Cov ou S π):Cov ou (S+2^x) (π++[x]):=by
 unfold fr at hf;rw [Bool.and_eq_true,Bool.not_eq_true',Bool.or_eq_true,beq_iff_eq] at hf;have hn:x∉π:=fun q=>by rw [((h.2.1 x).mp q).2] at hf;exact absurd hf.1 (by decide)
 refine ⟨List.nodup_append.mpr ⟨h.1,List.nodup_cons.mpr ⟨List.not_mem_nil,List.nodup_nil⟩,fun a ha b hb=>fun e=>hn (by rw [←Wz hb,←e];exact ha)⟩,fun y=>?_,fun a y b e=>?_⟩
 ·rw [List.mem_append,List.mem_singleton,h.2.1]
  constructor
  ·rintro (⟨h1,h2⟩|rfl)
   ·exact ⟨h1,by rw [(bt_add S hS x hx hf.1).2.2 y h1,h2,Bool.or_true]⟩
   ·exact ⟨hx,by rw [(bt_add S hS _ hx hf.1).2.2 _ hx,beq_self_eq_true,Bool.true_or]⟩
  ·rintro ⟨h1,h2⟩;rw [(bt_add S hS x hx hf.1).2.2 y h1,Bool.or_eq_true,beq_iff_eq] at h2;exact h2.symm.imp (fun q=>⟨h1,q⟩) id
 ·rcases List.append_eq_append_iff.mp e with ⟨c,e1,e2⟩|⟨c,e1,e2⟩
  ·cases c with
   |nil=>
    rw [List.append_nil] at e1;injection e2 with e2 _
    rw [←e2,e1];exact hf.2.imp id fun q=>(h.2.1 _).mpr ⟨bt_lt hS q,q⟩
   |cons z c=>injection e2 with _ e2;exact absurd e2 (by simp)
  ·cases c with
   |nil=>
    rw [List.append_nil] at e1;injection e2 with e2 _
    rw [e2,←e1];exact hf.2.imp id fun q=>(h.2.1 _).mpr ⟨bt_lt hS q,q⟩
   |cons z c=>
    injection e2 with e2 e3
    exact h.2.2 a y c (by rw [e1,e2])
@[reducible] def Ok1 (w p ou:Nat→Nat) (room:Nat) (best:List Int):Prop:=best.length=64∧∀ S<64,0≤best.getD S 0→∃ π,Cov ou S π∧best.getD S 0=costR w p room π
@[reducible] def Dec (best b2:List Int):Prop:=∀ i,0≤best.getD i 0→0≤b2.getD i 0∧b2.getD i 0≤best.getD i 0
theorem Dec.trans {a b c:List Int} (h:Dec a b) (g:Dec b c):Dec a c:=fun i q=>⟨(g i (h i q).1).1,Int.le_trans (g i (h i q).1).2 (h i q).2⟩
theorem dpT_ok {S x:Nat} {best:List Int} (hS:S<64) (hx:x<6) (h:Ok1 w p ou room best) (h0:0≤best.getD S 0):Ok1 w p ou room (dpT w p ou room S best x)∧Dec best (dpT w p ou room S best x)∧(∀ i,i≤S→(dpT w p ou room S best x).getD i 0=best.getD i 0)∧
  (fr ou S x=true→0≤(dpT w p ou room S best x).getD (S+2^x) 0∧(dpT w p ou room S best x).getD (S+2^x) 0≤best.getD S 0+inc w p room S x):=by
 have hi:0≤inc w p room S x:=Int.natCast_nonneg _;unfold dpT;cases hf:fr ou S x with
 |false=>exact ⟨h,fun i q=>⟨q,Int.le_refl _⟩,fun _ _=>rfl,nofun⟩
 |true=>
  have hbit:bt S x=false:=by unfold fr at hf;rw [Bool.and_eq_true,Bool.not_eq_true'] at hf;exact hf.1
  obtain ⟨b1,b2,b3⟩:=bt_add S hS x hx hbit;rw [Bool.true_and]
  by_cases q:0≤best.getD (S+2^x) 0∧best.getD (S+2^x) 0≤best.getD S 0+inc w p room S x
  ·rw [decide_eq_true q.1,decide_eq_true q.2];exact ⟨h,fun i q=>⟨q,Int.le_refl _⟩,fun _ _=>rfl,fun _=>q⟩
  ·rw [if_pos (by rw [←Bool.decide_and,decide_eq_false q];rfl)];have hl:S+2^x<best.length:=by rw [h.1];exact b2
   refine ⟨⟨(List.length_set ..).trans h.1,fun T hT hp=>?_⟩,fun i hp=>?_,fun i hp=>?_,fun _=>?_⟩
   ·rw [gset hl] at hp⊢
    by_cases e:S+2^x=T
    ·obtain ⟨π,c1,c2⟩:=h.2 S hS h0;refine ⟨π++[x],e▸cov_add hS hx hf c1,?_⟩;rw [if_pos e,costR_snoc,←col_of c1,c2,Int.natCast_add];rfl
    ·rw [if_neg e] at hp⊢;exact h.2 T hT hp
   ·rw [gset hl]
    by_cases e:S+2^x=i
    ·rw [if_pos e];rw [←e] at hp⊢;exact ⟨Int.add_nonneg h0 hi,Int.le_of_lt (Int.not_le.mp fun z=>q ⟨hp,z⟩)⟩
    ·rw [if_neg e];exact ⟨hp,Int.le_refl _⟩
   ·rw [gset hl,if_neg (Nat.ne_of_gt (Nat.lt_of_le_of_lt hp b1))]
   ·rw [gset hl,if_pos rfl];exact ⟨Int.add_nonneg h0 hi,Int.le_refl _⟩
theorem dpI_ok {S:Nat} {best:List Int} (hS:S<64) (h:Ok1 w p ou room best) (h0:0≤best.getD S 0):∀ k,k≤6→Ok1 w p ou room ((List.range k).foldl (dpT w p ou room S) best)∧Dec best ((List.range k).foldl (dpT w p ou room S) best)∧(∀ i,i≤S→((List.range k).foldl (dpT w p ou room S) best).getD i 0=best.getD i 0)∧
  ∀ x,x<k→fr ou S x=true→0≤((List.range k).foldl (dpT w p ou room S) best).getD (S+2^x) 0∧((List.range k).foldl (dpT w p ou room S) best).getD (S+2^x) 0≤best.getD S 0+inc w p room S x
 |0,_=>⟨h,fun i q=>⟨q,Int.le_refl _⟩,fun _ _=>rfl,fun x hx=>absurd hx (Nat.not_lt_zero _)⟩
 |k+1,hk=>by
  obtain ⟨a1,a2,a3,a4⟩:=dpI_ok hS h h0 k (Nat.le_of_succ_le hk);rw [List.range_succ,List.foldl_append];generalize (List.range k).foldl (dpT w p ou room S) best=b at a1 a2 a3 a4;have e:=a3 S (Nat.le_refl _);obtain ⟨c1,c2,c3,c4⟩:=dpT_ok hS (x:=k) hk a1 (e▸h0);rw [e] at c4;refine ⟨c1,a2.trans c2,fun i hi=>(c3 i hi).trans (a3 i hi),fun x hx hf=>?_⟩;rcases Nat.lt_or_eq_of_le (Nat.le_of_lt_succ hx) with q|rfl
  ·have:=a4 x q hf;have d:=c2 _ this.1;exact ⟨d.1,Int.le_trans d.2 this.2⟩
  ·exact c4 hf
theorem dp_step (k:Nat):dp w p ou room (k+1)=dpS w p ou room (dp w p ou room k) k:=by unfold dp;rw [List.range_succ,List.foldl_append];rfl
theorem dp_ok:∀ k,k≤64→Ok1 w p ou room (dp w p ou room k)∧(0≤(dp w p ou room k).getD 0 0∧(dp w p ou room k).getD 0 0≤0)∧
  ∀ S,S<k→0≤(dp w p ou room k).getD S 0→∀ x,x<6→fr ou S x=true→0≤(dp w p ou room k).getD (S+2^x) 0∧(dp w p ou room k).getD (S+2^x) 0≤(dp w p ou room k).getD S 0+inc w p room S x
 |0,_=>by
  refine ⟨⟨rfl,fun S hS h=>?_⟩,⟨Int.le_refl _,Int.le_refl _⟩,fun S hS=>absurd hS (Nat.not_lt_zero _)⟩;cases S with
  |zero=>exact ⟨[],⟨List.nodup_nil,fun x=>⟨fun q=>(nomatch q),fun q=>absurd q.2 (by unfold bt;rw [Nat.zero_div];decide)⟩,fun a x b e=>absurd e (by simp)⟩,rfl⟩
  |succ S=>
   refine absurd h ?_;show ¬0≤(0::List.replicate 63 (-1:Int)).getD (S+1) 0;rw [List.getD_cons_succ,Qd,List.getElem?_replicate,if_pos (Nat.lt_of_succ_lt_succ hS)]
   decide
 |k+1,hk=>by
  obtain ⟨a1,a2,a3⟩:=dp_ok k (Nat.le_of_succ_le hk);rw [dp_step];generalize dp w p ou room k=b at a1 a2 a3;unfold dpS
  by_cases q:b.getD k 0<0
  ·rw [if_pos q];refine ⟨a1,a2,fun S hS h=>?_⟩;rcases Nat.lt_or_eq_of_le (Nat.le_of_lt_succ hS) with e|rfl
   ·exact a3 S e h
   ·exact absurd h (Int.not_le.mpr q)
  ·rw [if_neg q];obtain ⟨c1,c2,c3,c4⟩:=dpI_ok (S:=k) hk a1 (Int.not_lt.mp q) 6 (Nat.le_refl _);generalize (List.range 6).foldl (dpT w p ou room k) b=b2 at c1 c2 c3 c4;refine ⟨c1,by rw [c3 0 (Nat.zero_le _)];exact a2,fun S hS h x hx hf=>?_⟩;rw [c3 S (Nat.le_of_lt_succ hS)] at h⊢;rcases Nat.lt_or_eq_of_le (Nat.le_of_lt_succ hS) with e|rfl
   ·have:=a3 S e h x hx hf;have d:=c2 _ this.1;exact ⟨d.1,Int.le_trans d.2 this.2⟩
   ·exact c4 x hx hf
theorem least_ok:(∃ π,π.Nodup∧(∀ x,x∈π↔x<6)∧Beh ou 6 π)→∃ π,(π.Nodup∧(∀ x,x∈π↔x<6)∧Beh ou 6 π)∧(dp w p ou room 64).getD 63 0=costR w p room π∧∀ π',π'.Nodup→(∀ x,x∈π'↔x<6)→Beh ou 6 π'→costR w p room π≤costR w p room π':=by
 intro hex;obtain ⟨a1,a2,a3⟩:=dp_ok (w:=w) (p:=p) (ou:=ou) (room:=room) 64 (Nat.le_refl _);generalize dp w p ou room 64=b at a1 a2 a3;have walk:∀ π':List Nat,π'.Nodup→(∀ x,x∈π'↔x<6)→Beh ou 6 π'→∀ (a c:List Nat),π'=a++c→∃ S,S<64∧Cov ou S a∧0≤b.getD S 0∧b.getD S 0≤costR w p room a:=by
  intro π' h1 h2 h3 a;generalize ha:a.length=m
  induction m generalizing a with
  |zero=>
   intro c _;obtain rfl:=List.eq_nil_of_length_eq_zero ha;exact ⟨0,by decide,⟨List.nodup_nil,fun x=>⟨fun q=>(nomatch q),fun q=>absurd q.2 (by unfold bt;rw [Nat.zero_div];decide)⟩,fun a x b e=>absurd e (by simp)⟩,a2⟩
  |succ m ih=>
   intro c hc;have hne:a≠[]:=fun e=>by rw [e] at ha;exact absurd ha (by simp)
   obtain ⟨a',x,rfl⟩:∃ a' x,a=a'++[x]:=⟨a.dropLast,a.getLast hne,(List.dropLast_concat_getLast hne).symm⟩
   have hc':π'=a'++x::c:=by rw [hc,List.append_assoc];rfl
   obtain ⟨S,s1,s2,s3,s4⟩:=ih a' (by rw [Qu,List.length_singleton] at ha;exact Nat.succ.inj ha) _ hc';have hx:x<6:=(h2 x).mp (by rw [hc'];exact List.mem_append_right _ (Qk ..));have hxa:x∉a':=fun q=>by
    rw [hc'] at h1;exact (List.nodup_append.mp h1).2.2 x q x (Qk ..) rfl
   have hb:bt S x=false:=by
    cases e:bt S x with
    |false=>rfl
    |true=>exact absurd ((s2.2.1 x).mpr ⟨hx,e⟩) hxa
   have hf:fr ou S x=true:=by
    unfold fr;rw [hb,Bool.not_false,Bool.true_and,Bool.or_eq_true,beq_iff_eq];exact (h3 a' x c hc').imp id fun q=>((s2.2.1 _).mp q).2
   have k:=a3 S s1 s3 x hx hf;refine ⟨S+2^x,(bt_add S s1 x hx hb).2.1,cov_add s1 hx hf s2,k.1,Int.le_trans k.2 ?_⟩;rw [costR_snoc,←col_of s2,Int.natCast_add];exact Int.add_le_add_right s4 _
 have full:∀ {S:Nat} {π:List Nat},S<64→Cov ou S π→(∀ x,x∈π↔x<6)→S=63:=fun hS h h2=>bt_full _ hS fun x hx=>((h.2.1 x).mp ((h2 x).mpr hx)).2;obtain ⟨π1,p1,p2,p3⟩:=hex;obtain ⟨S,s1,s2,s3,s4⟩:=walk π1 p1 p2 p3 π1 [] (List.append_nil _).symm;obtain rfl:=full s1 s2 p2;obtain ⟨π,c1,c2⟩:=a1.2 63 (by decide) s3;refine ⟨π,⟨c1.1,fun x=>⟨fun q=>((c1.2.1 x).mp q).1,fun q=>(c1.2.1 x).mpr ⟨q,bt_63 x q⟩⟩,c1.2.2⟩,c2,fun π' q1 q2 q3=>?_⟩;obtain ⟨S,s1,s2,s3,s4⟩:=walk π' q1 q2 q3 π' [] (List.append_nil _).symm;obtain rfl:=full s1 s2 q2;rw [c2] at s4;exact Int.ofNat_le.mp s4
theorem horn_least {M:Nat} (hf:Fit p M) {F:Fo} {C:List (List Nat)} (hs:F.sz=6) (sp:Spec ou 0 6 F) (h:BL w p M 0 F C):(dp w p ou room 64).getD 63 0=costR w p room C.flatten∧C.flatten.Perm (List.range 6)∧Beh ou 6 C.flatten:=by
 obtain ⟨h1,h2,h3,h4⟩:=horn hf h (Nat.le_of_eq hs);have hp:C.flatten.Perm (List.range 6):=by have:=h1.perm;rw [hs] at this;exact this
 have hb:=h1.beh sp;have hn:C.flatten.Nodup:=hp.symm.nodup List.nodup_range;have hm:∀ x,x∈C.flatten↔x<6:=fun x=>hp.mem_iff.trans List.mem_range;obtain ⟨π,⟨q1,q2,q3⟩,e,q4⟩:=least_ok (w:=w) (p:=p) (ou:=ou) (room:=room) ⟨_,hn,hm,hb⟩;have hle:LE 0 F π:=LE.of sp (.inr (by omega)) (fun x=>by rw [q2,hs];omega) q1 q3;refine ⟨?_,hp,hb⟩;rw [e];refine congrArg Int.ofNat (Nat.le_antisymm (q4 _ hn hm hb) ?_);have hw:sm w C.flatten=sm w π:=sm_perm w (h1.perm.trans hle.perm.symm);unfold costR;rw [hw];exact Nat.add_le_add_left (h4 π hle).2 _
end
end
end Mine.Internal.L
end
section
open PySem PySem.W PyProof.Rows
set_option tactic.hygienic false
namespace Mine.Internal.L
local macro_rules |`(tactic|walk_at "look")=>`(tactic|first|((with_reducible apply look_filter_none);kernel_rfl)|((with_reducible apply look_filter);kernel_rfl;walk_at "look")|with_reducible exact look_hit ..|((with_reducible apply look_miss);kernel_rfl;walk_at "look")|with_reducible assumption)
local macro_rules |`(tactic|walk_at "side")=>`(tactic|first|with_reducible assumption|decide|omega)
local macro_rules |`(tactic|walk_at "tag")=>`(tactic|first|rfl|with_reducible assumption)
local macro_rules |`(tactic|walk_at "*")=>`(tactic|first
 |with_reducible assumption
 |((with_reducible change _=_);(first
  |((with_reducible change List.lookup _ _=_);walk_at "look")
  |((with_reducible first|change evOk _=_|change ownKind _=_);kernel_rfl)
  |((with_reducible first|apply kw_nil|apply kw_name|apply bind_name|apply bind_two|apply bind_three|apply bind_four)<;>walk_at "*")
  |(first|exact cmp_lt ..|exact cmp_le ..|exact cmp_gt ..|exact cmp_eqI ..|exact cmp_neI ..|exact cmp_isNN ..|exact cmp_isIN ..|exact cmp_isBN ..|exact cmp_isFN ..|exact cmp_isBB ..|exact cmp_isNotBB ..|exact bin_add ..|exact bin_sub ..)
  |((with_reducible first|apply bin_div|apply bin_mod|apply bin_mul|apply bin_pow)<;>walk_at "side")
  |walk_at "look"
  |kernel_rfl))
 |((with_reducible first|apply ev_Name|apply ev_CInt|apply evs_nil|apply evs_cons|apply ev_BinOp|apply ev_Cmp|apply chain_one|apply ev_CStr|apply ev_CBool|apply ev_CNone|apply ev_Tuple|apply ev_Slice|apply ev_Item|apply ev_FnC|apply evo_none|apply evo_some|apply tst_Not|apply tst_Cmp)<;>walk_at "*")
 |((with_reducible apply ev_UnaryOp);walk_at "*";rfl)
 |((with_reducible apply tst_plain);kernel_rfl;walk_at "*";walk_at "tag")
 |((with_reducible apply ev_Meth);kernel_rfl;walk_at "*";walk_at "tag";walk_at "*";walk_at "tag";walk_at "*")
 |((with_reducible apply ev_ListF);decide +kernel;walk_at "*")
 |((with_reducible apply ev_Blt)<;>walk_at "*")
 |((with_reducible apply ev_ListT);decide +kernel;walk_at "*"))
local macro_rules |`(tactic|walk_at "asg0")=>`(tactic|((with_reducible apply go_cons);(with_reducible apply go_Assign);kernel_rfl;kernel_rfl))
local macro_rules |`(tactic|walk_at "asg")=>`(tactic|(walk_at "asg0";walk_at "*";walk_at "*" ))
local macro_rules |`(tactic|walk_at "ret")=>`(tactic|((with_reducible apply go_cons);(with_reducible apply go_Return);walk_at "*" ))
local macro_rules |`(tactic|walk_at "call stmt")=>`(tactic|((with_reducible apply go_cons);(with_reducible apply go_Expr);kernel_rfl;walk_at "*" ))
local macro_rules |`(tactic|rfl')=>`(tactic|kernel_rfl)
local macro_rules |`(tactic|left)=>`(tactic|walk_at "*")
section
variable {lo:Nat} {σ σ':St} {ρ ρ':Rho}
theorem mid_is (l h:Nat):((l:Int)+h).fdiv 2=((l+h)/2:Nat):=mid_is' l h
noncomputable def KeyAt (C:Cfg) (σ:St) (kb:B) (v k:V):Prop:=match kb with
 |.val _=>False
 |.lam xp body s caps=>(okSc s&&canSet s xp&&!hostSc s)=true∧∃ w,(∀ n,20≤n→ev C n s σ.length body ((xp,.val v)::caps.map fun y=>(y.1,.val y.2)) σ w σ)∧frz σ σ.length 16 w=some k
noncomputable def isLam:B→Bool
 |.lam ..=>true
 |_=>false
theorem key_call {C:Cfg} {sc:Scope} {n:Nat} {kb:B} {v k:V} {e:Expr} {p q:Pos} (hl:isLam kb=true) (hk:KeyAt C σ kb v k) (hn:20≤n) (he:evs C n sc lo [e] ρ σ [v] σ) (ho:ownKind (kindIn sc ("key":Str))=true) (hr:ρ.lookup ("key":Str)=some kb):
  ev C (n+1) sc lo (.Call (.Name ("key":Str) q) [e] [] p) ρ σ k σ:=by
 cases kb with
 |val _=>cases hl
 |lam xp body s caps=>
  refine nb fun kk=>?_;obtain ⟨h1,w,h2,h3⟩:=hk;refine kk ?_;exact ev_Lam he ho hr h1 (h2 n hn) h3
@[reducible] noncomputable def LtV (σ:St) (a b:V) (z:Bool):Prop:=∀ {C:Cfg} {sc:Scope} {n lo:Nat} {r:Expr} {ρ:Rho},ev C n sc lo r ρ σ b σ→chain C (n+1) sc lo a [.Lt] [r] ρ σ z σ
@[reducible] noncomputable def GetAt (σ:St) (va:V) (i:Nat) (v:V):Prop:=∀ {C:Cfg} {sc:Scope} {n lo:Nat} {o x:Expr} {ρ:Rho} {p:Pos},evOk x=true→ev C n sc lo o ρ σ va σ→ev C n sc lo x ρ σ (.int i) σ→ev C (n+1) sc lo (.Subscript o x p) ρ σ v σ
@[reducible] noncomputable def BisEnv (va vx:V) (kb:B) (ρ:Rho):Prop:=ρ.lookup ("a":Str)=some (.val va)∧ρ.lookup ("x":Str)=some (.val vx)∧ρ.lookup ("key":Str)=some kb
@[reducible] noncomputable def LoHi (ρ:Rho) (l h:Nat):Prop:=ρ.lookup ("lo":Str)=some (.val (.int l))∧ρ.lookup ("hi":Str)=some (.val (.int h))
@[reducible] noncomputable def BisEnd (σ:St) (va vx:V) (kb:B) (r l h md:Nat) (fl:Fl) (ρ:Rho) (σ':St):Prop:=fl=.next∧σ'=σ∧BisEnv va vx kb ρ∧((md<r∧LoHi ρ (md+1) h)∨(r≤md∧LoHi ρ l md))
theorem bis_while {sc:Scope} {t:Expr} {body:List Stmt} {p:Pos} {va vx:V} {kb:B} {r h0 l0:Nat} (ht:∀ (n:Nat) (ρ:Rho) (l h:Nat),LoHi ρ l h→tst cfg (n+50) sc lo t ρ σ (decide (l<h)) σ)
  (hb:∀ (n:Nat) (ρ:Rho) (l h md:Nat),BisEnv va vx kb ρ→LoHi ρ l h→(l+h)/2=md→l0≤md→md<h0→Go (exs cfg (n+50) sc lo body ρ σ) (BisEnd σ va vx kb r l h md))
  (hr:l0≤r∧r≤h0) {ρ:Rho} (E:BisEnv va vx kb ρ) (hl:LoHi ρ l0 h0) {n:Nat} (hn:h0+60≤n):Go (ex cfg n sc lo (.While t body [] p) ρ σ) fun fl ρ' σ'=>fl=.next∧σ'=σ∧ρ'.lookup ("lo":Str)=some (.val (.int r)):=by
 refine nb fun kk=>?_;refine e11 (ge_ex (n:=n) (m:=1) (Qy (by decide) (Qy (Nat.le_add_left 60 h0) hn))) fun n qz1=>?_;obtain rfl:=qz1;refine kk ?_;refine go_While (N:=50) (fun m ρ σ'=>σ'=σ∧BisEnv va vx kb ρ∧∃ l h:Nat,(l0≤l∧l≤r∧r≤h∧h≤h0∧m=h-l)∧LoHi ρ l h) ?_ (h0-l0) n ρ σ (Qy (Nat.add_le_add_right (Nat.sub_le _ _) 50) (Qy (Nat.add_le_add_left (by decide) h0) (Nat.le_of_succ_le_succ hn))) ⟨rfl,E,l0,h0,⟨Nat.le_refl _,hr.1,hr.2,Nat.le_refl _,rfl⟩,hl⟩;rintro m n ρ σ' hn ⟨rfl,E,l,h,⟨h1,h2,h3,h4,rfl⟩,hl⟩;refine nb fun kk=>?_;refine e11 (ge_ex hn) fun n qz1=>?_;obtain rfl:=qz1;refine kk ?_
 by_cases hlt:l<h
 ·have m1:=mid_le hlt;have m2:=mid_lt hlt;refine .inr ⟨decide_eq_true hlt▸ht n ρ l h hl,(hb n ρ l h _ E hl rfl (Qy h1 m1) (Qh m2 h4)).mono ?_⟩;rintro fl ρ2 σ2 ⟨rfl,rfl,E2,⟨q,a⟩|⟨q,a⟩⟩
  ·exact ⟨.inl rfl,_,mid_a m1 m2,rfl,E2,_,h,⟨Qy h1 (Nat.le_succ_of_le m1),q,h3,h4,rfl⟩,a⟩
  ·exact ⟨.inl rfl,_,mid_b m1 m2,rfl,E2,l,_,⟨h1,h2,q,Wq (Qh m2 h4),rfl⟩,a⟩
 ·exact .inl ⟨decide_eq_false hlt▸ht n ρ l h hl,rfl,rfl,by rw [hl.1,show l=r from Nat.le_antisymm h2 (Qy h3 (Nat.le_of_not_lt hlt))]⟩
theorem lt_nat (l h:Nat):decide ((l:Int)<h)=decide (l<h):=by rw [decide_eq_decide];exact Int.ofNat_lt
noncomputable abbrev bsc:Scope:=(fnD pw "bisect_left").scope
theorem bsc_r:(fnD pw "bisect_right").scope=bsc:=by rfl'
@[reducible] noncomputable def TstAt (lo:Nat) (σ:St) (va vx:V) (kb:B) (h0:Nat) (t:Expr) (z:Nat→Bool):Prop:=∀ (n:Nat) (ρ:Rho) (md:Nat),BisEnv va vx kb ρ→ρ.lookup ("mid":Str)=some (.val (.int md))→md<h0→tst cfg (n+40) bsc lo t ρ σ (z md) σ
@[reducible] noncomputable def StepAt (lo:Nat) (σ:St) (va vx:V) (kb:B) (h0 r:Nat) (st:Stmt):Prop:=∀ (n:Nat) (ρ:Rho) (l h md:Nat),BisEnv va vx kb ρ→LoHi ρ l h→ρ.lookup ("mid":Str)=some (.val (.int md))→md<h0→Go (ex cfg (n+45) bsc lo st ρ σ) (BisEnd σ va vx kb r l h md)
section
variable {p1 p2 p3 p4 p5 p6 p7 p8 p9 q1 q2 q3 q4 q5 q6 q7 q8 q9:Pos} {va vx:V} {kb:B} {h0 r:Nat} {t:Expr} {st W1 W2 R:Stmt} {k1 k2:Nat}
theorem turn_l (ht:TstAt lo σ va vx kb h0 t fun md=>decide (md<r)):StepAt lo σ va vx kb h0 r (.If t [.Assign [.Name ("lo":Str) p1] (.BinOp (.Name ("mid":Str) p2) .Add (.Constant (.int 1) k1 p3) p4) p5] [.Assign [.Name ("hi":Str) p6] (.Name ("mid":Str) p7) p8] p9):=fun n ρ l h md E hlh hm hmd=>by
 have hc:tst cfg (n+44) bsc lo t ρ σ (decide (md<r)) σ:=ht (n+4) ρ md E hm hmd;refine nb fun kk=>?_;obtain ⟨ha,hx,hk⟩:=E;obtain ⟨hl,hh⟩:=hlh;refine kk ?_
 by_cases q:md<r
 ·rw [decide_eq_true q] at hc;apply go_IfT hc;walk_at "asg";exact go_nil ⟨rfl,rfl,⟨by left,by left,by left⟩,.inl ⟨q,by left,by left⟩⟩
 ·rw [decide_eq_false q] at hc;apply go_IfF hc;walk_at "asg";exact go_nil ⟨rfl,rfl,⟨by left,by left,by left⟩,.inr ⟨Nat.le_of_not_lt q,by left,by left⟩⟩
theorem turn_r (ht:TstAt lo σ va vx kb h0 t fun md=>decide (r≤md)):StepAt lo σ va vx kb h0 r (.If t [.Assign [.Name ("hi":Str) p6] (.Name ("mid":Str) p7) p8] [.Assign [.Name ("lo":Str) p1] (.BinOp (.Name ("mid":Str) p2) .Add (.Constant (.int 1) k1 p3) p4) p5] p9):=fun n ρ l h md E hlh hm hmd=>by
 have hc:tst cfg (n+44) bsc lo t ρ σ (decide (r≤md)) σ:=ht (n+4) ρ md E hm hmd;refine nb fun kk=>?_;obtain ⟨ha,hx,hk⟩:=E;obtain ⟨hl,hh⟩:=hlh;refine kk ?_
 by_cases q:r≤md
 ·rw [decide_eq_true q] at hc;apply go_IfT hc;walk_at "asg";exact go_nil ⟨rfl,rfl,⟨by left,by left,by left⟩,.inr ⟨q,by left,by left⟩⟩
 ·rw [decide_eq_false q] at hc;apply go_IfF hc;walk_at "asg";exact go_nil ⟨rfl,rfl,⟨by left,by left,by left⟩,.inl ⟨Nat.lt_of_not_le q,by left,by left⟩⟩
@[reducible] noncomputable def LoopAt (lo:Nat) (σ:St) (va vx:V) (kb:B) (h0 r:Nat) (W:Stmt):Prop:=∀ (n:Nat) (ρ:Rho),h0+60≤n→BisEnv va vx kb ρ→LoHi ρ 0 h0→Go (ex cfg n bsc lo W ρ σ) fun fl ρ' σ'=>fl=.next∧σ'=σ∧ρ'.lookup ("lo":Str)=some (.val (.int r))
theorem loop_of (hr:r≤h0) (hs:StepAt lo σ va vx kb h0 r st):LoopAt lo σ va vx kb h0 r (.While (.Compare (.Name ("lo":Str) p1) [.Lt] [.Name ("hi":Str) p2] p3) [.Assign [.Name ("mid":Str) p4] (.BinOp (.BinOp (.Name ("lo":Str) p5) .Add (.Name ("hi":Str) p6) p7) .FloorDiv (.Constant (.int 2) k1 p8) p9) q1,st] [] q2):=fun n ρ hn E hl=>by
 refine bis_while (fun n ρ l h hlh=>?_) (fun n ρ l h md E hlh hmd _ q2=>?_) ⟨Nat.zero_le _,hr⟩ E hl hn
 ·obtain ⟨hl,hh⟩:=hlh;rw [←lt_nat];left
 ·obtain ⟨ha,hx,hk⟩:=E;refine nb fun kk=>?_;obtain ⟨hl,hh⟩:=hlh;refine kk ?_;walk_at "asg";rw [mid_is,hmd];refine go_cons ((hs _ _ l h md ⟨by left,by left,by left⟩ ⟨by left,by left⟩ (by left) q2).mono ?_);rintro fl ρ2 σ2 ⟨rfl,rfl,E2,a⟩;exact go_nil ⟨rfl,rfl,E2,a⟩
theorem ev_NameLam {C:Cfg} {sc:Scope} {n:Nat} {x:Str} {p:Pos} (hlam:isLam kb=true) (h:ownKind (kindIn sc x)=true) (h2:ρ.lookup x=some kb):ev C (n+1) sc lo (.Name x p) ρ σ .fn σ:=by
 cases kb with
 |val _=>cases hlam
 |lam a b c d=>exact ev_NameB h h2
noncomputable def bisRho (va vx:V) (kb:B):Rho:=[(("key":Str),kb),(("hi":Str),.val .none),(("lo":Str),.val (.int (0:Nat))),(("x":Str),.val vx),(("a":Str),.val va)]
theorem bis_tail {ρ:Rho} (hlam:isLam kb=true) (h2:LoopAt lo σ va vx kb h0 r W2) (hE:BisEnv va vx kb ρ) (hl:LoHi ρ 0 h0) {n:Nat} (hn:h0+68≤n):
  Go (exs cfg n bsc lo [.If (.Compare (.Name ("key":Str) p1) [.Is] [.Constant .none k1 p2] p3) [W1] [W2] p4,.Return (some (.Name ("lo":Str) p5)) p6] ρ σ) fun fl ρ' σ'=>fl=.ret (.int r)∧σ'=σ:=by
 refine e11 (ge_ex (n:=n) (m:=68) (by omega)) fun n qz1=>?_;obtain rfl:=qz1;have hk:=hE.2.2;refine go_cons (go_IfF (tst_Cmp (ev_NameLam hlam (by rfl') hk) (by left)) (go_cons ((h2 _ ρ (by omega) hE hl).mono ?_)));rintro fl ρ2 σ2 ⟨rfl,rfl,h⟩;refine go_nil ?_;walk_at "ret";exact ⟨rfl,rfl⟩
theorem bis_body {rest:List Stmt} (ht:∀ n ρ,h0+68≤n→BisEnv va vx kb ρ→LoHi ρ 0 h0→Go (exs cfg n bsc lo rest ρ σ) fun fl ρ' σ'=>fl=.ret (.int r)∧σ'=σ) (hlen:lenV σ va=some h0) {n:Nat} (hn:h0+70≤n):
  Go (exs cfg n bsc lo (.If (.Compare (.Name ("lo":Str) p1) [.Lt] [.Constant (.int 0) k1 p2] p3) [R] [] p4::.If (.Compare (.Name ("hi":Str) p5) [.Is] [.Constant .none k2 p6] p7) [.Assign [.Name ("hi":Str) p8] (.Call (.Name ("len":Str) p9) [.Name ("a":Str) q1] [] q2) q3] [] q4::rest) (bisRho va vx kb) σ) fun fl ρ' σ'=>fl=.ret (.int r)∧σ'=σ:=by
 refine e11 (ge_ex (n:=n) (m:=70) (by omega)) fun n qz1=>?_;obtain rfl:=qz1;unfold bisRho;refine go_cons ?_;apply go_IfF
 ·rw [←show decide (((0:Nat):Int)<0)=false by decide];left
 refine go_nil (go_cons ?_);apply go_IfT
 ·left
 ·have hb:builtinV σ ("len":Str) [va]=some (.int h0):=bnt rfl (mpd (a:=(h0:Int)) (f:=V.int) (o:=one (lenV σ) [va]) hlen rfl);walk_at "asg";exact go_nil (ht _ _ (by omega) ⟨by left,by left,by left⟩ ⟨by left,by left⟩)
end
theorem bisect_left_call {va vx:V} {it ky:Nat→V} {r h0:Nat} {kb:B} (hlam:isLam kb=true) (hkey:∀ i,i<h0→KeyAt cfg σ kb (it i) (ky i)) (hit:∀ i,i<h0→GetAt σ va i (it i)) (hcmp:∀ i,i<h0→LtV σ (ky i) vx (decide (i<r))) (hr:r≤h0) (hlen:lenV σ va=some h0) {n:Nat} (hn:h0+71≤n):
  call cfg n lo ("bisect_left":Str) (fnD pw "bisect_left") [va,vx,.int (0:Nat),.none] [(("key":Str),kb)] σ (.int r) σ:=by
 refine e11 (ge_ex (n:=n) (m:=1) (by omega)) fun n qz1=>?_;obtain rfl:=qz1;have key:Go (exs cfg n (fnD pw "bisect_left").scope σ.length (fnD pw "bisect_left").body (bisRho va vx kb) σ) fun fl ρ' σ'=>fl=.ret (.int r)∧σ'=σ:=by
  show Go (exs cfg n bsc _ _ _ _) _;rw [show (fnD pw "bisect_left").body=[.If _ [_] [] _,.If _ [_] [] _,.If _ [_] [_] _,.Return _ _] from rfl];refine bis_body (kb:=kb) (fun n ρ hn E hl=>bis_tail hlam (loop_of hr (turn_l fun n ρ md E hm hmd=>?_)) E hl hn) hlen (by omega);obtain ⟨ha,hx,hk⟩:=E;show tst cfg _ bsc _ _ ρ σ (decide (md<r)) σ;exact tst_Cmp (key_call hlam (hkey md hmd) (leN (by decide)) (evs_cons (by rfl') (hit md hmd rfl (by left) (by left)) evs_nil) (by rfl') (by left)) ((hcmp md hmd) (by left))
 refine nb fun kk=>?_;obtain ⟨fl,ρ1,σ1,h1,rfl,rfl⟩:=key;refine kk ?_;exact call_pure (by rfl') (ρ0:=(bisRho va vx kb).reverse) (by rfl') (by rfl') (by rw [List.reverse_reverse];exact h1) (.inl rfl) rfl
theorem bisect_right_call {va vx:V} {it ky:Nat→V} {r h0:Nat} {kb:B} (hlam:isLam kb=true) (hkey:∀ i,i<h0→KeyAt cfg σ kb (it i) (ky i)) (hit:∀ i,i<h0→GetAt σ va i (it i)) (hcmp:∀ i,i<h0→LtV σ vx (ky i) (decide (r≤i))) (hr:r≤h0) (hlen:lenV σ va=some h0) {n:Nat} (hn:h0+71≤n):
  call cfg n lo ("bisect_right":Str) (fnD pw "bisect_right") [va,vx,.int (0:Nat),.none] [(("key":Str),kb)] σ (.int r) σ:=by
 refine e11 (ge_ex (n:=n) (m:=1) (by omega)) fun n qz1=>?_;obtain rfl:=qz1;have key:Go (exs cfg n (fnD pw "bisect_right").scope σ.length (fnD pw "bisect_right").body (bisRho va vx kb) σ) fun fl ρ' σ'=>fl=.ret (.int r)∧σ'=σ:=by
  rw [bsc_r];rw [show (fnD pw "bisect_right").body=[.If _ [_] [] _,.If _ [_] [] _,.If _ [_] [_] _,.Return _ _] from rfl];refine bis_body (kb:=kb) (fun n ρ hn E hl=>bis_tail hlam (loop_of hr (turn_r fun n ρ md E hm hmd=>?_)) E hl hn) hlen (by omega);obtain ⟨ha,hx,hk⟩:=E;show tst cfg _ bsc _ _ ρ σ (decide (r≤md)) σ;exact tst_Cmp (by left) ((hcmp md hmd) (key_call hlam (hkey md hmd) (leN (by decide)) (evs_cons (by rfl') (hit md hmd rfl (by left) (by left)) evs_nil) (by rfl') (by left)))
 refine nb fun kk=>?_;obtain ⟨fl,ρ1,σ1,h1,rfl,rfl⟩:=key;refine kk ?_;exact call_pure (by rfl') (ρ0:=(bisRho va vx kb).reverse) (by rfl') (by rfl') (by rw [List.reverse_reverse];exact h1) (.inl rfl) rfl
theorem get_of {va v:V} {i:Nat} (h:getItemV σ va (.int i)=some v):GetAt σ va i v:=fun hx ho hi=>ev_Item hx ho hi h
theorem get_lst {j:Nat} {xs:List V} (hσ:σ[j]?=some (.lst xs)) (hlen:xs.length<4096) (i:Nat) (hi:i<xs.length):GetAt σ (.ref j) i (xs.getD i .none):=
 get_of (item_ref hσ (place_nat hi (by omega)) (by rw [Qv hi,Qd,Qv hi];rfl))
theorem hi_lst {j:Nat} {xs:List V} (hσ:σ[j]?=some (.lst xs)) (hlen:xs.length<4096):lenV σ (.ref j)=some (xs.length:Int):=by
 unfold lenV smallN;simp only [hσ];rw [if_pos (Wq hlen)]
theorem ins_lst {j r:Nat} {xs:List V} {vx:V} (hσ:σ[j]?=some (.lst xs)) (hlo:lo≤j) (hlen:xs.length<4096) (hr:r≤xs.length):methV lo σ (.ref j) ("insert":Str) [.int r,vx]=some (.none,σ.set j (.lst (xs.take r++vx::xs.drop r))):=
 methRefL (by decide +kernel) hlo hσ (bnt (and2 (and2 rfl rfl) (dec hlen)) (bnd (a:=(r:Int)) rfl (bnt (and2 (dec (by omega)) (dec (by omega))) rfl)))
theorem insort_left_call {j:Nat} {xs:List V} {vx kx:V} {ky:Nat→V} {r:Nat} {kb:B} (hσ:σ[j]?=some (.lst xs)) (hlo:lo≤j) (hlen:xs.length<4096) (hlam:isLam kb=true) (hkx:KeyAt cfg σ kb vx kx)
  (hkey:∀ i,i<xs.length→KeyAt cfg σ kb (xs.getD i .none) (ky i)) (hcmp:∀ i,i<xs.length→LtV σ (ky i) kx (decide (i<r))) (hr:r≤xs.length) {n:Nat} (hn:xs.length+110≤n):call cfg n lo ("insort_left":Str) (fnD pw "insort_left") [.ref j,vx] [(("key":Str),kb)] σ .none (σ.set j (.lst (xs.take r++vx::xs.drop r))):=by
 refine e11 (ge_ex (n:=n) (m:=110) (by omega)) fun n qz1=>?_;obtain rfl:=qz1;have hins:=ins_lst (lo:=lo) (vx:=vx) hσ hlo hlen hr;have htag:tagV σ (.ref j)=some 0:=by unfold tagV;simp only [hσ]
 have key:Go (exs cfg (n+109) (fnD pw "insort_left").scope lo (fnD pw "insort_left").body (bisRho (.ref j) vx kb) σ) fun fl ρ' σ'=>fl=.next∧σ'=σ.set j (.lst (xs.take r++vx::xs.drop r)):=by
  have hc:call cfg (n+104) lo ("bisect_left":Str) (fnD pw "bisect_left") [.ref j,kx,.int (0:Nat),.none] [(("key":Str),kb)] σ (.int r) σ:=bisect_left_call hlam hkey (get_lst hσ hlen) hcmp hr (hi_lst hσ hlen) (by omega);revert hc;rw [show fnD pw "insort_left"=Fn.mk _ _ _ from rfl];intro hc;dsimp only;unfold bisRho;refine go_cons (go_IfF (tst_Cmp (ev_NameLam hlam (by rfl') (by left)) (by left)) ?_);walk_at "asg0"
  ·exact ev_FnC (evs_cons (by rfl') (by left) (evs_cons (by rfl') (key_call hlam hkx (leN (by decide)) (evs_cons (by rfl') (by left) evs_nil) (by rfl') (by left)) (by left))) (by left) (by rfl') (by rfl') (by rfl') hc
  ·left
  refine go_nil ?_;walk_at "call stmt";exact go_nil ⟨rfl,rfl⟩
 refine nb fun kk=>?_;obtain ⟨fl,ρ1,σ1,h1,rfl,rfl⟩:=key;refine kk ?_;exact call_imp (by rfl') (ρ0:=(bisRho (.ref j) vx kb).reverse) (by rfl') (by rfl') (by rw [List.reverse_reverse];exact h1) (.inr ⟨rfl,rfl⟩)
theorem insort_right_call {j:Nat} {xs:List V} {vx kx:V} {ky:Nat→V} {r:Nat} {kb:B} (hσ:σ[j]?=some (.lst xs)) (hlo:lo≤j) (hlen:xs.length<4096) (hlam:isLam kb=true) (hkx:KeyAt cfg σ kb vx kx)
  (hkey:∀ i,i<xs.length→KeyAt cfg σ kb (xs.getD i .none) (ky i)) (hcmp:∀ i,i<xs.length→LtV σ kx (ky i) (decide (r≤i))) (hr:r≤xs.length) {n:Nat} (hn:xs.length+110≤n):call cfg n lo ("insort_right":Str) (fnD pw "insort_right") [.ref j,vx] [(("key":Str),kb)] σ .none (σ.set j (.lst (xs.take r++vx::xs.drop r))):=by
 refine e11 (ge_ex (n:=n) (m:=110) (by omega)) fun n qz1=>?_;obtain rfl:=qz1;have hins:=ins_lst (lo:=lo) (vx:=vx) hσ hlo hlen hr;have htag:tagV σ (.ref j)=some 0:=by unfold tagV;simp only [hσ]
 have key:Go (exs cfg (n+109) (fnD pw "insort_right").scope lo (fnD pw "insort_right").body (bisRho (.ref j) vx kb) σ) fun fl ρ' σ'=>fl=.next∧σ'=σ.set j (.lst (xs.take r++vx::xs.drop r)):=by
  have hc:call cfg (n+104) lo ("bisect_right":Str) (fnD pw "bisect_right") [.ref j,kx,.int (0:Nat),.none] [(("key":Str),kb)] σ (.int r) σ:=bisect_right_call hlam hkey (get_lst hσ hlen) hcmp hr (hi_lst hσ hlen) (by omega);revert hc;rw [show fnD pw "insort_right"=Fn.mk _ _ _ from rfl];intro hc;dsimp only;unfold bisRho;refine go_cons (go_IfF (tst_Cmp (ev_NameLam hlam (by rfl') (by left)) (by left)) ?_);walk_at "asg0"
  ·exact ev_FnC (evs_cons (by rfl') (by left) (evs_cons (by rfl') (key_call hlam hkx (leN (by decide)) (evs_cons (by rfl') (by left) evs_nil) (by rfl') (by left)) (by left))) (by left) (by rfl') (by rfl') (by rfl') hc
  ·left
  refine go_nil ?_;walk_at "call stmt";exact go_nil ⟨rfl,rfl⟩
 refine nb fun kk=>?_;obtain ⟨fl,ρ1,σ1,h1,rfl,rfl⟩:=key;refine kk ?_;exact call_imp (by rfl') (ρ0:=(bisRho (.ref j) vx kb).reverse) (by rfl') (by rfl') (by rw [List.reverse_reverse];exact h1) (.inr ⟨rfl,rfl⟩)
end
section
variable {lo:Nat} {σ σ':St} {ρ ρ':Rho}
inductive Pc where
 |ch (c:Nat)
 |es (c:Nat)
 |qu (b:List Nat)
 deriving Inhabited
noncomputable def Pc.txt:Pc→List Nat
 |.ch c=>[c]
 |.es c=>[92,c]
 |.qu b=>34::b++[34]
noncomputable def txt (ps:List Pc):List Nat:=(ps.map Pc.txt).flatten
noncomputable def Pc.ok:Pc→Prop
 |.ch c=>c≠34∧c≠92
 |.es _=>True
 |.qu b=>∀ c∈b,c≠34∧c≠92
noncomputable def Pc.isQu:Pc→Bool
 |.qu _=>true
 |_=>false
noncomputable def mkS (l:List Nat):Str:=⟨l.toArray⟩
abbrev Tk:Type:=Nat×List Nat
noncomputable def tokV (t:Tk):V:=.tup [.int t.1,.str (mkS t.2)]
noncomputable def plainToks (p:Nat):List Nat→List Tk
 |[]=>[]
 |c::r=>(p,[c])::plainToks (p+1) r
noncomputable def Pc.toks (p:Nat):Pc→List Tk
 |.ch c=>[(p,[c])]
 |.es c=>[(p+1,[92,c])]
 |.qu b=>(p,[34])::plainToks (p+1) b++[(p+1+b.length,[34])]
noncomputable def toksOf (p:Nat):List Pc→List Tk
 |[]=>[]
 |x::r=>x.toks p++toksOf (p+x.txt.length) r
theorem txt_cons (x:Pc) (r:List Pc):txt (x::r)=x.txt++txt r:=rfl
theorem txt_append (x r:List Pc):txt (x++r)=txt x++txt r:=by simp [txt]
theorem escGo_cons (p c:Nat) (r:List Nat) (h:c≠92):escGo p false (c::r)=tokV (p,[c])::escGo (p+1) false r:=by
 show (if c=92 then _ else _)=_;rw [if_neg h];rfl
theorem esc_plain:∀ (b:List Nat) (p:Nat) (r:List Nat),(∀ c∈b,c≠92)→escGo p false (b++r)=(plainToks p b).map tokV++escGo (p+b.length) false r
 |[],p,r,_=>rfl
 |c::b,p,r,h=>by
  obtain ih:=esc_plain b (p+1) r fun x hx=>h x (Qj _ hx);rw [List.cons_append,escGo_cons _ _ _ (h c Qk),ih];rw [show p+(c::b).length=p+1+b.length from by rw [List.length_cons];omega];rfl
theorem escGo_txt:∀ (ps:List Pc) (p:Nat),(∀ x∈ps,x.ok)→escGo p false (txt ps)=(toksOf p ps).map tokV
 |[],p,_=>rfl
 |x::r,p,h=>by
  obtain ih:=fun p=>escGo_txt r p fun y hy=>h y (Qj _ hy);obtain hx:=h x Qk;rw [txt_cons];cases x with
  |ch c=>
   show escGo p false (c::txt r)=_;rw [escGo_cons _ _ _ hx.2,ih];rfl
  |es c=>
   show (if 92=92 then escGo (p+1) true (c::txt r) else _)=_;rw [if_pos rfl];show tokV (p+1,[92,c])::escGo (p+1+1) false (txt r)=_;rw [ih];rfl
  |qu b=>
   obtain e:(Pc.qu b).txt++txt r=34::(b++(34::txt r)):=congrArg (34::·) (List.append_assoc b [34] _);rw [e,escGo_cons _ _ _ (by decide),esc_plain b _ _ (fun c hc=>(hx c hc).2),escGo_cons _ _ _ (by decide),ih];obtain el:(Pc.qu b).txt.length=b.length+2:=congrArg (·+1) (Qu (as:=b) (bs:=[34]));show _=(Pc.toks p (.qu b)++toksOf (p+(Pc.qu b).txt.length) r).map tokV;rw [el,show p+1+b.length+1=p+(b.length+2) from by omega];exact congrArg (tokV (p,[34])::·) (Eq.symm (by show List.map tokV ((plainToks (p+1) b++[(p+1+b.length,[34])])++toksOf _ r)=_;rw [List.append_assoc,List.map_append];rfl))
theorem mkS_cps (l:List Nat):(mkS l).cps.toList=l:=by simp [mkS]
theorem mkS_len (l:List Nat):(mkS l).length=l.length:=by simp [mkS,PySem.Str.length]
theorem mkS_inj {a b:List Nat} (h:mkS a=mkS b):a=b:=by simpa [mkS] using h
theorem mkS_app (a b:List Nat):mkS a++mkS b=mkS (a++b):=by
 show (⟨a.toArray++b.toArray⟩:Str)=⟨(a++b).toArray⟩
 simp
theorem eqv_str (a b:List Nat):PyData.eqv (.str (mkS a)) (.str (mkS b))=(a==b):=by
 by_cases h:a=b
 ·subst h;simp [PyData.eqv]
 ·have:mkS a≠mkS b:=fun e=>h (mkS_inj e);simp only [PyData.eqv];rw [beq_eq_false_iff_ne.mpr this,beq_eq_false_iff_ne.mpr h]
theorem cmp_eqS (σ:St) (a b:List Nat):cmpV σ .Eq (.str (mkS a)) (.str (mkS b))=some (a==b):=by
 show some (PyData.eqv (.str (mkS a)) (.str (mkS b)))=_;rw [eqv_str]
theorem cmp_neS (σ:St) (a b:List Nat):cmpV σ .NotEq (.str (mkS a)) (.str (mkS b))=some (!(a==b)):=by
 show some (!PyData.eqv (.str (mkS a)) (.str (mkS b)))=_;rw [eqv_str]
structure SS where
 st:Nat
 op:Option Nat
 res:List (List Nat)
noncomputable def stS (x:List Nat) (s:SS) (t:Tk):SS:=
 if t.2==[34] then match s.op with
  |none=>{ s with op:=some t.1 }
  |some o=>{ st:=t.1+1,op:=none,res:=if s.st=o then s.res else s.res++[sliceL x s.st o] }
 else s
noncomputable def opV:Option Nat→V
 |none=>.none
 |some o=>.int o
noncomputable def stripOf (x:List Nat) (ts:List Tk):List Nat:=
 if 34∈x then (let s:=ts.foldl (stS x) ⟨0,none,[]⟩;(if s.st<x.length then s.res++[sliceL x s.st x.length] else s.res).flatten) else x
theorem join_mkS:∀ ls:List (List Nat),joinStr (ls.map fun l=>.str (mkS l))=some (mkS ls.flatten)
 |[]=>rfl
 |l::r=>by
  rw [List.map_cons,List.flatten_cons,←mkS_app];show (joinStr _).map _=_;rw [join_mkS r];rfl
theorem slice_str {σ:St} {x:List Nat} {a b:Nat} (hx:x.length≤4096) (ha:a≤x.length) (hb:b≤x.length):sliceV σ (.str (mkS x)) (.int a) (.int b)=some (.str (mkS (sliceL x a b))):=by
 obtain hs:(mkS x).cps.size=x.length:=by simp [mkS]
 show sliceS _ _ _=_;unfold sliceS;exact bnd (clamp_nat (by rw [hs];exact ha)) (bnd (clamp_nat (by rw [hs];exact hb)) (bnt (dec (by rw [hs];exact hx)) (by rw [mkS_cps];rfl)))
theorem slice_strTo {σ:St} {x:List Nat} {a:Nat} (hx:x.length≤4096) (ha:a≤x.length):sliceV σ (.str (mkS x)) (.int a) .none=some (.str (mkS (sliceL x a x.length))):=by
 obtain hs:(mkS x).cps.size=x.length:=by simp [mkS]
 show sliceS _ _ _=_;unfold sliceS;exact bnd (clamp_nat (by rw [hs];exact ha)) (bnd (a:=(mkS x).cps.size) rfl (bnt (dec (by rw [hs];exact hx)) (by rw [mkS_cps,hs];rfl)))
theorem quote_is:("\"":Str)=mkS [34]:=by decide +kernel
theorem strip_fold (x:List Nat):∀ (ts:List Tk) (s:SS),(∀ t∈ts,t.1<x.length)→s.st≤x.length→(∀ o,s.op=some o→o<x.length)→(ts.foldl (stS x) s).st≤x.length∧∀ o,(ts.foldl (stS x) s).op=some o→o<x.length
 |[],s,_,h1,h2=>⟨h1,h2⟩
 |t::r,s,ht,h1,h2=>by
  rw [List.foldl_cons];obtain hlt:=ht t Qk;refine strip_fold x r _ (fun u hu=>ht u (Qj _ hu)) ?_ ?_
  ·refine iteL (fun z:SS=>z.st≤x.length) (fun _=>?_) fun _=>h1;cases s.op with
   |none=>exact h1
   |some o=>exact hlt
  ·refine iteL (fun z:SS=>∀ o,z.op=some o→o<x.length) (fun _=>?_) fun _=>h2;cases s.op with
   |none=>exact fun o q=>Qw q▸hlt
   |some o=>exact fun o q=>nomatch q
theorem set_last {α:Type} (l:List α) (a b:α):(l++[a]).set l.length b=l++[b]:=by
 rw [List.set_append_right _ _ (Nat.le_refl _),Nat.sub_self];rfl
theorem get_last {α:Type} (l:List α) (a:α):(l++[a])[l.length]?=some a:=by
 rw [List.getElem?_append_right (Nat.le_refl _),Nat.sub_self];rfl
theorem meth_append {j:Nat} {xs:List V} {v:V} (h:σ[j]?=some (.lst xs)) (hlo:lo≤j) (hl:xs.length<4096):methV lo σ (.ref j) ("append":Str) [v]=some (.none,σ.set j (.lst (xs++[v]))):=by
 exact methRefL (by decide +kernel) hlo h (bnt (and2 rfl (dec hl)) rfl)
theorem meth_join {j:Nat} {ls:List (List Nat)} (h:σ[j]?=some (.lst (ls.map fun l=>.str (mkS l)))) (hl:ls.flatten.length≤4096):methV lo σ (.str (Str.ofString "")) ("join":Str) [.ref j]=some (.str (mkS ls.flatten),σ):=by
 exact methJoin rfl (by unfold seqOf;simp only [h]) (join_mkS ls) (by simpa [mkS] using hl)
theorem meth_joinF {ls:List (List Nat)} (hl:ls.flatten.length≤4096):methV lo σ (.str (Str.ofString "")) ("join":Str) [.fro (ls.map fun l=>.str (mkS l))]=some (.str (mkS ls.flatten),σ):=by
 exact methJoin rfl rfl (join_mkS ls) (by simpa [mkS] using hl)
theorem itr_escM {C:Cfg} {sc:Scope} {n lo:Nat} {σ σ1:St} {ρ:Rho} {e:Expr} {p q:Pos} {l:List Nat} (hk:kindIn sc ("_iter_escaped_chars":Str)=some .globalImplicit) (h:ev C n sc lo e ρ σ (.str (mkS l)) σ1):itr C (n+1) sc lo (.Call (.Name ("_iter_escaped_chars":Str) q) [e] [] p) ρ σ (.fix (escGo 0 false l)) σ1:=by
 have:=itr_esc (p:=p) (q:=q) hk h;rw [mkS_cps] at this;exact this
theorem tag_lst {j:Nat} {xs:List V} (h:σ[j]?=some (.lst xs)):tagV σ (.ref j)=some 0:=by unfold tagV;simp only [h]
theorem take_fold {α β:Type} (f:β→α→β) (b:β) (l:List α) {k:Nat} {t:α} (h:l[k]?=some t):(l.take (k+1)).foldl f b=f ((l.take k).foldl f b) t:=by
 rw [List.take_add_one,h];simp
theorem stS_len (x:List Nat) (s:SS) (t:Tk):(stS x s t).res.length≤s.res.length+1:=by
 refine iteL (fun z:SS=>z.res.length≤s.res.length+1) (fun _=>?_) fun _=>Nat.le_succ _;cases s.op with
 |none=>exact Nat.le_succ _
 |some o=>exact iteL (fun z:List (List Nat)=>z.length≤s.res.length+1) (fun _=>Nat.le_succ _) fun _=>Nat.le_of_eq Qu
@[reducible] noncomputable def SInv (σ:St) (x:List Nat) (s:SS) (k:Nat) (ρ:Rho) (σ':St):Prop:=σ'=σ++[.lst (s.res.map fun l=>.str (mkS l))]∧s.res.length≤k∧ρ.lookup ("addr":Str)=some (.val (.str (mkS x)))∧ρ.lookup ("start":Str)=some (.val (.int s.st))∧ρ.lookup ("open_pos":Str)=some (.val (opV s.op))∧ρ.lookup ("result":Str)=some (.val (.ref σ.length))
theorem strip_call {x:List Nat} {ts:List Tk} (ht:escGo 0 false x=ts.map tokV) (hts:∀ t∈ts,t.1<x.length) (hlen:x.length<4096) (htl:ts.length<4096) (hfin:(stripOf x ts).length≤4096) {n:Nat} (hn:60≤n):
  call cfg n lo ("_strip_quoted_realnames":Str) (fnD pw "_strip_quoted_realnames") [.str (mkS x)] [] σ (.str (mkS (stripOf x ts))) σ:=by
 refine nb fun kk=>?_;refine e11 (ge_ex (n:=n) (m:=60) (by omega)) fun n qz1=>?_;obtain rfl:=qz1;obtain key:Go (exs cfg (n+59) (fnD pw "_strip_quoted_realnames").scope σ.length (fnD pw "_strip_quoted_realnames").body [(("addr":Str),.val (.str (mkS x)))] σ) fun fl ρ' σ'=>fl=.ret (.str (mkS (stripOf x ts))):=by
  rw [show fnD pw "_strip_quoted_realnames"=Fn.mk _ _ _ from rfl];dsimp only;refine go_cons ?_;obtain hin:cmpV σ .NotIn (.str (Str.ofString "\"")) (.str (mkS x))=some (!decide (34∈x)):=by
   obtain e:(Str.ofString "\"").cps.toList=[34]:=by decide +kernel
   show (inS (.str (Str.ofString "\"")) (.str (mkS x))).map (fun z=>!z)=_;refine mpd (f:=fun z=>!z) (a:=decide (34∈x)) ?_ rfl;show oneOf (Str.ofString "\"").cps.toList (mkS x).cps.toList=_;rw [e,mkS_cps];show some (x.contains 34)=_;simp
  by_cases hq:34∈x
  ·rw [decide_eq_true hq,Bool.not_true] at hin;apply go_IfF
   ·left
   refine go_nil ?_;walk_at "asg";walk_at "asg";walk_at "asg";refine go_cons ?_;refine go_ForM (σ1:=σ++[HO.lst []]) (f:=tokV) (l:=ts) (fun k ρ σ'=>SInv σ x ((ts.take k).foldl (stS x) ⟨0,none,[]⟩) k ρ σ') (by rfl') ?_ ?_ ?_ ?_
   ·rw [←ht];apply itr_escM
    ·rfl'
    ·left
   ·refine ⟨rfl,by simp,by left,?_,?_,by left⟩
    ·show List.lookup _ _=some (B.val (V.int 0));left
    ·show List.lookup _ _=some (B.val V.none);left
   ·intro k t ρ σ' htk hI;obtain hsp:=strip_fold x (ts.take k) ⟨0,none,[]⟩ (fun u hu=>hts u (List.mem_of_mem_take hu)) (Nat.zero_le _) (fun o h=>by cases h);obtain fin:=fun {ρ:Rho} {σ':St} (h:SInv σ x (stS x ((ts.take k).foldl (stS x) ⟨0,none,[]⟩) t) (k+1) ρ σ')=>(take_fold (stS x) ⟨0,none,[]⟩ ts htk▸h:SInv σ x ((ts.take (k+1)).foldl (stS x) ⟨0,none,[]⟩) (k+1) ρ σ')
    obtain hklt:k<ts.length:=(Qz htk).1;generalize (ts.take k).foldl (stS x) ⟨0,none,[]⟩=s at hI hsp fin;obtain ⟨rfl,hrl,ha,hst,hop,hre⟩:=hI;obtain htl1:=hts t (List.mem_of_getElem? htk);refine ⟨_,by unfold tokV;walk_at "*",?_⟩;obtain hc:∀ σ,cmpV σ .Eq (.str (mkS t.2)) (.str (Str.ofString "\""))=some (t.2==[34]):=fun σ=>by rw [quote_is];exact cmp_eqS _ _ _
    obtain hc:=hc (σ++[HO.lst (s.res.map fun l=>.str (mkS l))]);obtain hlen':=Qy (stS_len x s t) (Nat.succ_le_succ hrl);refine go_cons ?_;cases hq2:t.2==[34] with
    |false=>
     rw [hq2] at hc;apply go_IfF
     ·left
     ·refine go_nil (go_nil (fin ?_));obtain e:stS x s t=s:=by unfold stS;rw [hq2];simp
      rw [e];exact ⟨rfl,Nat.le_succ_of_le hrl,by left,by left,by left,by left⟩
    |true=>
     rw [hq2] at hc;apply go_IfT
     ·left
     ·refine go_cons ?_;cases hop2:s.op with
      |none=>
       rw [hop2] at hop;obtain hop:ρ.lookup ("open_pos":Str)=some (.val .none):=hop;apply go_IfT
       ·left
       ·walk_at "asg";refine go_nil (go_nil (go_nil (fin ?_)));obtain e:stS x s t={ s with op:=some t.1 }:=by unfold stS;rw [hq2,if_pos rfl,hop2]
        rw [e] at hlen'⊢;exact ⟨rfl,hlen',by left,by left,by left,by left⟩
      |some o=>
       rw [hop2] at hop;obtain hop:ρ.lookup ("open_pos":Str)=some (.val (.int o)):=hop;obtain e:stS x s t={ st:=t.1+1,op:=none,res:=if s.st=o then s.res else s.res++[sliceL x s.st o] }:=by unfold stS;rw [hq2,if_pos rfl,hop2]
       rw [e] at hlen';apply go_IfF
       ·left
       ·refine go_cons ?_
        by_cases hso:s.st=o
        ·apply go_IfF
         ·rw [←show (!decide ((s.st:Int)=o))=false by simp [hso]];left
         ·refine go_nil ?_;walk_at "asg";walk_at "asg";refine go_nil (go_nil (go_nil (fin ?_)));rw [e];rw [if_pos hso] at hlen'⊢;refine ⟨rfl,hlen',?_,?_,?_,?_⟩
          ·left
          ·dsimp only;rw [Int.natCast_add];left
          ·dsimp only [opV];left
          ·left
        ·apply go_IfT
         ·rw [←show (!decide ((s.st:Int)=o))=true by simp;omega];left
         ·obtain hcut:=slice_str (σ:=σ++[HO.lst (s.res.map fun l=>.str (mkS l))]) (x:=x) (a:=s.st) (b:=o) (by omega) hsp.1 (Wq (hsp.2 o hop2));obtain hm:=meth_append (lo:=σ.length) (v:=.str (mkS (sliceL x s.st o))) (get_last σ (HO.lst (s.res.map fun l=>.str (mkS l)))) (Nat.le_refl _) (by rw [Qx];omega);obtain htag:=tag_lst (get_last σ (HO.lst (s.res.map fun l=>.str (mkS l))));walk_at "call stmt";refine go_nil ?_;walk_at "asg";walk_at "asg";refine go_nil (go_nil (go_nil (fin ?_)));rw [e];rw [if_neg hso] at hlen'⊢;refine ⟨by rw [set_last];simp,hlen',?_,?_,?_,?_⟩
          ·left
          ·dsimp only;rw [Int.natCast_add];left
          ·dsimp only [opV];left
          ·left
   ·intro ρ σ' hI;rw [List.take_of_length_le (Nat.le_refl _)] at hI;obtain hsp:=strip_fold x ts ⟨0,none,[]⟩ (fun u hu=>hts u hu) (Nat.zero_le _) (fun o h=>by cases h);obtain hres:stripOf x ts=((if (ts.foldl (stS x) ⟨0,none,[]⟩).st<x.length then (ts.foldl (stS x) ⟨0,none,[]⟩).res++[sliceL x (ts.foldl (stS x) ⟨0,none,[]⟩).st x.length] else (ts.foldl (stS x) ⟨0,none,[]⟩).res).flatten):=by unfold stripOf;rw [if_pos hq]
    rw [hres] at hfin⊢;generalize ts.foldl (stS x) ⟨0,none,[]⟩=s at hI hsp hfin⊢;obtain ⟨rfl,hrl,ha,hst,hop,hre⟩:=hI;obtain hlenx:lenV (σ++[HO.lst (s.res.map fun l=>.str (mkS l))]) (.str (mkS x))=some (x.length:Int):=by
     show smallN (mkS x).length=_;rw [mkS_len];unfold smallN;rw [if_pos (by omega)]
    obtain hb:builtinV (σ++[HO.lst (s.res.map fun l=>.str (mkS l))]) ("len":Str) [.str (mkS x)]=some (.int x.length):=bnt rfl (mpd (f:=V.int) (o:=one (lenV _) [_]) hlenx rfl);obtain htag:=tag_lst (get_last σ (HO.lst (s.res.map fun l=>.str (mkS l))));refine go_cons ?_
    by_cases hlt:s.st<x.length
    ·rw [if_pos hlt] at hfin⊢;apply go_IfT
     ·rw [←show decide ((s.st:Int)<x.length)=true by simpa using hlt];left
     ·obtain hcut:=slice_strTo (σ:=σ++[HO.lst (s.res.map fun l=>.str (mkS l))]) (x:=x) (a:=s.st) (by omega) hsp.1;obtain hm:=meth_append (lo:=σ.length) (v:=.str (mkS (sliceL x s.st x.length))) (get_last σ (HO.lst (s.res.map fun l=>.str (mkS l)))) (Nat.le_refl _) (by rw [Qx];omega);walk_at "call stmt";refine go_nil ?_;rw [set_last];obtain hj:=meth_join (lo:=σ.length) (ls:=s.res++[sliceL x s.st x.length]) (σ:=σ++[HO.lst (s.res.map (fun l=>.str (mkS l))++[.str (mkS (sliceL x s.st x.length))])]) (by rw [get_last];simp) hfin;apply go_cons;apply go_Return
      ·apply ev_Meth
       ·rfl'
       ·left
       ·walk_at "tag"
       ·left
       ·walk_at "tag"
       ·exact hj
      ·rfl
    ·rw [if_neg hlt] at hfin⊢;apply go_IfF
     ·rw [←show decide ((s.st:Int)<x.length)=false by simpa using hlt];left
     ·refine go_nil ?_;obtain hj:=meth_join (lo:=σ.length) (ls:=s.res) (get_last σ (HO.lst (s.res.map fun l=>.str (mkS l)))) hfin;apply go_cons;apply go_Return
      ·apply ev_Meth
       ·rfl'
       ·left
       ·walk_at "tag"
       ·left
       ·walk_at "tag"
       ·exact hj
      ·rfl
  ·rw [decide_eq_false hq,Bool.not_false] at hin;apply go_IfT
   ·left
   ·walk_at "ret";unfold stripOf;rw [if_neg hq]
 obtain ⟨fl,ρ1,σ1,h1,rfl⟩:=key;refine kk ?_;exact call_pure (by rfl') (ρ0:=[(("addr":Str),.val (.str (mkS x)))]) (by rfl') (by rfl') h1 (.inl rfl) rfl
theorem stS_skip (x:List Nat) (s:SS) (t:Tk) (h:t.2≠[34]):stS x s t=s:=by
 unfold stS;rw [show (t.2==[34])=false from beq_eq_false_iff_ne.mpr h];rfl
theorem plain_skip (x:List Nat):∀ (b:List Nat) (p:Nat) (s:SS),(∀ c∈b,c≠34)→(plainToks p b).foldl (stS x) s=s
 |[],_,_,_=>rfl
 |c::b,p,s,h=>by
  show (plainToks _ b).foldl _ (stS x s (p,[c]))=_;rw [stS_skip _ _ _ (fun e=>h c Qk (List.cons.inj e).1)];exact plain_skip x b _ _ fun y hy=>h y (Qj _ hy)
theorem toksOf_cons (p:Nat) (x:Pc) (r:List Pc):toksOf p (x::r)=x.toks p++toksOf (p+x.txt.length) r:=rfl
set_option tactic.hygienic true in
theorem stripGo (x:List Nat):∀ (ps:List Pc) (pre:List Nat) (st:Nat) (res:List (List Nat)),(∀ p∈ps,p.ok)→x=pre++txt ps→st≤pre.length→
  ((toksOf pre.length ps).foldl (stS x) ⟨st,none,res⟩).st≤x.length∧
  ((toksOf pre.length ps).foldl (stS x) ⟨st,none,res⟩).res.flatten++x.drop ((toksOf pre.length ps).foldl (stS x) ⟨st,none,res⟩).st=res.flatten++pre.drop st++txt (ps.filter fun p=>!p.isQu)
 |[],pre,st,res,_,hx,hst=>by
  rw [show toksOf pre.length []=[] from rfl];simp only [List.foldl_nil,List.filter_nil];simp [txt] at hx⊢;subst hx;exact ⟨hst,rfl⟩
 |y::r,pre,st,res,hok,hx,hst=>by
  obtain ih:=stripGo x r (pre++y.txt);rw [txt_cons,←List.append_assoc] at hx;obtain hr:∀ p∈r,p.ok:=fun p hp=>hok p (Qj _ hp);obtain hy:=hok y Qk;rw [toksOf_cons,List.foldl_append,←Qu];cases y with
  |ch c=>
   obtain e:(Pc.toks pre.length (.ch c)).foldl (stS x) ⟨st,none,res⟩=⟨st,none,res⟩:=by
    rw [Pc.toks,List.foldl_cons,stS_skip _ _ _ (fun e=>hy.1 (List.cons.inj e).1)];rfl
   rw [e];refine nb fun kk=>?_;refine e02 (ih st res hr hx (by rw [Qu];omega)) fun h1 h2=>?_;refine kk ?_;refine ⟨h1,h2.trans ?_⟩;rw [List.drop_append_of_le_length hst,show (Pc.ch c::r).filter (fun p=>!p.isQu)=Pc.ch c::r.filter (fun p=>!p.isQu) from rfl,txt_cons];simp
  |es c=>
   obtain e:(Pc.toks pre.length (.es c)).foldl (stS x) ⟨st,none,res⟩=⟨st,none,res⟩:=by
    rw [Pc.toks,List.foldl_cons,stS_skip _ _ _ (by intro h;cases h)];rfl
   rw [e];refine nb fun kk=>?_;refine e02 (ih st res hr hx (by rw [Qu];omega)) fun h1 h2=>?_;refine kk ?_;refine ⟨h1,h2.trans ?_⟩;rw [List.drop_append_of_le_length hst,show (Pc.es c::r).filter (fun p=>!p.isQu)=Pc.es c::r.filter (fun p=>!p.isQu) from rfl,txt_cons];simp
  |qu b=>
   obtain el:(pre++(Pc.qu b).txt).length=pre.length+1+b.length+1:=by show (pre++(34::b++[34])).length=_;simp;omega
   obtain e:(Pc.toks pre.length (.qu b)).foldl (stS x) ⟨st,none,res⟩=⟨(pre++(Pc.qu b).txt).length,none,if st=pre.length then res else res++[pre.drop st]⟩:=by
    rw [Pc.toks,List.cons_append,List.foldl_cons,List.foldl_append,show stS x ⟨st,none,res⟩ (pre.length,[34])=⟨st,some pre.length,res⟩ from rfl,plain_skip _ _ _ _ (fun c hc=>(hy c hc).1),List.foldl_cons,List.foldl_nil];show SS.mk (pre.length+1+b.length+1) none (if st=pre.length then res else res++[sliceL x st pre.length])=_;rw [el,show sliceL x st pre.length=pre.drop st from by unfold sliceL;rw [hx,List.append_assoc,List.take_left]]
   rw [e];refine nb fun kk=>?_;refine e02 (ih (pre++(Pc.qu b).txt).length (if st=pre.length then res else res++[pre.drop st]) hr hx (Nat.le_refl _)) fun h1 h2=>?_;refine kk ?_;refine ⟨h1,h2.trans ?_⟩;rw [List.drop_length,List.append_nil,show (Pc.qu b::r).filter (fun p=>!p.isQu)=r.filter (fun p=>!p.isQu) from rfl]
   congr 1
   split
   ·rename_i h;rw [h,List.drop_length,List.append_nil]
   ·simp
set_option tactic.hygienic true in
theorem strip_txt (ps:List Pc) (hok:∀ p∈ps,p.ok):stripOf (txt ps) (toksOf 0 ps)=txt (ps.filter fun p=>!p.isQu):=by
 unfold stripOf
 split
 ·obtain ⟨h1,h2⟩:=stripGo (txt ps) ps [] 0 [] hok rfl (Nat.le_refl _);dsimp only;rw [List.length_nil] at h1 h2;rw [List.flatten_nil,List.drop_nil,List.nil_append,List.nil_append] at h2;rw [←h2]
  split
  ·rw [List.flatten_append];unfold sliceL;rw [List.take_length];simp
  ·rename_i h
   rw [List.drop_eq_nil_of_le (by omega),List.append_nil]
 ·rename_i h
  have:ps.filter (fun p=>!p.isQu)=ps:=by
   rw [List.filter_eq_self];intro p hp;cases p with
   |qu b=>
    refine absurd ?_ h;unfold txt;rw [List.mem_flatten];exact ⟨(Pc.qu b).txt,List.mem_map_of_mem hp,Qk⟩
   |_=>rfl
  rw [this]
theorem plain_pos:∀ (b:List Nat) (p:Nat),(∀ t∈plainToks p b,t.1<p+b.length)∧(plainToks p b).length=b.length
 |[],p=>⟨by intro t ht;exact (List.not_mem_nil ht).elim,rfl⟩
 |c::b,p=>by
  refine nb fun kk=>?_;refine e02 (plain_pos b (p+1)) fun h1 h2=>?_;refine kk ?_;refine ⟨fun t ht=>?_,congrArg (·+1) h2⟩;have ht:=Wy ht;rw [List.length_cons];rcases ht with rfl|ht
  ·dsimp only;omega
  ·have:=h1 t ht;omega
theorem pc_pos (x:Pc) (p:Nat):(∀ t∈x.toks p,t.1<p+x.txt.length)∧(x.toks p).length≤x.txt.length:=by
 cases x with
 |ch c=>exact ⟨fun t ht=>by rw [Wz ht];exact Nat.lt_succ_self p,Nat.le_refl 1⟩
 |es c=>exact ⟨fun t ht=>by rw [Wz ht];exact Nat.lt_succ_self (p+1),Nat.le_succ 1⟩
 |qu b=>
  refine nb fun kk=>?_;refine e02 (plain_pos b (p+1)) fun h1 h2=>?_;refine kk ?_;refine ⟨?_,by show ((p,[34])::plainToks (p+1) b++[(p+1+b.length,[34])]).length≤(34::b++[34]).length;simp [h2]⟩;intro t ht;obtain e:(Pc.qu b).txt.length=b.length+2:=congrArg (·+1) (Qu (as:=b) (bs:=[34]));rw [e];simp only [Pc.toks,List.cons_append,List.mem_cons,List.mem_append,List.not_mem_nil,or_false] at ht;rcases ht with rfl|ht|rfl
  ·dsimp only;omega
  ·have:=h1 t ht;omega
  ·dsimp only;omega
theorem toks_pos:∀ (ps:List Pc) (p:Nat),(∀ t∈toksOf p ps,t.1<p+(txt ps).length)∧(toksOf p ps).length≤(txt ps).length
 |[],p=>⟨by intro t ht;exact (List.not_mem_nil ht).elim,Nat.le_refl _⟩
 |x::r,p=>by
  refine nb fun kk=>?_;refine e02 (toks_pos r (p+x.txt.length)) fun h1 h2=>?_;refine e02 (pc_pos x p) fun h3 h4=>?_;refine kk ?_;rw [txt_cons];refine ⟨fun t ht=>?_,by rw [toksOf_cons,Qu,Qu];omega⟩;rw [toksOf_cons,List.mem_append] at ht;rw [Qu];rcases ht with ht|ht
  ·have:=h3 t ht;omega
  ·have:=h1 t ht;omega
noncomputable def ckGo:Int→List Tk→Option Int
 |o,[]=>some o
 |o,t::r=>if t.2==[40] then ckGo (o+1) r else if t.2==[41] then (if o-1<0 then none else ckGo (o-1) r) else ckGo o r
noncomputable def ckT (ts:List Tk):Bool:=match ckGo 0 ts with
 |some o=>decide (o=0)
 |none=>false
theorem open_is:("(":Str)=mkS [40]:=by decide +kernel
theorem close_is:(")":Str)=mkS [41]:=by decide +kernel
theorem filter_len (ps:List Pc):(txt (ps.filter fun p=>!p.isQu)).length≤(txt ps).length:=by
 induction ps with
 |nil=>exact Nat.le_refl _
 |cons x r ih=>
  rw [List.filter_cons,txt_cons,Qu]
  split
  ·rw [txt_cons,Qu];omega
  ·omega
theorem check_call {ps:List Pc} (hok:∀ p∈ps,p.ok) (hlen:(txt ps).length<4096) {n:Nat} (hn:120≤n):
  call cfg n lo ("_check_parenthesis":Str) (fnD pw "_check_parenthesis") [.str (mkS (txt ps))] [] σ (.bool (ckT (toksOf 0 (ps.filter fun p=>!p.isQu)))) σ:=by
 refine nb fun kk=>?_;refine e11 (ge_ex (n:=n) (m:=120) (by omega)) fun n qz1=>?_;obtain rfl:=qz1;obtain hfl:=filter_len ps;obtain hok2:∀ p∈ps.filter (fun p=>!p.isQu),p.ok:=fun p hp=>hok p ((List.mem_filter.mp hp).1);obtain hp1:=toks_pos ps 0;obtain hp2:=toks_pos (ps.filter fun p=>!p.isQu) 0;obtain hst:=strip_txt ps hok;obtain key:Go (exs cfg (n+119) (fnD pw "_check_parenthesis").scope σ.length (fnD pw "_check_parenthesis").body [(("addr":Str),.val (.str (mkS (txt ps))))] σ) fun fl ρ' σ'=>fl=.ret (.bool (ckT (toksOf 0 (ps.filter fun p=>!p.isQu)))):=by
  rw [show fnD pw "_check_parenthesis"=Fn.mk _ _ _ from rfl];dsimp only;obtain hc:∀ m σ,60≤m→call cfg m σ.length ("_strip_quoted_realnames":Str) (fnD pw "_strip_quoted_realnames") [.str (mkS (txt ps))] [] σ (.str (mkS (txt (ps.filter fun p=>!p.isQu)))) σ:=by
   intro m σ hm;rw [←hst];exact strip_call (escGo_txt ps 0 hok) (fun t ht=>by have:=hp1.1 t ht;omega) hlen (by omega) (by rw [hst];omega) hm
  obtain hc:=hc (n+116) σ (by omega);walk_at "asg";walk_at "asg";generalize ps.filter (fun p=>!p.isQu)=qs at *
  refine go_cons ?_;refine go_ForM (σ1:=σ) (f:=tokV) (l:=toksOf 0 qs) (fun k ρ σ'=>∃ o:Int,ρ.lookup ("opens":Str)=some (.val (.int o))∧ckGo 0 (toksOf 0 qs)=ckGo o ((toksOf 0 qs).drop k)) (by rfl') ?_ ?_ ?_ ?_
  ·rw [←escGo_txt qs 0 hok2];apply itr_escM
   ·rfl'
   ·left
  ·refine ⟨0,by left,rfl⟩
  ·intro k t ρ σ' htk hI;refine e12 (hI) fun o ho hI=>?_;obtain hdr:(toksOf 0 qs).drop k=t::(toksOf 0 qs).drop (k+1):=by
    refine e11 (Qz htk) fun hlt qz1=>?_;obtain rfl:=qz1;exact List.drop_eq_getElem_cons hlt
   rw [hdr] at hI;have hI:ckGo 0 (toksOf 0 qs)=if t.2==[40] then ckGo (o+1) _ else if t.2==[41] then (if o-1<0 then none else ckGo (o-1) _) else ckGo o _:=hI
   refine ⟨_,by unfold tokV;walk_at "*",?_⟩;obtain h40:cmpV σ' .Eq (.str (mkS t.2)) (.str (Str.ofString "("))=some (t.2==[40]):=by rw [open_is];exact cmp_eqS _ _ _
   obtain h41:cmpV σ' .Eq (.str (mkS t.2)) (.str (Str.ofString ")"))=some (t.2==[41]):=by rw [close_is];exact cmp_eqS _ _ _
   refine go_cons ?_;cases e1:t.2==[40] with
   |true=>
    rw [e1] at h40 hI;apply go_IfT
    ·left
    ·apply go_cons;apply go_Aug (k:=o) (m:=1)
     ·rfl'
     ·left
     ·left
     ·rfl
     ·refine go_nil (go_nil ?_);exact ⟨o+1,by left,hI⟩
   |false=>
    rw [e1] at h40 hI;apply go_IfF
    ·left
    ·refine go_cons ?_;cases e2:t.2==[41] with
     |false=>
      rw [e2] at h41 hI;apply go_IfF
      ·left
      ·refine go_nil (go_nil (go_nil ?_));exact ⟨o,by left,hI⟩
     |true=>
      rw [e2] at h41 hI;apply go_IfT
      ·left
      ·apply go_cons;apply go_Aug (k:=o) (m:=1)
       ·rfl'
       ·left
       ·left
       ·rfl
       ·refine go_cons ?_
        by_cases hlt:o-1<0
        ·apply go_IfT
         ·rw [←show decide (o-1<0)=true by simpa -iota using hlt];left
         ·obtain e:ckT (toksOf 0 qs)=false:=by unfold ckT;rw [hI];simp [hlt]
          rw [e];walk_at "ret";trivial
        ·apply go_IfF
         ·rw [←show decide (o-1<0)=false by simpa -iota using hlt];left
         ·refine go_nil (go_nil (go_nil (go_nil ?_)));refine ⟨o-1,by left,?_⟩;rw [hI];simp -iota [hlt]
  ·intro ρ σ' hI;rw [List.drop_length] at hI;refine e12 (hI) fun o ho hI=>?_;obtain e:ckT (toksOf 0 qs)=decide (o=0):=by unfold ckT;rw [hI];rfl
   rw [e];walk_at "ret";trivial
 obtain ⟨fl,ρ1,σ1,h1,rfl⟩:=key;refine kk ?_;exact call_pure (by rfl') (ρ0:=[(("addr":Str),.val (.str (mkS (txt ps))))]) (by rfl') (by rfl') h1 (.inl rfl) rfl
theorem item_nat {j k:Nat} {xs:List V} {v:V} (h:σ[j]?=some (.lst xs)) (hk:k<4096) (hv:xs[k]?=some v):getItemV σ (.ref j) (.int k)=some v:=by
 exact item_ref h (place_nat (Qz hv).1 hk) hv
theorem item_froNat {k:Nat} {xs:List V} {v:V} (hk:k<4096) (hv:xs[k]?=some v):getItemV σ (.fro xs) (.int k)=some v:=by
 exact item_fro (place_nat (Qz hv).1 hk) hv
theorem item_last {j:Nat} {xs:List V} {v:V} (h:σ[j]?=some (.lst (xs++[v]))):getItemV σ (.ref j) (.int (-1))=some v:=by
 obtain hp:place (xs++[v]).length (-1)=some xs.length:=bnt (by decide) (bnf rfl (bnt (dec (by simp;omega)) (congrArg some (by simp;omega))));exact item_ref h hp List.getElem?_concat_length
theorem setItem_nat {j k:Nat} {xs:List V} {v:V} (h:σ[j]?=some (.lst xs)) (hlo:lo≤j) (hk:k<xs.length) (hk2:k<4096):setItemV lo σ (.ref j) (.int k) v=some (σ.set j (.lst (xs.set k v))):=by
 exact bnd (a:=(k:Int)) rfl (bnt (dec hlo) (bnd (seqRef h) (bnt (and2 (and2 (dec (by omega)) (dec (by omega))) (smallNat hk2)) rfl)))
theorem zip_get {xs:List V} {k:Nat} {v:V} (h:(xs.zipIdx.map fun (v,k)=>V.tup [.int (k:Nat),v])[k]?=some v):∃ x,xs[k]?=some x∧v=.tup [.int k,x]:=by
 rw [Qb,Option.map_eq_some_iff] at h;refine nb fun kk=>?_;refine e12 (h) fun y hy qz2=>?_;obtain rfl:=qz2;refine kk ?_;rw [List.getElem?_zipIdx,Option.map_eq_some_iff] at hy;refine nb fun kk=>?_;refine e12 (hy) fun x hx qz2=>?_;obtain rfl:=qz2;refine kk ?_;exact ⟨x,hx,by simp⟩
theorem cells_call {l:List Int} (hl:l.length≤4096) {n:Nat} (hn:60≤n):
  ∃ A B D E:Nat,∀ lo,call cfg n lo ("_law_cells":Str) (fnD pw "_law_cells") [.fro (l.map .int)] [] σ (.fro [.int A,.int B,.int D,.int E]) σ:=by
 refine nb fun kk=>?_;refine e11 (ge_ex (n:=n) (m:=60) (by omega)) fun n qz1=>?_;obtain rfl:=qz1;obtain key:Go (exs cfg (n+59) (fnD pw "_law_cells").scope σ.length (fnD pw "_law_cells").body [(("script":Str),.val (.fro (l.map .int)))] σ) fun fl ρ' σ'=>fl=.ret (.ref σ.length)∧∃ A B D E:Nat,σ'=σ++[.lst [.int A,.int B,.int D,.int E]]:=by
  rw [show fnD pw "_law_cells"=Fn.mk _ _ _ from rfl];dsimp only;walk_at "asg";refine go_cons ?_;obtain hcut:sliceV (σ++[HO.lst [.int 844,.int 5018401,.int 141881,.int 7724]]) (.fro (l.map .int)) .none (.int 60)=some (.fro ((l.take 60).map .int)):=by
   refine (sliceFro (k:=0) (m:=min 60 (l.map V.int).length) rfl rfl (by rw [Qx];exact hl)).trans (congrArg (fun z=>some (V.fro z)) ?_);show (List.map V.int l).take (min 60 (l.map V.int).length)=_;rw [Qx,List.map_take,←Qx (f:=V.int),←List.take_take,List.take_length]
  refine go_For (σ1:=σ++[HO.lst [.int 844,.int 5018401,.int 141881,.int 7724]]) (xs:=((l.take 60).map V.int).zipIdx.map fun (v,k)=>.tup [.int k,v]) (fun k ρ σ'=>ρ.lookup ("cells":Str)=some (.val (.ref σ.length))∧∃ A B D E:Nat,σ'=σ++[.lst [.int A,.int B,.int D,.int E]]) (by rfl') ?_ ?_ ?_ ?_
  ·apply itr_enum
   ·rfl'
   ·left
  ·exact ⟨by left,844,5018401,141881,7724,rfl⟩
  ·rintro k v ρ σ' hv ⟨hc,A,B,D,E,rfl⟩;refine e12 (zip_get hv) fun x hx qz2=>?_;obtain rfl:=qz2;rw [Qb,Option.map_eq_some_iff] at hx;obtain ⟨x,hx,qz2⟩:=hx;obtain rfl:=qz2;obtain hk:k<60:=by
    have:=(Qz hx).1;rw [List.length_take] at this;exact Qh this (Nat.min_le_left _ _)
   refine ⟨_,by left,?_⟩;obtain ⟨d,hd⟩:∃ d:Nat,x.fmod 1000000000=d:=by
    rw [Int.fmod_eq_emod_of_nonneg x (by decide)];exact ⟨(x % 1000000000).toNat,by omega⟩
   obtain h0:=get_last σ (HO.lst [.int A,.int B,.int D,.int E]);obtain e1:((k:Int).fmod 4)=((k % 4:Nat):Int):=by rw [Int.fmod_eq_emod_of_nonneg _ (by decide)];omega
   have hm3:k % 4<4:=Nat.mod_lt k (by decide);have three:∀ {P:Nat→Prop},P 0→P 1→P 2→P 3→∀ {m:Nat},m<4→P m:=fun p0 p1 p2 p3 m hm=>by
    match m,hm with
    |0,_=>exact p0
    |1,_=>exact p1
    |2,_=>exact p2
    |3,_=>exact p3
   obtain e2:∃ C:Nat,[V.int A,.int B,.int D,.int E][k % 4]?=some (.int C):=three (P:=fun m=>∃ C:Nat,[V.int A,.int B,.int D,.int E][m]?=some (.int C)) ⟨A,rfl⟩ ⟨B,rfl⟩ ⟨D,rfl⟩ ⟨E,rfl⟩ hm3;refine e11 (e2) fun C hC=>?_;apply go_cons;refine go_AugSub (w:=.ref σ.length) (u:=.int ((k % 4:Nat):Int)) (k:=C) (m:=d) (v:=.int (C+d)) (σ':=σ++[HO.lst ([V.int A,V.int B,V.int D,V.int E].set (k % 4) (.int (C+d)))]) (σ1:=σ++[HO.lst [V.int A,V.int B,V.int D,V.int E]]) (σ2:=σ++[HO.lst [V.int A,V.int B,V.int D,V.int E]]) (σ3:=σ++[HO.lst [V.int A,V.int B,V.int D,V.int E]]) ?_ ?_ ?_ ?_ ?_ ?_ ?_
   ·left
   ·rw [←e1];walk_at "*"
   ·unfold getLst seqOf;simp only [h0,Option.bind_some];exact item_nat h0 (Nat.lt_trans (Nat.mod_lt k (by decide)) (by decide)) hC
   ·rw [←hd];walk_at "*"
   ·rfl
   ·exact (setItem_nat (v:=.int (C+d)) h0 (Nat.le_refl _) (by simp;omega) (by omega)).trans (by rw [set_last])
   ·refine go_nil ?_;refine ⟨by left,?_⟩;exact three (P:=fun m=>∃ A' B' D' E':Nat,σ++[HO.lst ([V.int A,V.int B,V.int D,V.int E].set m (.int (C+d)))]=σ++[HO.lst [.int A',.int B',.int D',.int E']]) ⟨C+d,B,D,E,rfl⟩ ⟨A,C+d,D,E,rfl⟩ ⟨A,B,C+d,E,rfl⟩ ⟨A,B,D,C+d,rfl⟩ hm3
  ·rintro ρ σ' ⟨hc,A,B,D,E,rfl⟩;walk_at "ret";exact ⟨rfl,A,B,D,E,rfl⟩
 obtain ⟨fl,ρ1,σ1,h1,rfl,A,B,D,E,rfl⟩:=key;refine kk ?_;refine (xi4 A B D E (fun lo=>call_pure (by rfl') (ρ0:=[(("script":Str),.val (.fro (l.map .int)))]) (by rfl') (by rfl') h1 (.inl rfl) ?_));exact bnf (decide_eq_false (Nat.lt_irrefl _)) (bnd (seqRef (get_last _ _)) rfl)
theorem call_frz {f:Str} {fn:Fn} {vs:List V} {ks:List (Str×B)} {ρ0:Rho} {w v:V} {n lo:Nat} {σ1:St} (hok:okSc fn.scope=true) (hb:bindV fn.params vs ks=some ρ0) (hi:cfg.impure f=false) (h:exs cfg n fn.scope σ.length fn.body ρ0.reverse σ (.ret v) ρ' σ1)
  (hw:frz σ1 σ.length 16 v=some w):call cfg (n+1) lo f fn vs ks σ w σ:=call_pure hok hb hi h (.inl rfl) hw
end
section
noncomputable def balP:Int→List Pc→Option Int
 |o,[]=>some o
 |o,.ch c::r=>if c=40 then balP (o+1) r else if c=41 then (if o-1<0 then none else balP (o-1) r) else balP o r
 |o,_::r=>balP o r
theorem balP_ch (c:Nat) (r:List Pc) (o:Int):balP o (.ch c::r)=if c=40 then balP (o+1) r else if c=41 then (if o-1<0 then none else balP (o-1) r) else balP o r:=rfl
theorem ck_cons (t:Tk) (r:List Tk) (o:Int):ckGo o (t::r)=if t.2==[40] then ckGo (o+1) r else if t.2==[41] then (if o-1<0 then none else ckGo (o-1) r) else ckGo o r:=rfl
theorem ck_bal:∀ (ps:List Pc) (p:Nat) (o:Int),ckGo o (toksOf p (ps.filter fun p=>!p.isQu))=balP o ps
 |[],_,_=>rfl
 |.ch c::r,p,o=>by
  rw [show (Pc.ch c::r).filter (fun p=>!p.isQu)=Pc.ch c::r.filter (fun p=>!p.isQu) from rfl];show ckGo o ((p,[c])::toksOf (p+1) (r.filter fun p=>!p.isQu))=_;rw [ck_cons,balP_ch]
  by_cases h1:c=40
  ·subst h1;simp only [beq_self_eq_true,if_true];exact ck_bal r _ _
  ·obtain e1:(([c]:List Nat)==[40])=false:=beq_eq_false_iff_ne.mpr (by simpa using h1);simp only [e1,Bool.false_eq_true,if_false,if_neg h1]
   by_cases h2:c=41
   ·subst h2;simp only [beq_self_eq_true,if_true]
    split
    ·rfl
    ·exact ck_bal r _ _
   ·obtain e2:(([c]:List Nat)==[41])=false:=beq_eq_false_iff_ne.mpr (by simpa using h2);simp only [e2,Bool.false_eq_true,if_false,if_neg h2];exact ck_bal r _ _
 |.es c::r,p,o=>by
  rw [show (Pc.es c::r).filter (fun p=>!p.isQu)=Pc.es c::r.filter (fun p=>!p.isQu) from rfl];show ckGo o ((p+1,[92,c])::toksOf (p+2) (r.filter fun p=>!p.isQu))=_;rw [ck_cons];obtain e1:(([92,c]:List Nat)==[40])=false:=beq_eq_false_iff_ne.mpr (by simp);obtain e2:(([92,c]:List Nat)==[41])=false:=beq_eq_false_iff_ne.mpr (by simp);simp only [e1,e2,Bool.false_eq_true,if_false];exact ck_bal r _ _
 |.qu b::r,p,o=>by
  rw [show (Pc.qu b::r).filter (fun p=>!p.isQu)=r.filter (fun p=>!p.isQu) from rfl];exact ck_bal r _ _
theorem bal_app:∀ (a b:List Pc) (o:Int),balP o (a++b)=(balP o a).bind fun d=>balP d b
 |[],b,o=>rfl
 |.ch c::r,b,o=>by
  rw [List.cons_append,balP_ch,balP_ch]
  split
  ·exact bal_app r b _
  ·split
   ·split
    ·rfl
    ·exact bal_app r b _
   ·exact bal_app r b _
 |.es c::r,b,o=>bal_app r b o
 |.qu c::r,b,o=>bal_app r b o
noncomputable def hungP:Nat→List Pc
 |0=>[]
 |1=>[.es 40]
 |2=>[.qu [41]]
 |_=>[.es 92]
theorem hung_ok (h:Nat):(∀ p∈hungP h,p.ok)∧(∀ o,balP o (hungP h)=some o)∧(txt (hungP h)).length≤3:=by
 rcases h with _|_|_|h
 ·exact ⟨fun p hp=>(List.not_mem_nil hp).elim,fun o=>rfl,by decide⟩
 ·exact ⟨fun p hp=>by rw [show hungP (0+1)=[Pc.es 40] from rfl,List.mem_singleton] at hp;subst hp;exact trivial,fun o=>rfl,by decide⟩
 ·refine ⟨?_,fun o=>rfl,by decide⟩;intro p hp;rw [show hungP (0+1+1)=[Pc.qu [41]] from rfl,List.mem_singleton] at hp;subst hp;intro c hc;rw [List.mem_singleton] at hc;subst hc;decide
 ·exact ⟨fun p hp=>by rw [show hungP (h+1+1+1)=[Pc.es 92] from rfl,List.mem_singleton] at hp;subst hp;exact trivial,fun o=>rfl,by rw [show hungP (h+1+1+1)=[Pc.es 92] from rfl];decide⟩
abbrev Un:Type:=Bool×Nat
noncomputable def uPc (u:Un):List Pc:=.ch (if u.1 then 40 else 41)::hungP u.2
noncomputable def uTx (u:Un):List Nat:=txt (uPc u)
noncomputable def uV (u:Un):V:=.str (mkS (uTx u))
noncomputable def rowV (us:List Un):V:=.fro (us.map uV)
noncomputable def dy:Int→List Un→Option Int
 |o,[]=>some o
 |o,u::r=>if u.1 then dy (o+1) r else if o-1<0 then none else dy (o-1) r
theorem dy_cons (o:Int) (u:Un) (r:List Un):dy o (u::r)=if u.1 then dy (o+1) r else if o-1<0 then none else dy (o-1) r:=rfl
theorem dy_app:∀ (a b:List Un) (o:Int),dy o (a++b)=(dy o a).bind fun d=>dy d b
 |[],b,o=>rfl
 |u::r,b,o=>by
  rw [List.cons_append,dy_cons,dy_cons]
  by_cases h:u.1=true
  ·rw [if_pos h,if_pos h];exact dy_app r b _
  ·rw [if_neg h,if_neg h]
   by_cases h2:o-1<0
   ·rw [if_pos h2,if_pos h2];rfl
   ·rw [if_neg h2,if_neg h2];exact dy_app r b _
theorem uPc_ok (u:Un):∀ p∈uPc u,p.ok:=fun p hp=>by
 rcases Wy hp with rfl|hp
 ·obtain ⟨b,h⟩:=u;cases b
  ·exact (⟨by decide,by decide⟩:(41:Nat)≠34∧(41:Nat)≠92)
  ·exact (⟨by decide,by decide⟩:(40:Nat)≠34∧(40:Nat)≠92)
 ·exact (hung_ok _).1 p hp
theorem row_ok (us:List Un):∀ p∈us.flatMap uPc,p.ok:=fun p hp=>by
 refine e12 (List.mem_flatMap.mp hp) fun u o_ hu=>?_;exact uPc_ok u p hu
theorem bal_row:∀ (us:List Un) (o:Int),balP o (us.flatMap uPc)=dy o us
 |[],_=>rfl
 |u::r,o=>by
  rw [List.flatMap_cons,dy_cons];show balP o (.ch (if u.1 then 40 else 41)::(hungP u.2++_))=_;rw [balP_ch]
  by_cases h:u.1=true
  ·rw [if_pos h,if_pos h,if_pos rfl,bal_app,(hung_ok _).2.1];exact bal_row r _
  ·rw [if_neg h,if_neg h,if_neg (by decide),if_pos rfl]
   by_cases h2:o-1<0
   ·rw [if_pos h2,if_pos h2]
   ·rw [if_neg h2,if_neg h2,bal_app,(hung_ok _).2.1];exact bal_row r _
theorem uTx_len (u:Un):(uTx u).length≤4:=Nat.succ_le_succ (hung_ok u.2).2.2
noncomputable def rowTx (us:List Un):List Nat:=us.flatMap uTx
theorem rowTx_txt:∀ us:List Un,rowTx us=txt (us.flatMap uPc)
 |[]=>rfl
 |u::r=>by rw [List.flatMap_cons,txt_append,←rowTx_txt r];rfl
theorem rowTx_len:∀ us:List Un,(rowTx us).length≤us.length*4
 |[]=>Nat.le_refl _
 |u::r=>by
  rw [show rowTx (u::r)=uTx u++rowTx r from rfl,Qu,List.length_cons,Nat.succ_mul,Nat.add_comm];exact Nat.add_le_add (rowTx_len r) (uTx_len u)
end
section
variable {lo:Nat} {σ σ':St} {ρ ρ':Rho}
theorem bin_powN (σ:St) (b k:Nat) (hk:k≤4096) (hb:b<4096):binV σ .Pow (.int b) (.int k)=some (.int ((b^k:Nat):Int)):=(bin_pow (Int.natCast_nonneg k) (Int.ofNat_le.mpr hk) (smallNat hb)).trans (by rw [Int.toNat_natCast,Int.natCast_pow])
theorem bin_divN (σ:St) (a b:Nat) (hb:b≠0) (hs:smallI (b:Int)=true):binV σ .FloorDiv (.int a) (.int b)=some (.int ((a/b:Nat):Int)):=(bin_div (y:=(b:Int)) (fun e=>hb (Int.ofNat.inj e)) hs).trans (by rw [Int.fdiv_eq_ediv_of_nonneg _ (Int.natCast_nonneg b)];rfl)
theorem bin_modN (σ:St) (a b:Nat) (hb:b≠0):binV σ .Mod (.int a) (.int b)=some (.int ((a % b:Nat):Int)):=(bin_mod (y:=(b:Int)) fun e=>hb (Int.ofNat.inj e)).trans (by rw [Int.fmod_eq_emod_of_nonneg _ (Int.natCast_nonneg b)];rfl)
noncomputable def hungV:List V:=[.str (Str.ofString ""),.str (Str.ofString "\\("),.str (Str.ofString "\")\""),.str (Str.ofString "\\\\")]
theorem hung_get (h:Nat) (hh:h<4):hungV[h]?=some (.str (mkS (txt (hungP h)))):=by
 obtain e0:("":Str)=mkS []:=by decide +kernel
 obtain e1:("\\(":Str)=mkS [92,40]:=by decide +kernel
 obtain e2:("\")\"":Str)=mkS [34,41,34]:=by decide +kernel
 obtain e3:("\\\\":Str)=mkS [92,92]:=by decide +kernel
 unfold hungV;rw [e0,e1,e2,e3]
 match h,hh with
 |0,_=>rfl
 |1,_=>rfl
 |2,_=>rfl
 |3,_=>rfl
noncomputable def opens (A h k:Nat):Bool:=decide (h=0)||(decide (A/2^k % 2=0)&&decide (h<12-k))
noncomputable def unitsAt (A B:Nat):Nat→List Un×Nat
 |0=>([],0)
 |k+1=>((unitsAt A B k).1++[(opens A (unitsAt A B k).2 k,B/4^k % 4)],if opens A (unitsAt A B k).2 k then (unitsAt A B k).2+1 else (unitsAt A B k).2-1)
theorem units_len (A B:Nat):∀ k,(unitsAt A B k).1.length=k
 |0=>rfl
 |k+1=>(Qu ..).trans (congrArg (·+1) (units_len A B k))
theorem units_dy (A B:Nat):∀ k,k≤12→dy 0 (unitsAt A B k).1=some ((unitsAt A B k).2:Int)∧(unitsAt A B k).2+k≤12∧((unitsAt A B k).2+k) % 2=0
 |0,_=>⟨rfl,Nat.zero_le _,rfl⟩
 |k+1,hk=>by
  obtain ⟨h1,h2,h3⟩:=units_dy A B k (Nat.le_of_succ_le hk);show dy 0 ((unitsAt A B k).1++[_])=some (((if _ then _ else _:Nat):Nat):Int)∧(if _ then _ else _:Nat)+(k+1)≤_∧((if _ then _ else _:Nat)+(k+1)) % 2=0;rw [dy_app,h1,Option.bind_some];generalize (unitsAt A B k).2=h at h2 h3⊢;cases ho:opens A h k with
  |true=>
   unfold opens at ho;rw [Bool.or_eq_true,Bool.and_eq_true,decide_eq_true_eq,decide_eq_true_eq,decide_eq_true_eq] at ho;have hn:h+k<12:=by
    rcases ho with rfl|⟨_,ho⟩
    ·rw [Nat.zero_add];exact hk
    ·exact Nat.add_lt_of_lt_sub ho
   have e:h+1+(k+1)=h+k+2:=congrArg (·+1) (Nat.add_right_comm h 1 k);rw [if_pos rfl,e];exact ⟨rfl,(by decide:∀ n<12,n % 2=0→n+2≤12) _ hn h3,(Nat.add_mod_right _ 2).trans h3⟩
  |false=>
   cases h with
   |zero=>unfold opens at ho;rw [decide_eq_true rfl] at ho;cases ho
   |succ h=>
    rw [if_neg Bool.false_ne_true,Nat.succ_sub_one,Nat.add_comm k 1,←Nat.add_assoc];refine ⟨?_,h2,h3⟩;rw [dy_cons,if_neg Bool.false_ne_true,Int.natCast_succ,Int.add_sub_cancel,if_neg (Int.not_lt.mpr (Int.natCast_nonneg h))]
    rfl
theorem units_bal (A B:Nat):dy 0 (unitsAt A B 12).1=some 0:=by
 obtain ⟨h1,h2,_⟩:=units_dy A B 12 (Nat.le_refl _);have h0:(unitsAt A B 12).2≤0:=Nat.le_of_add_le_add_right (show (unitsAt A B 12).2+12≤0+12 from h2);rw [h1,Nat.le_zero.mp h0];rfl
theorem bracket (b:Bool):(if b then ("(":Str) else (")":Str))=mkS [if b then 40 else 41]:=by cases b<;>decide +kernel
theorem pow2s:∀ k<12,2^k≠0∧smallI ((2^k:Nat):Int)=true:=by decide
theorem pow4s:∀ k<12,4^k≠0∧smallI ((4^k:Nat):Int)=true:=by decide
theorem mapO_of {α β:Type} (f:α→Option β):∀ (l:List α) (r:List β),l.length=r.length→(∀ (i:Nat) (x:α) (y:β),l[i]?=some x→r[i]?=some y→f x=some y)→mapO f l=some r
 |[],[],_,_=>rfl
 |[],_::_,h,_=>by cases h
 |_::_,[],h,_=>by cases h
 |x::l,y::r,hl,h=>by
  obtain h0:=h 0 x y rfl rfl;obtain ih:=mapO_of f l r (by simpa using hl) fun i a b h1 h2=>h (i+1) a b (by simpa using h1) (by simpa using h2);exact bnd h0 (mpd ih rfl)
theorem frz_rowU {σ:St} {us:List Un} {j lo n:Nat} (h:σ[j]?=some (.lst (us.map uV))) (hlo:lo≤j:=by exact Nat.le_refl _):frz σ lo (n+2) (.ref j)=some (rowV us):=by
 refine bnf (decide_eq_false (Ww hlo)) (bnd (seqRef h) (mpd (mapO_of (frz σ lo (n+1)) (us.map uV) (us.map uV) rfl ?_) rfl));intro i x y h1 h2;rw [h1] at h2;cases h2;rw [Qb,Option.map_eq_some_iff] at h1;refine e12 (h1) fun z o_ qz2=>?_;obtain rfl:=qz2
 rfl
theorem bin_addS (σ:St) (a b:List Nat) (h:a.length+b.length≤4096):binV σ .Add (.str (mkS a)) (.str (mkS b))=some (.str (mkS (a++b))):=by
 show (if _ then _ else _)=_;exact bnt (and2 rfl (dec (by rw [mkS_len,mkS_len];exact h))) (by rw [mkS_app])
theorem ev_OrAnd {C:Cfg} {sc:Scope} {n lo:Nat} {σ:St} {ρ:Rho} {x y z:Expr} {p q:Pos} {a b c:Bool} (h1:ev C (n+4) sc lo x ρ σ (.bool a) σ) (h2:a=false→ev C (n+1) sc lo y ρ σ (.bool b) σ) (h3:a=false→b=true→ev C n sc lo z ρ σ (.bool c) σ):
  ev C (n+6) sc lo (.BoolOp .Or [x,.BoolOp .And [y,z] q] p) ρ σ (.bool (a||(b&&c))) σ:=by
 refine ev_BoolOp (evBool_go (t:=a) h1 rfl ?_);cases a with
 |true=>exact ⟨rfl,rfl⟩
 |false=>
  refine evBool_last (ev_BoolOp (evBool_go (t:=b) (h2 rfl) rfl ?_));cases b with
  |true=>exact evBool_last (h3 rfl rfl)
  |false=>exact ⟨rfl,rfl⟩
theorem ev_IfB {C:Cfg} {sc:Scope} {n lo:Nat} {σ σ1 σ2:St} {ρ:Rho} {t l r:Expr} {p:Pos} {v:V} {z:Bool} (h1:tst C n sc lo t ρ σ z σ1) (hT:z=true→ev C n sc lo l ρ σ1 v σ2) (hF:z=false→ev C n sc lo r ρ σ1 v σ2):ev C (n+1) sc lo (.IfExp t l r p) ρ σ v σ2:=by
 cases z with
 |true=>exact ev_IfT h1 (hT rfl)
 |false=>exact ev_IfF h1 (hF rfl)
theorem range12:rangeV 0 12 1=some ((List.range 12).map fun k:Nat=>V.int k):=by rfl
theorem nz (x:Nat):decide (x=0)=decide ((x:Int)=0):=decide_eq_decide.mpr (Int.ofNat_inj (n:=0)).symm
theorem nlt (x k:Nat) (h:k<12):decide (x<12-k)=decide ((x:Int)<12-(k:Int)):=decide_eq_decide.mpr (by rw [show (12:Int)-(k:Int)=((12-k:Nat):Int) from (Int.ofNat_sub (Wq h)).symm,Int.ofNat_lt])
theorem units_call {A B:Nat} {n:Nat} (hn:70≤n):∀ lo,call cfg n lo ("_law_units":Str) (fnD pw "_law_units") [.int A,.int B] [] σ (rowV (unitsAt A B 12).1) σ:=by
 refine nb fun kk=>?_;refine e11 (ge_ex (n:=n) (m:=70) (by omega)) fun n qz1=>?_;obtain rfl:=qz1;obtain key:Go (exs cfg (n+69) (fnD pw "_law_units").scope σ.length (fnD pw "_law_units").body [(("hanging":Str),.val (.int B)),(("opening":Str),.val (.int A))] σ) fun fl ρ' σ'=>fl=.ret (.ref σ.length)∧σ'=σ++[.lst ((unitsAt A B 12).1.map uV)]:=by
  rw [show fnD pw "_law_units"=Fn.mk _ _ _ from rfl];dsimp only;walk_at "asg";walk_at "asg";refine go_cons ?_;refine go_ForR (σ1:=σ++[HO.lst []]) (m:=12) (f:=fun k:Nat=>V.int k) (fun k ρ σ'=>ρ.lookup ("units":Str)=some (.val (.ref σ.length))∧ρ.lookup ("height":Str)=some (.val (.int ((unitsAt A B k).2:Nat)))∧ρ.lookup ("hung":Str)=some (.val (.fro hungV))∧ρ.lookup ("opening":Str)=some (.val (.int A))∧ρ.lookup ("hanging":Str)=some (.val (.int B))∧σ'=σ++[.lst ((unitsAt A B k).1.map uV)]) (by rfl') ?_ ?_ ?_ ?_
  ·apply itr_range1
   ·rfl'
   ·left
   ·exact range12
  ·exact ⟨by left,by left,by left,by left,by left,rfl⟩
  ·rintro k ρ σ' hk ⟨hu,hh,hg,ha,hb,rfl⟩;refine ⟨_,by left,?_⟩;have e1:(unitsAt A B (k+1)).1.map uV=(unitsAt A B k).1.map uV++[uV (opens A (unitsAt A B k).2 k,B/4^k % 4)]:=List.map_append ..;have e2:(unitsAt A B (k+1)).2=if opens A (unitsAt A B k).2 k then (unitsAt A B k).2+1 else (unitsAt A B k).2-1:=rfl
   have hl:=units_len A B k;have hpos:opens A (unitsAt A B k).2 k=false→0<(unitsAt A B k).2:=fun ho=>by
    unfold opens at ho;rw [Bool.or_eq_false_iff,decide_eq_false_iff_not] at ho;exact Nat.pos_of_ne_zero ho.1
   have ho:opens A (unitsAt A B k).2 k=(decide (((unitsAt A B k).2:Int)=0)||(decide (((A/2^k % 2:Nat):Int)=0)&&decide (((unitsAt A B k).2:Int)<12-(k:Int)))):=by
    unfold opens;rw [nz,nz,nlt _ _ hk]
   generalize hU:(unitsAt A B k).1.map uV=us at hu hh⊢;have hul:us.length<4096:=by rw [←hU,Qx,hl];exact Nat.lt_trans hk (by decide)
   generalize hH:(unitsAt A B k).2=h at hh ho hpos⊢;refine go_cons (go_Assign (by rfl') (by rfl') (v:=.bool (opens A h k)) (σ1:=σ++[HO.lst us]) ?_ (by left) ?_)
   ·rw [ho];have hp:binV (σ++[HO.lst us]) .Pow (.int 2) (.int k)=some (.int ((2^k:Nat):Int)):=bin_powN (σ++[HO.lst us]) 2 k (by omega) (by decide);have hd:=bin_divN (σ++[HO.lst us]) A (2^k) (pow2s k hk).1 (pow2s k hk).2;have hm:binV (σ++[HO.lst us]) .Mod (.int ((A/2^k:Nat):Int)) (.int 2)=some (.int ((A/2^k % 2:Nat):Int)):=bin_modN (σ++[HO.lst us]) (A/2^k) 2 (by decide);apply ev_OrAnd
    ·left
    ·intro _;walk_at "*"
    ·intro _ _;walk_at "*"
   have g0:=get_last σ (HO.lst us);have hp:binV (σ++[HO.lst us]) .Pow (.int 4) (.int k)=some (.int ((4^k:Nat):Int)):=bin_powN (σ++[HO.lst us]) 4 k (by omega) (by decide);have hd:=bin_divN (σ++[HO.lst us]) B (4^k) (pow4s k hk).1 (pow4s k hk).2;have hm:binV (σ++[HO.lst us]) .Mod (.int ((B/4^k:Nat):Int)) (.int 4)=some (.int ((B/4^k % 4:Nat):Int)):=bin_modN (σ++[HO.lst us]) (B/4^k) 4 (by decide);have hi:getItemV (σ++[HO.lst us]) (.fro hungV) (.int ((B/4^k % 4:Nat):Int))=some _:=item_froNat (Nat.lt_trans (Nat.mod_lt _ (by decide)) (by decide)) (hung_get _ (Nat.mod_lt _ (by decide)));have hs:=bin_addS (σ++[HO.lst us]) [if opens A h k then 40 else 41] (txt (hungP (B/4^k % 4))) (Qy (Nat.add_le_add_left (hung_ok _).2.2 1) (by decide));have hm2:=meth_append (lo:=σ.length) (v:=uV (opens A h k,B/4^k % 4)) g0 (Nat.le_refl _) hul;rw [set_last] at hm2;refine go_cons (go_Expr (v:=.none) (σ1:=σ++[HO.lst (us++[uV (opens A h k,B/4^k % 4)])]) (by rfl') ?_ ?_)
   ·apply ev_Meth
    ·rfl'
    ·left
    ·exact tag_lst g0
    ·refine evs_cons (by rfl') (ev_BinOp (c:=uV (opens A h k,B/4^k % 4)) (σ1:=σ++[HO.lst us]) (ev_IfB (σ1:=σ++[HO.lst us]) (z:=opens A h k) ?_ ?_ ?_) ?_ hs) evs_nil
     ·apply tst_plain
      ·rfl'
      ·left
      ·rfl
     ·intro e;rw [←bracket,e,if_pos rfl];walk_at "*"
     ·intro e;rw [←bracket,e,if_neg Bool.false_ne_true];walk_at "*"
     ·left
    ·exact tag_lst g0
    ·exact hm2
   ·refine go_cons (go_Aug (k:=h) (m:=if opens A h k then 1 else -1) (v:=.int ((if opens A h k then h+1 else h-1:Nat):Nat)) (σ1:=σ++[HO.lst (us++[uV (opens A h k,B/4^k % 4)])]) (by rfl') (by left) (ev_IfB (σ1:=σ++[HO.lst (us++[uV (opens A h k,B/4^k % 4)])]) (z:=opens A h k) ?_ ?_ ?_) ?_ ?_)
    ·apply tst_plain
     ·rfl'
     ·left
     ·rfl
    ·intro e;rw [e,if_pos rfl];walk_at "*"
    ·intro e;rw [e,if_neg Bool.false_ne_true];walk_at "*"
    ·cases e:opens A h k with
     |true=>rfl
     |false=>exact congrArg (fun z:Int=>some (V.int z)) (Int.ofNat_sub (hpos e)).symm
    ·exact go_nil ⟨by left,by rw [e2,hH];walk_at "*",by left,by left,by left,by rw [e1,hU,hH]⟩
  ·rintro ρ σ' ⟨hu,hh,hg,ha,hb,rfl⟩;walk_at "ret";exact ⟨rfl,rfl⟩
 obtain ⟨fl,ρ1,σ1,h1,rfl,rfl⟩:=key;refine kk ?_;exact fun lo=>call_pure (by rfl') (ρ0:=[(("opening":Str),.val (.int A)),(("hanging":Str),.val (.int B))]) (by rfl') (by rfl') h1 (.inl rfl) (frz_rowU (get_last _ _))
theorem pop_from_call {j k:Nat} {k0:Int} {xs vs:List V} (hv:vs=[.int k]∨(vs=[]∧k=0)) (hσ:σ[j]?=some (.acc k0 xs)) (hlo:lo≤j) (hl:xs.length≤4096) {n:Nat} (hn:20≤n):mcall cfg n lo ("pop_from":Str) (methD pw "pop_from") (.ref j::vs) σ (.fro (xs.drop k)) (σ.set j (.acc k0 (xs.take k))):=by
 refine nb fun kk=>?_;refine e11 (ge_ex (n:=n) (m:=20) (by omega)) fun n qz1=>?_;obtain rfl:=qz1;obtain key:Go (exs cfg (n+19) (methD pw "pop_from").scope lo (methD pw "pop_from").body [(("i":Str),.val (.int k)),(("self":Str),.val (.ref j))] σ) fun fl ρ' σ'=>fl=.ret (.fro (xs.drop k))∧σ'=σ.set j (.acc k0 (xs.take k)):=by
  rw [show methD pw "pop_from"=Fn.mk _ _ _ from rfl];dsimp only;refine go_cons (go_Assign (by rfl') (by rfl') (v:=.fro (xs.drop k)) (σ1:=σ) ?_ (by left) ?_)
  ·exact ev_SliceA (k:=(k:Int)) (by left) (evo_some (by left)) hσ (Int.natCast_nonneg k) hl
  ·refine go_cons (go_CutA (k:=(k:Int)) rfl (σ1:=σ) (σ2:=σ) (σ3:=σ) ?_ (by left) (evo_some (by left)) hlo hσ (Int.natCast_nonneg k) hl ?_)
   ·left
   ·walk_at "ret";exact ⟨rfl,rfl⟩
 obtain ⟨fl,ρ1,σ1,h1,rfl,rfl⟩:=key;refine kk ?_;have hb:bindV (methD pw "pop_from").params (.ref j::vs) []=some [(("self":Str),.val (.ref j)),(("i":Str),.val (.int k))]:=by
  rcases hv with rfl|⟨rfl,rfl⟩<;>kernel_rfl
 exact mcall_imp (by rfl') hb h1 (.inl rfl)
theorem item_unit (u:Un):getItemV σ (uV u) (.int 0)=some (.str (mkS [if u.1 then 40 else 41])):=
 (item_str (m:=0) (c:=if u.1 then 40 else 41) (place_nat (by rw [show (mkS (uTx u)).cps.size=(uTx u).length from by simp [mkS]];exact Nat.succ_pos _) (by decide)) (by show (uTx u).toArray[0]?=_;rw [List.getElem?_toArray];rfl)).trans rfl
theorem cmp_open (b:Bool):cmpV σ .Eq (.str (mkS [if b then 40 else 41])) (.str ("(":Str))=some b:=by
 rw [open_is,cmp_eqS];cases b<;>rfl
theorem clamp_min (n d a:Nat):clampI n d (.int a)=some (min a n):=by
 show some (if (a:Int)<0 then ((a:Int)+n).toNat else min (a:Int).toNat n)=_;rw [if_neg (Int.not_lt.mpr (Int.natCast_nonneg a)),Int.toNat_natCast]
theorem take_le {α:Type} (l:List α) (b:Nat):(l.take b).length≤l.length:=by
 rw [List.length_take];exact Nat.min_le_right _ _
theorem drop_le {α:Type} (l:List α) (b:Nat):(l.drop b).length≤l.length:=by
 rw [List.length_drop];exact Nat.sub_le _ _
theorem slice_min {α:Type} (l:List α) (a b:Nat):sliceL l (min a l.length) (min b l.length)=(l.take b).drop a:=by
 unfold sliceL;rw [←List.take_take,List.take_length]
 by_cases h:a≤l.length
 ·rw [Nat.min_eq_left h]
 ·have h:=Wq (Nat.not_le.mp h);rw [Nat.min_eq_right h,List.drop_eq_nil_of_le (take_le ..),List.drop_eq_nil_of_le (Qy (take_le ..) h)]
theorem slice_fro {xs:List V} {u w:V} {a b:Nat} (hl:xs.length≤4096) (hu:u=.int a∨(u=.none∧a=0)) (hw:w=.int b∨(w=.none∧b=xs.length)):sliceV σ (.fro xs) u w=some (.fro ((xs.take b).drop a)):=by
 have h1:clampI xs.length 0 u=some (min a xs.length):=by
  rcases hu with rfl|⟨rfl,rfl⟩
  ·exact clamp_min ..
  ·rw [Nat.zero_min];rfl
 have h2:clampI xs.length xs.length w=some (min b xs.length):=by
  rcases hw with rfl|⟨rfl,rfl⟩
  ·exact clamp_min ..
  ·rw [Nat.min_self];rfl
 exact (sliceFro h1 h2 hl).trans (by rw [slice_min])
theorem slice_row {us:List Un} {u w:V} {a b:Nat} (hl:us.length≤4096) (hu:u=.int a∨(u=.none∧a=0)) (hw:w=.int b∨(w=.none∧b=us.length)):sliceV σ (rowV us) u w=some (rowV ((us.take b).drop a)):=
 (slice_fro (by rw [Qx];exact hl) hu (by rw [Qx];exact hw)).trans (by rw [←List.map_take,←List.map_drop];rfl)
theorem add_fro {a b:List V} (h:a.length+b.length≤4096):binV σ .Add (.fro a) (.fro b)=some (.fro (a++b)):=bnt (and2 rfl (dec h)) rfl
theorem meth_pop {j:Nat} {xs:List V} {v:V} (h:σ[j]?=some (.lst (xs++[v]))) (hlo:lo≤j) (hl:xs.length<4096):methV lo σ (.ref j) ("pop":Str) []=some (v,σ.set j (.lst xs)):=by
 exact methRefL (by decide +kernel) hlo h (bnt (and2 rfl (dec (by rw [Qu];exact hl))) (mpd List.getLast?_concat (by rw [List.dropLast_concat])))
theorem neg_one {ρ:Rho} {C:Cfg} {sc:Scope} {n:Nat} {p q:Pos} {k:Nat}:ev C (n+2) sc lo (.UnaryOp .USub (.Constant (.int 1) k q) p) ρ σ (.int (-1)) σ:=ev_UnaryOp (ev_CInt 1 k q) rfl
theorem set_same {α:Type} {l:List α} {i:Nat} {x:α} (h:l[i]?=some x):l.set i x=l:=by
 refine e11 (Qz h) fun hl qz1=>?_;obtain rfl:=qz1;exact List.set_getElem_self hl
theorem get_set {α:Type} {l:List α} {i:Nat} {x y:α} (h:l[i]?=some y):(l.set i x)[i]?=some x:=by
 rw [List.getElem?_set_self (Qz h).1]
theorem get_ne {α:Type} {l:List α} {i j:Nat} {x:α} {o:Option α} (hij:i≠j) (h:l[j]?=o):(l.set i x)[j]?=o:=by
 rw [List.getElem?_set_ne hij];exact h
theorem get_app {α:Type} {l r:List α} {i:Nat} {x:α} (h:l[i]?=some x):(l++r)[i]?=some x:=by
 rw [List.getElem?_append_left (Qz h).1];exact h
theorem len_lst {j:Nat} {xs:List V} (h:σ[j]?=some (.lst xs)) (hl:xs.length≤4096):builtinV σ ("len":Str) [.ref j]=some (.int xs.length):=by
 have:lenV σ (.ref j)=some (xs.length:Int):=by unfold lenV smallN;simp only [h,hl,if_true]
 exact bnt rfl (mpd (f:=V.int) (o:=one (lenV σ) [_]) this rfl)
theorem len_fro {xs:List V} (hl:xs.length≤4096):builtinV σ ("len":Str) [.fro xs]=some (.int xs.length):=by
 have:lenV σ (.fro xs)=some (xs.length:Int):=by unfold lenV smallN;simp only [hl,if_true]
 exact bnt rfl (mpd (f:=V.int) (o:=one (lenV σ) [_]) this rfl)
theorem len_str {l:List Nat} (hl:l.length≤4096):builtinV σ ("len":Str) [.str (mkS l)]=some (.int l.length):=by
 have:lenV σ (.str (mkS l))=some (l.length:Int):=by
  show smallN (mkS l).length=_;rw [mkS_len];unfold smallN;rw [if_pos hl]
 exact bnt rfl (mpd (f:=V.int) (o:=one (lenV σ) [_]) this rfl)
theorem fits {i:Int} (h1:-10000≤i) (h2:i≤10000):Builtin.Range.rangeFitsLong i=true:=by
 unfold Builtin.Range.rangeFitsLong;rw [Bool.and_eq_true,decide_eq_true_eq,decide_eq_true_eq];omega
theorem fitsN {n:Nat} (h:n≤10000):Builtin.Range.rangeFitsLong (n:Int)=true:=fits (Int.le_trans (by decide) (Int.natCast_nonneg n)) (Int.ofNat_le.mpr h)
theorem range_nat {m:Nat} (h:m<4096):rangeV 0 m 1=some ((List.range m).map fun k:Nat=>V.int k):=by
 have h2:Builtin.Range.rangeSize 0 m 1=m:=by
  unfold Builtin.Range.rangeSize;rw [if_pos (by decide)]
  split
  ·rw [Int.ediv_one];omega
  ·omega
 have h1:Builtin.Range.small 0 m 1=true:=by
  have f:=fitsN (Qy (Wq h) (by decide:4096≤10000));unfold Builtin.Range.small;rw [h2,show Builtin.Range.rangeFitsLong 0=true from by decide,f,show Builtin.Range.rangeFitsLong 1=true from by decide,if_pos (by decide),show Builtin.Range.rangeFitsLong ((m:Int)+(1-1))=true from (Int.add_zero (m:Int)).symm▸f];simp
 unfold rangeV;rw [h1];simp only [Bool.true_and,show ((1:Int) !=0&&decide (Int.natAbs 1<1073741824))=true from by decide,if_true];unfold rangeL;rw [h2];simp
theorem compOk_one {x:Str} {p:Pos} {iter:Expr} (h1:(tgtOk iter (.Name x p)&&notGen iter)=true) (h2:ρ.lookup x=none):compOk (.Name x p) iter ρ:=by
 refine ⟨h1,fun y hy=>?_⟩;obtain rfl:y=x:=Wz hy;exact h2
theorem toD_fro {n:Nat} {xs:List V} {ds:List PyData} (h:mapO (toDσ σ n) xs=some ds):toDσ σ (n+1) (.fro xs)=some (.list ds):=mpd h rfl
theorem toD_str {n:Nat} {s:Str}:toDσ σ n (.str s)=some (.str s):=by cases n<;>rfl
theorem toD_int {n:Nat} {i:Int}:toDσ σ n (.int i)=some (.int i):=by cases n<;>rfl
theorem mapO_map {α β γ:Type} (f:α→Option β) (g:γ→α) (k:γ→β):∀ (l:List γ),(∀ x∈l,f (g x)=some (k x))→mapO f (l.map g)=some (l.map k)
 |[],_=>rfl
 |x::l,h=>bnd (h x Qk) (mpd (mapO_map f g k l fun y hy=>h y (Qj _ hy)) rfl)
mutual
noncomputable def ndD:PyData→Bool
 |.list xs=>ndL xs
 |.tuple xs=>ndL xs
 |.dict _=>false
 |_=>true
noncomputable def ndL:List PyData→Bool
 |[]=>true
 |x::xs=>ndD x&&ndL xs
end
mutual
theorem eqv_self:∀ d:PyData,ndD d=true→PyData.eqv d d=true
 |.none,_=>rfl
 |.bool b,_=>by simp [PyData.eqv]
 |.int i,_=>by simp [PyData.eqv]
 |.str x,_=>by simp [PyData.eqv]
 |.list xs,h=>by rw [PyData.eqv];exact eqvL_self xs h
 |.tuple xs,h=>by rw [PyData.eqv];exact eqvL_self xs h
 |.dict _,h=>by cases h
theorem eqvL_self:∀ xs:List PyData,ndL xs=true→PyData.eqvAll xs xs=true
 |[],_=>rfl
 |x::xs,h=>by
  obtain h':ndD x=true∧ndL xs=true:=⟨and_l (b:=ndL xs) h,and_r (a:=ndD x) h⟩
  rw [PyData.eqvAll,eqv_self x h'.1,eqvL_self xs h'.2];rfl
end
theorem cmpNe_of {a b:V} {x:PyData} (h1:toDσ σ depthD a=some x) (h2:toDσ σ depthD b=some x) (hx:ndD x=true):cmpV σ .NotEq a b=some false:=by
 exact (show (cmpE σ a b).map (fun z=>!z)=_ from mpd (f:=fun z=>!z) (a:=true) (bnd h1 (mpd h2 (eqv_self x hx))) rfl)
theorem lenV_acc {j k:Nat} {xs:List V} (h:σ[j]?=some (.acc (k:Int) xs)):lenV σ (.ref j)=(accLen xs).bind fun n=>if 0≤(k:Int)∧k+n<4611686018427387904∧xs.length≤4096 then some (k+n) else none:=by
 unfold lenV;simp only [h]
theorem len_acc {j:Nat} {k m:Nat} {xs:List V} (h:σ[j]?=some (.acc (k:Int) xs)) (ha:accLen xs=some (m:Int)) (hk:k≤1000) (hm:m≤10000) (hl:xs.length≤4096):builtinV σ ("len":Str) [.ref j]=some (.int ((k+m:Nat):Int)):=by
 obtain c:0≤(k:Int)∧(k:Int)+(m:Int)<4611686018427387904∧xs.length≤4096:=⟨by omega,by omega,hl⟩
 have:lenV σ (.ref j)=some ((k+m:Nat):Int):=by
  rw [lenV_acc h,ha,Int.natCast_add,Option.bind_some,if_pos c]
 exact bnt rfl (mpd (f:=V.int) (o:=one (lenV σ) [_]) this rfl)
noncomputable def tails:List (List Pc):=[[.ch 41,.ch 40],[.es 34,.ch 40,.es 34]]
theorem tail_ok {e:List Pc} (h:e∈tails):(∀ p∈e,p.ok)∧(txt e).length≤100∧decide (balP 0 e=some 0)=false:=by
 unfold tails at h;rcases Wy h with rfl|h
 ·refine ⟨fun p hp=>?_,by decide,by decide⟩;rcases Wy hp with rfl|hp
  ·exact (⟨by decide,by decide⟩:(41:Nat)≠34∧(41:Nat)≠92)
  ·rw [List.mem_singleton] at hp;subst hp;exact (⟨by decide,by decide⟩:(40:Nat)≠34∧(40:Nat)≠92)
 ·rw [List.mem_singleton] at h;subst h;refine ⟨fun p hp=>?_,by decide,by decide⟩;rcases Wy hp with rfl|hp
  ·trivial
  rcases Wy hp with rfl|hp
  ·exact (⟨by decide,by decide⟩:(40:Nat)≠34∧(40:Nat)≠92)
  ·rw [List.mem_singleton] at hp;subst hp;trivial
theorem tails_is:[V.str (")(":Str),.str ("\\\"(\\\"":Str)]=tails.map fun e=>V.str (mkS (txt e)):=by
 have e1:(")(":Str)=mkS (txt [.ch 41,.ch 40]):=by decide +kernel
 have e2:("\\\"(\\\"":Str)=mkS (txt [.es 34,.ch 40,.es 34]):=by decide +kernel
 rw [e1,e2];rfl
theorem tsts_one {C:Cfg} {sc:Scope} {n:Nat} {x:Expr} {z:Bool} (h:tst C (n+1) sc lo x ρ σ z σ):tsts C (n+2) sc lo .And [x] ρ σ z σ:=by
 cases z with
 |true=>exact tsts_and h tsts_nilA
 |false=>exact tsts_andF h
theorem tst_Or2 {C:Cfg} {sc:Scope} {n:Nat} {x y:Expr} {p:Pos} (h1:tst C (n+2) sc lo x ρ σ false σ) (h2:tst C (n+1) sc lo y ρ σ false σ):tst C (n+4) sc lo (.BoolOp .Or [x,y] p) ρ σ false σ:=tst_Bool (tsts_or h1 (tsts_or h2 tsts_nilO))
theorem compOk_two {x y:Str} {p q r:Pos} {k:Nat} {iter:Expr} (h1:(tgtOk iter (.Tuple [.Name x p,.Name y q] k r)&&notGen iter)=true) (h2:ρ.lookup x=none) (h3:ρ.lookup y=none):compOk (.Tuple [.Name x p,.Name y q] k r) iter ρ:=by
 refine ⟨h1,fun z hz=>?_⟩;rcases Wy (show z∈[x,y] from hz) with rfl|hz
 ·exact h2
 ·rw [Wz hz];exact h3
theorem rangeSize_up (a b:Nat):Builtin.Range.rangeSize (a:Int) (b:Int) 2=(((b-a+1)/2:Nat):Int):=by
 unfold Builtin.Range.rangeSize;rw [if_pos (by decide)]
 by_cases h:(a:Int)<b
 ·rw [if_pos h];obtain ⟨d,rfl⟩:=Nat.exists_eq_add_of_lt (Int.ofNat_lt.mp h);rw [show ((a+d+1:Nat):Int)-a-1=(d:Nat) from by omega,show a+d+1-a+1=d+2 from by omega,Nat.add_div_right _ (by decide)];rfl
 ·rw [if_neg h,Nat.sub_eq_zero_of_le (Int.ofNat_le.mp (Int.not_lt.mp h))];rfl
theorem range_up (a b:Nat) (ha:a≤1000) (hb:b≤1000):Builtin.Range.small (a:Int) (b:Int) 2=true∧rangeL (a:Int) (b:Int) 2=(List.range ((b-a+1)/2)).map fun k:Nat=>V.int ((a+2*k:Nat):Int):=by
 refine ⟨?_,?_⟩
 ·unfold Builtin.Range.small;rw [rangeSize_up,fitsN (Qy ha (by decide)),fitsN (Qy hb (by decide)),show Builtin.Range.rangeFitsLong 2=true from by decide,fitsN (Qy (Nat.div_le_self ..) (Qy (Nat.succ_le_succ (Qy (Nat.sub_le ..) hb)) (by decide))),if_pos (by decide),show Builtin.Range.rangeFitsLong ((b:Int)+(2-1))=true from fitsN (n:=b+1) (Qy (Nat.succ_le_succ hb) (by decide))];simp
 ·unfold rangeL;rw [rangeSize_up,Int.toNat_natCast];refine List.map_congr_left fun k hk=>?_;exact congrArg V.int (by omega)
theorem is_true (c:Bool):cmpV σ .Is (.bool c) (.bool true)=some c:=by cases c<;>rfl
theorem tag_acc {j:Nat} {k:Int} {xs:List V} (h:σ[j]?=some (.acc k xs)):tagV σ (.ref j)=some 2:=by unfold tagV;simp only [h]
theorem meth_push {j:Nat} {k:Int} {xs:List V} {a b:Str} (h:σ[j]?=some (.acc k xs)) (hlo:lo≤j) (hl:xs.length<4096):methV lo σ (.ref j) ("push":Str) [.str a,.str b]=some (.none,σ.set j (.acc k (xs++[.tup [.str a,.str b]]))):=
 methRefA (by decide +kernel) hlo h (bnt (and2 (and2 rfl rfl) (dec hl)) (bnd (a:=a) rfl (mpd (a:=b) rfl rfl)))
theorem len_row {us:List Un} (hl:us.length≤4096):builtinV σ ("len":Str) [rowV us]=some (.int us.length):=by
 have:=len_fro (σ:=σ) (xs:=us.map uV) (by rw [Qx];exact hl);rw [Qx] at this;exact this
theorem row_join (r:List Un) (hl:r.length≤100):methV lo σ (.str (Str.ofString "")) ("join":Str) [rowV r]=some (.str (mkS (rowTx r)),σ):=by
 have:=meth_joinF (lo:=lo) (σ:=σ) (ls:=r.map uTx) (by rw [←List.flatMap_def];exact Qy (rowTx_len r) (Qy (Nat.mul_le_mul_right 4 hl) (by decide)));rw [List.map_map,←List.flatMap_def] at this;exact this
theorem check_row (r:List Un) {e:List Pc} (hl:r.length≤100) (hok:∀ p∈e,p.ok) (he:(txt e).length≤100) {n:Nat} (hn:120≤n):call cfg n lo ("_check_parenthesis":Str) (fnD pw "_check_parenthesis") [.str (mkS (rowTx r++txt e))] [] σ (.bool (decide (((dy 0 r).bind fun d=>balP d e)=some 0))) σ:=by
 have hx:rowTx r++txt e=txt (r.flatMap uPc++e):=by rw [txt_append,←rowTx_txt]
 have h:=check_call (lo:=lo) (σ:=σ) (ps:=r.flatMap uPc++e) (fun p hp=>(Wx hp).elim (row_ok r p) (hok p)) (by rw [←hx,Qu];exact Nat.lt_of_le_of_lt (Nat.add_le_add (Qy (rowTx_len r) (Nat.mul_le_mul_right 4 hl)) he) (by decide)) hn;have e:ckT (toksOf 0 ((r.flatMap uPc++e).filter fun p=>!p.isQu))=decide (((dy 0 r).bind fun d=>balP d e)=some 0):=by
  unfold ckT;rw [ck_bal,bal_app,bal_row];cases (dy 0 r).bind fun d=>balP d e with
  |none=>rfl
  |some o=>exact decide_eq_decide.mpr ⟨fun h=>by rw [h],fun h=>Qw h⟩
 rw [e,←hx] at h;exact h
theorem check_row0 (r:List Un) (hl:r.length≤100) {n:Nat} (hn:120≤n):call cfg n lo ("_check_parenthesis":Str) (fnD pw "_check_parenthesis") [.str (mkS (rowTx r))] [] σ (.bool (decide (dy 0 r=some 0))) σ:=by
 have:=check_row (lo:=lo) (σ:=σ) r (e:=[]) hl (fun p hp=>nomatch hp) (by decide) hn;rw [show txt []=[] from rfl,List.append_nil] at this;rw [show ((dy 0 r).bind fun d=>balP d [])=dy 0 r from by cases dy 0 r<;>rfl] at this;exact this
noncomputable def cutU (us:List Un) (i m:Nat):List Un:=(us.take (i+2*m+2)).drop i
theorem close_call {us:List Un} {i m:Nat} (hl:us.length≤100) (h1:dy 0 (cutU us i m)=some 0) (h2:∀ k,k<m→dy 0 (cutU us i k)≠some 0) (h3:i+2*m+1<us.length) {n:Nat} (hn:200≤n):
  call cfg n lo ("_law_close":Str) (fnD pw "_law_close") [rowV us,.int i] [] σ (.int ((i+2*m+1:Nat):Int)) σ:=by
 refine e11 (ge_ex (n:=n) (m:=200) (by omega)) fun n qz1=>?_;obtain rfl:=qz1;obtain key:Go (exs cfg (n+199) (fnD pw "_law_close").scope σ.length (fnD pw "_law_close").body [(("first":Str),.val (.int i)),(("units":Str),.val (rowV us))] σ) fun fl' ρ' σ'=>fl'=.ret (.int ((i+2*m+1:Nat):Int))∧σ'=σ:=by
  rw [show fnD pw "_law_close"=Fn.mk _ _ _ from rfl];dsimp only;refine go_cons ?_;have hlb:=len_row (σ:=σ) (us:=us) (Qy hl (by decide));obtain ⟨hu1,hu2⟩:=range_up (i+1) us.length (Qy (Qh (Nat.lt_of_le_of_lt (Qy (Nat.le_add_right i (2*m)) (Nat.le_succ _)) h3) hl) (by decide)) (Qy hl (by decide));refine go_ForR (σ1:=σ) (m:=(us.length-(i+1)+1)/2) (f:=fun k:Nat=>V.int ((i+1+2*k:Nat):Int)) (fun k ρ τ=>(ρ.lookup ("units":Str)=some (.val (rowV us))∧ρ.lookup ("first":Str)=some (.val (.int i)))∧k≤m∧τ=σ) (by rfl') ?_ ?_ ?_ ?_
  ·rw [←hu2];exact itr_range3 (by rfl') (evs_cons (by rfl') (by left) (evs_cons (by rfl') (by left) (evs_cons (by rfl') (by left) evs_nil))) (by decide) (by decide) hu1
  ·exact ⟨⟨by left,by left⟩,Nat.zero_le _,rfl⟩
  ·rintro k' ρ τ _ ⟨⟨g1,g2⟩,hk,rfl⟩;refine ⟨_,by left,?_⟩;have s1:sliceV τ (rowV us) (.int i) (.int (((i+1+2*k':Nat):Int)+1))=some (rowV (cutU us i k')):=(slice_row (a:=i) (b:=i+1+2*k'+1) (Qy hl (by decide)) (.inl rfl) (.inl rfl)).trans (by unfold cutU;rw [Nat.add_right_comm i 1 (2*k')]);have hz:decide (dy 0 (cutU us i k')=some 0)=decide (k'=m):=by
    rcases Nat.lt_or_eq_of_le hk with q|rfl
    ·rw [decide_eq_false (h2 k' q),decide_eq_false (Nat.ne_of_lt q)]
    ·rw [decide_eq_true h1,decide_eq_true rfl]
   have hrl:(cutU us i k').length≤100:=by
    unfold cutU;exact Qy (drop_le ..) (Qy (by rw [List.length_take];exact Nat.min_le_right ..) hl)
   generalize cutU us i k'=r at s1 hz hrl;have s2:=row_join (lo:=τ.length) (σ:=τ) r hrl;have s4:∀ m,120≤m→_:=fun m hm=>check_row0 (lo:=τ.length) (σ:=τ) (n:=m) r hrl hm;have s5:=is_true (σ:=τ) (decide (dy 0 r=some 0));rw [hz] at s4 s5;refine go_cons (go_If (z:=decide (k'=m)) (σ1:=τ) (tst_Cmp (σ1:=τ) (ev_FnC (vs:=[.str (mkS (rowTx r))]) (σ1:=τ) ?_ (by left) (by rfl') (by rfl') (by rfl') (s4 _ (by omega))) (chain_one (by left) s5)) ?_)
   ·left
   ·by_cases q:k'=m
    ·rw [if_pos (decide_eq_true q)];walk_at "ret";exact ⟨by rw [q,Nat.add_right_comm i 1 (2*m)],rfl⟩
    ·rw [if_neg (by rw [decide_eq_false q];decide)];exact go_nil (go_nil ⟨⟨by left,by left⟩,Nat.lt_of_le_of_ne hk q,rfl⟩)
  ·rintro ρ τ ⟨_,hk,_⟩;have h4:2*m+1≤us.length-(i+1):=Nat.le_sub_of_add_le (by rw [show 2*m+1+(i+1)=i+2*m+1+1 from by omega];exact h3);exact absurd hk (Nat.not_le.mpr (Qy (Nat.le_of_eq (Nat.mul_div_cancel_left (m+1) (by decide:0<2)).symm) (Nat.div_le_div_right (c:=2) (Nat.succ_le_succ h4))))
 obtain ⟨fl,ρ1,σ1,h1,rfl,rfl⟩:=key;exact call_frz (ρ0:=[(("units":Str),.val (rowV us)),(("first":Str),.val (.int i))]) (by rfl') (by rfl') (by rfl') h1 rfl
theorem nst_next (b:List Bool) {k:Nat} {x:Bool} (h:b[k]?=some x):nstB (b.take (k+1))=stepB (nstB (b.take k)) x:=by
 unfold nstB;rw [List.take_add_one,h,Option.toList_some,List.foldl_append];rfl
theorem dy_N:∀ (us:List Un) (h:Nat),dy (h:Int) us=(dyN h (us.map (·.1))).map fun k:Nat=>(k:Int)
 |[],h=>rfl
 |(true,a)::r,h=>dy_N r (h+1)
 |(false,a)::r,0=>rfl
 |(false,a)::r,h+1=>by
  have:=dy_N r h;rw [dy_cons,if_neg Bool.false_ne_true,if_neg (by omega),show ((h+1:Nat):Int)-1=(h:Int) from by omega];exact this
theorem frz_ints {σ:St} {ns:List Int} {j lo n:Nat} (h:σ[j]?=some (.lst (ns.map V.int))) (hlo:lo≤j):frz σ lo (n+2) (.ref j)=some (.fro (ns.map V.int)):=
 bnf (decide_eq_false (Ww hlo)) (bnd (seqRef h) (mpd (mapO_map (frz σ lo (n+1)) V.int V.int ns fun _ _=>rfl) rfl))
theorem two_get {σ:St} {a b:HO}:(σ++[a,b])[σ.length]?=some a∧(σ++[a,b])[σ.length+1]?=some b:=by
 rw [List.getElem?_append_right (Nat.le_refl _),List.getElem?_append_right (Nat.le_add_right _ 1),Nat.sub_self,Nat.add_sub_cancel_left];exact ⟨rfl,rfl⟩
theorem two_set {σ:St} {a b c:HO}:(σ++[a,b]).set σ.length c=σ++[c,b]∧(σ++[a,b]).set (σ.length+1) c=σ++[a,c]:=by
 rw [List.set_append_right _ _ (Nat.le_refl _),List.set_append_right _ _ (Nat.le_add_right _ 1),Nat.sub_self,Nat.add_sub_cancel_left];exact ⟨rfl,rfl⟩
theorem nest_call {us:List Un} (hl:us.length=12) (hf:∀ k,k<12→(nstB ((us.map (·.1)).take k)).2≠[]∧(nstB ((us.map (·.1)).take k)).1.length≤100∧(nstB ((us.map (·.1)).take k)).2.length≤100) {n:Nat} (hn:60≤n):
  call cfg n lo ("_law_nest":Str) (fnD pw "_law_nest") [rowV us] [] σ (.fro ((olB (us.map (·.1))).map V.int)) σ:=by
 refine e11 (ge_ex (n:=n) (m:=60) (by omega)) fun n qz1=>?_;obtain rfl:=qz1;generalize hb:us.map (·.1)=b at hf;obtain key:Go (exs cfg (n+59) (fnD pw "_law_nest").scope σ.length (fnD pw "_law_nest").body [(("units":Str),.val (rowV us))] σ) fun fl' ρ' σ'=>fl'=.ret (.ref σ.length)∧σ'=σ++[HO.lst ((nstB b).1.map V.int),.lst ((nstB b).2.map V.int)]:=by
  rw [show fnD pw "_law_nest"=Fn.mk _ _ _ from rfl];dsimp only;refine go_cons (go_Assign (by rfl') (by rfl') (v:=.tup [.ref σ.length,.ref (σ++[HO.lst []]).length]) (σ1:=(σ++[HO.lst []])++[HO.lst [.int (-1)]]) ?_ (by left) ?_)
  ·exact ev_Tuple (evs_cons (σ1:=σ++[HO.lst []]) (by rfl') (by left) (evs_cons (by rfl') (ev_ListT (by decide +kernel) (evs_cons (by rfl') neg_one evs_nil)) evs_nil))
  ·rw [show (σ++[HO.lst []])++[HO.lst [V.int (-1)]]=σ++[HO.lst [],HO.lst [V.int (-1)]] from List.append_assoc ..,show (σ++[HO.lst []]).length=σ.length+1 from Qu];refine go_cons ?_;refine go_ForM (σ1:=σ++[HO.lst [],HO.lst [.int (-1)]]) (f:=uV) (l:=us) (fun k ρ τ=>(ρ.lookup ("outer":Str)=some (.val (.ref σ.length))∧ρ.lookup ("opened":Str)=some (.val (.ref (σ.length+1))))∧τ=σ++[HO.lst ((nstB (b.take k)).1.map V.int),.lst ((nstB (b.take k)).2.map V.int)]) (by rfl') ?_ ?_ ?_ ?_
   ·refine itr_fro (by rfl') ?_;show ev _ _ _ _ _ _ _ (rowV us) _;left
   ·exact ⟨⟨by left,by left⟩,rfl⟩
   ·rintro k u ρ τ hu ⟨⟨g1,g2⟩,rfl⟩;refine ⟨_,by left,?_⟩;have hk:k<12:=hl▸(Qz hu).1;obtain ⟨f1,f2,f3⟩:=hf k hk;have hnx:=nst_next b (k:=k) (x:=u.1) (by rw [←hb,Qb,hu];rfl);generalize nstB (b.take k)=s at f1 f2 f3 hnx;obtain ⟨o,s⟩:=s;dsimp only at f1 f2 f3;obtain ⟨s',z,rfl⟩:∃ s' z,s=s'++[z]:=⟨s.dropLast,s.getLast f1,(List.dropLast_concat_getLast f1).symm⟩
    have t1:=(two_get (σ:=σ) (a:=HO.lst (o.map V.int)) (b:=HO.lst ((s'++[z]).map V.int))).1;have t2:(σ++[HO.lst (o.map V.int),HO.lst ((s'++[z]).map V.int)])[σ.length+1]?=some (HO.lst (s'.map V.int++[V.int z])):=by
     rw [two_get.2,List.map_append];rfl
    have hi:=item_unit (σ:=σ++[HO.lst (o.map V.int),.lst ((s'++[z]).map V.int)]) u;have hc:=cmp_open (σ:=σ++[HO.lst (o.map V.int),.lst ((s'++[z]).map V.int)]) u.1;refine go_cons (go_If (z:=u.1) (σ1:=σ++[HO.lst (o.map V.int),.lst ((s'++[z]).map V.int)]) (by left) ?_);cases hu1:u.1 with
    |true=>
     rw [if_pos rfl];rw [hu1] at hnx;have hlast:=item_last t2;have htag:=tag_lst t1;have ha:=meth_append (lo:=σ.length) (v:=.int z) t1 (Nat.le_refl _) (by rw [Qx];omega);rw [two_set.1] at ha;have s1:=(two_get (σ:=σ) (a:=HO.lst (o.map V.int++[V.int z])) (b:=HO.lst ((s'++[z]).map V.int))).1;have s2:=(two_get (σ:=σ) (a:=HO.lst (o.map V.int++[V.int z])) (b:=HO.lst ((s'++[z]).map V.int))).2;have htag2:=tag_lst s2;have hlen:=len_lst s1 (by rw [Qu,Qx,List.length_singleton];omega);rw [Qu,Qx,List.length_singleton] at hlen;have ha2:=meth_append (lo:=σ.length) (v:=.int (((o.length+1:Nat):Int)-1)) s2 (Nat.le_succ _) (by rw [Qx];omega);rw [two_set.2] at ha2;walk_at "call stmt";walk_at "call stmt";refine go_nil (go_nil ⟨⟨by left,by left⟩,?_⟩);rw [hnx,show ((o.length+1:Nat):Int)-1=(o.length:Int) from by omega];show _=σ++[HO.lst ((o++[(s'++[z]).getLastD 0]).map V.int),.lst (((s'++[z])++[(o.length:Int)]).map V.int)]
     rw [List.getLastD_concat];simp only [List.map_append,List.map_cons,List.map_nil]
    |false=>
     rw [if_neg Bool.false_ne_true];rw [hu1] at hnx;have hp:=meth_pop (lo:=σ.length) t2 (Nat.le_succ _) (by rw [Qx];rw [Qu] at f3;omega);have t3:=(two_get (σ:=σ) (a:=HO.lst (o.map V.int)) (b:=HO.lst ((s'++[z]).map V.int))).2;have htag:=tag_lst t3;rw [two_set.2] at hp;walk_at "call stmt";refine go_nil (go_nil ⟨⟨by left,by left⟩,?_⟩);rw [hnx];show _=σ++[HO.lst (o.map V.int),.lst (((s'++[z]).dropLast).map V.int)]
     rw [List.dropLast_concat]
   ·rintro ρ τ ⟨⟨g1,g2⟩,rfl⟩;rw [hl,List.take_of_length_le (by rw [←hb,Qx,hl];exact Nat.le_refl _)];walk_at "ret";exact ⟨rfl,rfl⟩
 obtain ⟨fl,ρ1,σ1,h1,rfl,rfl⟩:=key;exact call_frz (ρ0:=[(("units":Str),.val (rowV us))]) (by rfl') (by rfl') (by rfl') h1 (frz_ints two_get.1 (Nat.le_refl _))
theorem comp_all {α:Type} (g:α→V) (ys:List α) (f:α→V) {C:Cfg} {n:Nat} {t iter elt:Expr} {s:Scope} (hc:compOk t iter ρ) (hl:ys.length≤4096)
  (h:∀ y∈ys,∃ ρ1,bindT s t (g y) ρ=some ρ1∧ev C (n+1) s lo elt ρ1 σ (f y) σ):
  comp C (n+2) s lo elt ⟨t,iter,[],0⟩ [] (.fix (ys.map g)) ρ [] σ (ys.map f) σ:=by
 have:=comp_last (C:=C) (n:=n+1) (lo:=lo) (σ:=σ) g ys (fun o_=>true) f (acc:=[]) (elt:=elt) (s:=s) hc (by simpa using hl) fun y hy=>by
  refine e12 (h y hy) fun ρ1 h1 h2=>?_;exact ⟨ρ1,h1,tsts_nil,fun o_=>h2⟩
 rw [List.filter_eq_self.mpr (fun o_ o_=>rfl)] at this;exact this
section
variable {C:Cfg} {sc:Scope} {n:Nat} {x y l m r:Expr} {p:Pos} {a b c:V} {z1 z2:Bool} {op1 op2:CmpOp}
theorem tst_And2 (h1:tst C (n+1) sc lo x ρ σ z1 σ) (h2:z1=true→tst C n sc lo y ρ σ z2 σ) (hn:0<n):tst C (n+3) sc lo (.BoolOp .And [x,y] p) ρ σ (z1&&z2) σ:=by
 cases z1 with
 |false=>exact tst_Bool (tsts_andF h1)
 |true=>
  refine e11 (ge_ex (n:=n) (m:=1) (by omega)) fun n qz1=>?_;obtain rfl:=qz1;cases z2 with
  |true=>exact tst_Bool (tsts_and h1 (tsts_and (h2 rfl) tsts_nilA))
  |false=>exact tst_Bool (tsts_and h1 (tsts_andF (h2 rfl)))
theorem tst_two (h1:ev C (n+2) sc lo l ρ σ a σ) (h2:ev C (n+1) sc lo m ρ σ b σ) (h3:ev C n sc lo r ρ σ c σ) (c1:cmpV σ op1 a b=some z1) (c2:cmpV σ op2 b c=some z2):tst C (n+3) sc lo (.Compare l [op1,op2] [m,r] p) ρ σ (z1&&z2) σ:=by
 refine tst_Cmp h1 (chain_cons h2 c1 ?_);cases z1 with
 |true=>exact chain_one h3 c2
 |false=>exact ⟨rfl,rfl⟩
end
theorem ev_AndOr {C:Cfg} {sc:Scope} {n lo:Nat} {σ:St} {ρ:Rho} {x y z:Expr} {p q:Pos} {a b c:Bool} (h1:ev C (n+4) sc lo x ρ σ (.bool a) σ) (h2:a=true→ev C (n+1) sc lo y ρ σ (.bool b) σ) (h3:a=true→b=false→ev C n sc lo z ρ σ (.bool c) σ):
  ev C (n+6) sc lo (.BoolOp .And [x,.BoolOp .Or [y,z] q] p) ρ σ (.bool (a&&(b||c))) σ:=by
 refine ev_BoolOp (evBool_go (t:=a) h1 rfl ?_);cases a with
 |false=>exact ⟨rfl,rfl⟩
 |true=>
  refine evBool_last (ev_BoolOp (evBool_go (t:=b) (h2 rfl) rfl ?_));cases b with
  |true=>exact ⟨rfl,rfl⟩
  |false=>exact evBool_last (h3 rfl rfl)
noncomputable def jobsV (f:Nat→Nat):V:=.fro ((List.range 6).map fun k=>V.int (f k:Nat))
theorem item_job {f:Nat→Nat} {k:Nat} (h:k<6):getItemV σ (jobsV f) (.int k)=some (.int (f k:Nat)):=item_froNat (by omega) (by rw [Qb,List.getElem?_range h];rfl)
theorem bin_mulN (σ:St) (a b:Nat) (ha:a<4096) (hb:b<4096):binV σ .Mult (.int a) (.int b)=some (.int ((a*b:Nat):Int)):=bin_mul (smallNat ha) (smallNat hb)
theorem bt_z (S x:Nat):decide (((S/2^x % 2:Nat):Int)=0)=!bt S x:=by
 unfold bt;rcases Nat.mod_two_eq_zero_or_one (S/2^x) with e|e<;>rw [e]<;>rfl
theorem bt_o (S x:Nat):decide (((S/2^x % 2:Nat):Int)=1)=bt S x:=by
 unfold bt;rcases Nat.mod_two_eq_zero_or_one (S/2^x) with e|e<;>rw [e]<;>rfl
theorem pow6s:∀ k<6,2^k≠0∧smallI ((2^k:Nat):Int)=true:=by decide
theorem sm_le {f:Nat→Nat} {m:Nat} (h:∀ k,f k≤m):∀ l:List Nat,sm f l≤m*l.length
 |[]=>Nat.zero_le _
 |x::l=>by rw [sm_cons,List.length_cons,Nat.mul_succ,Nat.add_comm];exact Nat.add_le_add (sm_le h l) (h x)
theorem sm_int (f:Nat→Nat):∀ l:List Nat,(l.map fun k=>((f k:Nat):Int)).sum=((sm f l:Nat):Int)
 |[]=>rfl
 |x::l=>by rw [List.map_cons,List.sum_cons,sm_int f l,sm_cons,Int.natCast_add]
theorem dpT_len {w p ou:Nat→Nat} {room S x:Nat} {best:List Int}:(dpT w p ou room S best x).length=best.length:=by
 unfold dpT
 split
 ·exact List.length_set ..
 ·rfl
theorem dpF_len {w p ou:Nat→Nat} {room S:Nat} {best:List Int}:∀ k,((List.range k).foldl (dpT w p ou room S) best).length=best.length
 |0=>rfl
 |k+1=>by rw [List.range_succ,List.foldl_append];exact dpT_len.trans (dpF_len k)
theorem dp_len {w p ou:Nat→Nat} {room:Nat}:∀ k,(dp w p ou room k).length=64
 |0=>rfl
 |k+1=>by
  rw [dp_step];unfold dpS
  by_cases h:(dp w p ou room k).getD k 0<0
  ·rw [if_pos h];exact dp_len k
  ·rw [if_neg h];exact (dpF_len 6).trans (dp_len k)
theorem item_best {j k:Nat} {best:List Int} (h:σ[j]?=some (.lst (best.map V.int))) (hl:best.length=64) (hk:k<64):getItemV σ (.ref j) (.int k)=some (.int (best.getD k 0)):=
 item_nat h (by omega) (by rw [Qb,Qv (hl▸hk),Qd,Qv (hl▸hk)];rfl)
noncomputable def leastF:Stmt:=nthS (fnD pw "_law_least").body 1
noncomputable def leastB:List Stmt:=bodyS leastF
noncomputable def leastI:List Stmt:=bodyS (nthS leastB 2)
noncomputable abbrev lsc:Scope:=(fnD pw "_law_least").scope
@[reducible] noncomputable def DEnv (j:Nat) (w p:Nat→Nat) (oul:List Int) (room:Nat) (ρ:Rho):Prop:=ρ.lookup ("best":Str)=some (.val (.ref j))∧ρ.lookup ("outer":Str)=some (.val (.fro (oul.map V.int)))∧ρ.lookup ("weights":Str)=some (.val (jobsV w))∧ρ.lookup ("sizes":Str)=some (.val (jobsV p))∧ρ.lookup ("room":Str)=some (.val (.int room))
@[reducible] noncomputable def OulOk (oul:List Int):Prop:=oul.length=6∧∀ k,k<6→-1≤oul.getD k 0∧oul.getD k 0<k
theorem fr_is {oul:List Int} {S x:Nat} (h6:oul.getD x 0<6):fr (ouB oul) S x=(!bt S x&&(decide (oul.getD x 0<0)||(if oul.getD x 0<0 then false else bt S (oul.getD x 0).toNat))):=by
 unfold fr ouB
 by_cases h:oul.getD x 0<0
 ·rw [if_pos h,decide_eq_true h];rfl
 ·rw [if_neg h,decide_eq_false h,if_neg h,beq_false_of_ne (Nat.ne_of_lt ((Int.toNat_lt (Int.not_lt.mp h)).mpr h6))]
theorem least_turn {w p:Nat→Nat} {oul:List Int} {room S x:Nat} {best:List Int} (hw:∀ k,w k≤100) (hp:∀ k,p k≤100) (hr:room≤100) (ho:OulOk oul) (hS:S<64) (hx:x<6) (hl:best.length=64)
  (E:DEnv σ.length w p oul room ρ) (e1:ρ.lookup ("done":Str)=some (.val (.int S))) (e2:ρ.lookup ("column":Str)=some (.val (.int (col p room S:Nat)))) (e3:ρ.lookup ("one":Str)=some (.val (.int x))) {n:Nat} (hn:40≤n):
  Go (exs cfg n lsc σ.length leastI ρ (σ++[HO.lst (best.map V.int)])) fun fl' ρ' τ'=>fl'=.next∧(∀ z:String,(z=="free")=false→(z=="cost")=false→ρ'.lookup (Str.ofString z)=ρ.lookup (Str.ofString z))∧τ'=σ++[HO.lst ((dpT w p (ouB oul) room S best x).map V.int)]:=by
 refine nb fun kk=>?_;obtain ⟨g1,g2,g3,g4,g5⟩:=E;refine kk ?_;refine e11 (ge_ex (n:=n) (m:=40) (by omega)) fun n qz1=>?_;obtain rfl:=qz1;refine nb fun kk=>?_;obtain ⟨o1,o2⟩:=ho;obtain ⟨o3,o4⟩:=o2 x hx;refine kk ?_;have t0:=get_last σ (HO.lst (best.map V.int));have hcol:col p room S<1000:=by
  have:=sm_le (f:=p) hp ((List.range 6).filter (bt S));have h2:=List.length_filter_le (bt S) (List.range 6);rw [List.length_range] at h2;unfold col;exact Nat.lt_of_le_of_lt (Nat.add_le_add hr (Qy this (Nat.mul_le_mul_left 100 h2))) (by decide)
 generalize hτ:σ++[HO.lst (best.map V.int)]=τ at t0;unfold leastI;rw [show bodyS (nthS leastB 2)=[_,_,_] from rfl];have i1:binV τ .Pow (.int 2) (.int x)=some (.int ((2^x:Nat):Int)):=bin_powN τ 2 x (by omega) (by decide);have i2:=bin_divN τ S (2^x) (pow6s x hx).1 (pow6s x hx).2;have i3:binV τ .Mod (.int ((S/2^x:Nat):Int)) (.int 2)=some (.int ((S/2^x % 2:Nat):Int)):=bin_modN τ (S/2^x) 2 (by decide);have i4:getItemV τ (.fro (oul.map V.int)) (.int x)=some (.int (oul.getD x 0)):=item_froNat (by omega) (by rw [Qb,Qv (o1▸hx),Qd,Qv (o1▸hx)];rfl);have i5:=item_job (σ:=τ) (f:=w) hx;have i6:=item_job (σ:=τ) (f:=p) hx;have i7:=item_best t0 hl hS;have i8:binV τ .Add (.int (col p room S:Nat)) (.int (p x:Nat))=some (.int ((col p room S+p x:Nat):Int)):=bin_add τ _ _;have i9:=bin_mulN τ (w x) (col p room S+p x) (Nat.lt_of_le_of_lt (hw x) (by decide)) (Qh (Nat.add_lt_add_of_lt_of_le hcol (hp x)) (by decide));have hfr:∃ c:Bool,fr (ouB oul) S x=(!bt S x&&(decide (oul.getD x 0<0)||c))∧(¬oul.getD x 0<0→∃ m:Nat,m<6∧oul.getD x 0=(m:Int)∧c=bt S m):=by
  have h6:oul.getD x 0<6:=Int.lt_trans o4 (Int.ofNat_lt.mpr hx);exact ⟨_,fr_is h6,fun q=>⟨(oul.getD x 0).toNat,(Int.toNat_lt (Int.not_lt.mp q)).mpr h6,(Int.toNat_of_nonneg (Int.not_lt.mp q)).symm,by rw [if_neg q]⟩⟩
 refine nb fun kk=>?_;obtain ⟨c,hf,hc⟩:=hfr;refine kk ?_;refine go_cons (go_Assign (by rfl') (by rfl') (v:=.bool (fr (ouB oul) S x)) (σ1:=τ) ?_ (by left) ?_)
 ·rw [hf];refine ev_AndOr ?_ (fun _=>?_) (fun _ q=>?_)
  ·rw [←bt_z];left
  ·left
  ·obtain ⟨m,m1,m2,m3⟩:=hc (of_decide_eq_false q);rw [m2] at i4;have j1:binV τ .Pow (.int 2) (.int m)=some (.int ((2^m:Nat):Int)):=bin_powN τ 2 m (by omega) (by decide);have j2:=bin_divN τ S (2^m) (pow6s m m1).1 (pow6s m m1).2;have j3:binV τ .Mod (.int ((S/2^m:Nat):Int)) (.int 2)=some (.int ((S/2^m % 2:Nat):Int)):=bin_modN τ (S/2^m) 2 (by decide);rw [m3,←bt_o];left
 refine go_cons (go_Assign (by rfl') (by rfl') (v:=.int (best.getD S 0+inc w p room S x)) (σ1:=τ) ?_ (by left) ?_)
 ·unfold inc;left
 refine go_cons (go_If (z:=fr (ouB oul) S x&&!(decide (0≤best.getD (S+2^x) 0)&&decide (best.getD (S+2^x) 0≤best.getD S 0+inc w p room S x))) (σ1:=τ) ?_ ?_)
 ·refine tst_And2 (by left) (fun q=>?_) (by omega);have hb:bt S x=false:=by unfold fr at q;rw [Bool.and_eq_true,Bool.not_eq_true'] at q;exact q.1
  have j1:binV τ .Add (.int S) (.int ((2^x:Nat):Int))=some (.int ((S+2^x:Nat):Int)):=bin_add τ _ _;have j2:=item_best t0 hl (bt_add S hS x hx hb).2.1;refine tst_Not (tst_two (a:=.int 0) (b:=.int (best.getD (S+2^x) 0)) (c:=.int (best.getD S 0+inc w p room S x)) (by left) (by left) (by left) (cmp_le ..) (cmp_le ..))
 ·by_cases q:(fr (ouB oul) S x&&!(decide (0≤best.getD (S+2^x) 0)&&decide (best.getD (S+2^x) 0≤best.getD S 0+inc w p room S x)))=true
  ·rw [if_pos q];have hb:bt S x=false:=by rw [Bool.and_eq_true] at q;have q:=q.1;unfold fr at q;rw [Bool.and_eq_true,Bool.not_eq_true'] at q;exact q.1
   have j1:binV τ .Add (.int S) (.int ((2^x:Nat):Int))=some (.int ((S+2^x:Nat):Int)):=bin_add τ _ _;have j2:=setItem_nat (lo:=σ.length) (v:=.int (best.getD S 0+inc w p room S x)) t0 (Nat.le_refl _) (by rw [Qx,hl];exact (bt_add S hS x hx hb).2.1) (by have:=(bt_add S hS x hx hb).2.1;omega);refine go_cons (go_Store (σ1:=τ) (σ2:=τ) (σ3:=τ) (v:=.int (best.getD S 0+inc w p room S x)) (w:=.ref σ.length) (u:=.int ((S+2^x:Nat):Int)) (by left) (by left) (by left) j2 ?_);refine go_nil (go_nil ⟨rfl,fun z z1 z2=>?_,?_⟩)
   ·exact look_miss z2 (look_miss z1 rfl)
   ·rw [←hτ,set_last];unfold dpT;rw [if_pos q,List.map_set]
  ·rw [if_neg q];refine go_nil (go_nil ⟨rfl,fun z z1 z2=>?_,?_⟩)
   ·exact look_miss z2 (look_miss z1 rfl)
   ·rw [←hτ];unfold dpT;rw [if_neg q]
end
section
variable {lo:Nat} {σ σ':St} {ρ ρ':Rho}
theorem DEnv.cons {j room:Nat} {w p:Nat→Nat} {oul:List Int} (E:DEnv j w p oul room ρ) {z:String} {b:Mine.Internal.B} (hz:(("best":String)==z||("outer":String)==z||("weights":String)==z||("sizes":String)==z||("room":String)==z)=false):DEnv j w p oul room ((Str.ofString z,b)::ρ):=by
 rw [Bool.or_eq_false_iff,Bool.or_eq_false_iff,Bool.or_eq_false_iff,Bool.or_eq_false_iff] at hz;obtain ⟨⟨⟨⟨z1,z2⟩,z3⟩,z4⟩,z5⟩:=hz;obtain ⟨g1,g2,g3,g4,g5⟩:=E;exact ⟨look_miss z1 g1,look_miss z2 g2,look_miss z3 g3,look_miss z4 g4,look_miss z5 g5⟩
theorem DEnv.keep {j room:Nat} {w p:Nat→Nat} {oul:List Int} (E:DEnv j w p oul room ρ) (h:∀ z:String,(z=="free")=false→(z=="cost")=false→ρ'.lookup (Str.ofString z)=ρ.lookup (Str.ofString z)):DEnv j w p oul room ρ':=by
 obtain ⟨g1,g2,g3,g4,g5⟩:=E;exact ⟨(h _ (by rfl') (by rfl')).trans g1,(h _ (by rfl') (by rfl')).trans g2,(h _ (by rfl') (by rfl')).trans g3,(h _ (by rfl') (by rfl')).trans g4,(h _ (by rfl') (by rfl')).trans g5⟩
theorem least_row {w p:Nat→Nat} {oul:List Int} {room S:Nat} {best:List Int} (hw:∀ k,w k≤100) (hp:∀ k,p k≤100) (hr:room≤100) (ho:OulOk oul) (hS:S<64) (hl:best.length=64)
  (E:DEnv σ.length w p oul room ρ) (e1:ρ.lookup ("done":Str)=some (.val (.int S))) {n:Nat} (hn:60≤n) {Q:Fl→Rho→St→Prop}
  (hQ:∀ fl' ρ',(fl'=.next∨fl'=.cont)→DEnv σ.length w p oul room ρ'→Q fl' ρ' (σ++[HO.lst ((dpS w p (ouB oul) room best S).map V.int)])):
  Go (exs cfg n lsc σ.length leastB ρ (σ++[HO.lst (best.map V.int)])) Q:=by
 refine e11 (ge_ex (n:=n) (m:=60) (by omega)) fun n qz1=>?_;obtain rfl:=qz1;have t0:=get_last σ (HO.lst (best.map V.int));have turn:=fun (x:Nat) (hx:x<6) (b:List Int) (hl:b.length=64) (ρ:Rho) (E:DEnv σ.length w p oul room ρ) e1 e2 e3=>least_turn (σ:=σ) (ρ:=ρ) (room:=room) (best:=b) hw hp hr ho hS hx hl E e1 e2 e3 (n:=n+56) (by omega);generalize hI:leastI=LI at turn;obtain ⟨g1,g2,g3,g4,g5⟩:=id E;have i7:=item_best t0 hl hS;rw [show leastB=[_,_,.For _ _ leastI _ _] from rfl,hI];refine go_cons (go_If (z:=decide (best.getD S 0<0)) (σ1:=σ++[HO.lst (best.map V.int)]) (by left) ?_)
 by_cases q:best.getD S 0<0
 ·rw [if_pos (decide_eq_true q)];refine go_cons (go_Continue ?_);have:=hQ .cont ρ (.inr rfl) E;unfold dpS at this;rw [if_pos q] at this;exact this
 ·rw [if_neg (by rw [decide_eq_false q];exact Bool.false_ne_true)];have hQ:=hQ .next;unfold dpS at hQ;rw [if_neg q] at hQ;have hcol:∀ k,(sm p ((List.range 6).filter (bt S)):Int)=k→(room:Int)+k=((col p room S:Nat):Int):=fun k e=>by rw [←e];unfold col;exact (Int.natCast_add ..).symm
  refine go_nil (go_cons (go_Assign (by rfl') (by rfl') (v:=.int (col p room S:Nat)) (σ1:=σ++[HO.lst (best.map V.int)]) ?_ (by left) ?_))
  ·rw [←hcol _ (sm_int p _).symm];refine ev_BinOp (by left) ?_ (bin_add ..);refine ev_Sum (σ1:=σ++[HO.lst (best.map V.int)]) (v:=.fro (((List.range 6).filter (bt S)).map fun k=>V.int (p k:Nat))) (by rfl') (evs_cons (by rfl') ?_ evs_nil) (by show some _=_;rw [List.map_map];rfl);refine ev_CompF (it:=.fix ((List.range 6).map fun k:Nat=>V.int k)) (σ1:=σ++[HO.lst (best.map V.int)]) (by rfl') (by decide +kernel) (itr_range1 (m:=6) (by rfl') (by left) (range_nat (m:=6) (by decide))) ?_;refine comp_last (fun k:Nat=>V.int k) (List.range 6) (bt S) (fun k=>V.int (p k:Nat)) (acc:=[]) (compOk_one (by rfl') (by left)) (by decide) fun x hx=>?_;have hx:=List.mem_range.mp hx;generalize σ++[HO.lst (best.map V.int)]=τ;have i1:binV τ .Pow (.int 2) (.int x)=some (.int ((2^x:Nat):Int)):=bin_powN τ 2 x (by omega) (by decide);have i2:=bin_divN τ S (2^x) (pow6s x hx).1 (pow6s x hx).2;have i3:binV τ .Mod (.int ((S/2^x:Nat):Int)) (.int 2)=some (.int ((S/2^x % 2:Nat):Int)):=bin_modN τ (S/2^x) 2 (by decide);have i6:=item_job (σ:=τ) (f:=p) hx;refine ⟨_,by left,tsts_one ?_,fun _=>by left⟩;rw [←bt_o];left
  ·refine go_cons ?_;refine go_ForR (σ1:=σ++[HO.lst (best.map V.int)]) (m:=6) (f:=fun k:Nat=>V.int k) (fun k ρ τ=>(DEnv σ.length w p oul room ρ∧ρ.lookup ("done":Str)=some (.val (.int S))∧ρ.lookup ("column":Str)=some (.val (.int (col p room S:Nat))))∧τ=σ++[HO.lst (((List.range k).foldl (dpT w p (ouB oul) room S) best).map V.int)]) (by rfl') ?_ ?_ ?_ ?_
   ·exact itr_range1 (m:=6) (by rfl') (by left) (range_nat (m:=6) (by decide))
   ·exact ⟨⟨E.cons (by rfl'),by left,by left⟩,rfl⟩
   ·rintro k ρ τ hk ⟨⟨E,e1,e2⟩,rfl⟩;refine ⟨_,by left,?_⟩;refine (turn k hk ((List.range k).foldl (dpT w p (ouB oul) room S) best) ((dpF_len k).trans hl) ((Str.ofString "one",.val (.int (k:Nat)))::ρ) (E.cons (by rfl')) (by left) (by left) (by left)).mono ?_;rintro fl ρ2 τ ⟨rfl,h2,rfl⟩;refine ⟨⟨(E.cons (by rfl')).keep h2,(h2 _ (by rfl') (by rfl')).trans (by left),(h2 _ (by rfl') (by rfl')).trans (by left)⟩,?_⟩;rw [List.range_succ,List.foldl_append];rfl
   ·rintro ρ τ ⟨⟨E,e1,e2⟩,rfl⟩;exact go_nil (hQ ρ (.inl rfl) E)
theorem least_call {w p:Nat→Nat} {oul:List Int} {room:Nat} (hw:∀ k,w k≤100) (hp:∀ k,p k≤100) (hr:room≤100) (ho:OulOk oul) {n:Nat} (hn:100≤n):
  call cfg n lo ("_law_least":Str) (fnD pw "_law_least") [.fro (oul.map V.int),jobsV w,jobsV p,.int room] [] σ (.int ((dp w p (ouB oul) room 64).getD 63 0)) σ:=by
 refine e11 (ge_ex (n:=n) (m:=100) (by omega)) fun n qz1=>?_;obtain rfl:=qz1;obtain key:Go (exs cfg (n+99) lsc σ.length (fnD pw "_law_least").body [(("room":Str),.val (.int room)),(("sizes":Str),.val (jobsV p)),(("weights":Str),.val (jobsV w)),(("outer":Str),.val (.fro (oul.map V.int)))] σ) fun fl' ρ' σ'=>fl'=.ret (.int ((dp w p (ouB oul) room 64).getD 63 0))∧σ'=σ++[HO.lst ((dp w p (ouB oul) room 64).map V.int)]:=by
  have row:=fun (k:Nat) (hk:k<64) (ρ:Rho) (E:DEnv σ.length w p oul room ρ) (e1:ρ.lookup ("done":Str)=some (.val (.int k))) (Q:Fl→Rho→St→Prop)=>least_row (σ:=σ) (ρ:=ρ) (Q:=Q) hw hp hr ho hk (dp_len (w:=w) (p:=p) (ou:=ouB oul) (room:=room) k) E e1 (n:=n+60+36) (by omega);generalize hI:leastB=LB at row;rw [show (fnD pw "_law_least").body=[_,.For _ _ leastB _ _,_] from rfl,hI];refine go_cons (go_Assign (by rfl') (by rfl') (v:=.ref σ.length) (σ1:=σ++[HO.lst ((dp w p (ouB oul) room 0).map V.int)]) ?_ (by left) ?_)
  ·exact ev_AddT (xs:=[.int 0]) (ys:=rep 63 [.int (-1)]) (σ1:=σ) (σ2:=σ) (by left) (ev_Rep (k:=63) (σ1:=σ) (by refine ev_ListF (by decide +kernel) (evs_cons (by rfl') neg_one evs_nil)) (by left) (by decide) (by decide) (by decide)) (by decide)
  refine go_cons ?_;refine go_ForR (σ1:=σ++[HO.lst ((dp w p (ouB oul) room 0).map V.int)]) (m:=64) (f:=fun k:Nat=>V.int k) (fun k ρ τ=>DEnv σ.length w p oul room ρ∧τ=σ++[HO.lst ((dp w p (ouB oul) room k).map V.int)]) (by rfl') ?_ ?_ ?_ ?_
  ·exact itr_range1 (m:=64) (by rfl') (by left) (range_nat (m:=64) (by decide))
  ·exact ⟨⟨by left,by left,by left,by left,by left⟩,rfl⟩
  ·rintro k ρ τ hk ⟨E,rfl⟩;refine ⟨_,by left,row k hk _ (E.cons (by rfl')) (by left) _ ?_⟩;rintro fl ρ2 (rfl|rfl) E2
   ·exact ⟨E2,by rw [dp_step]⟩
   ·exact ⟨E2,by rw [dp_step]⟩
  ·rintro ρ τ ⟨⟨g1,g2,g3,g4,g5⟩,rfl⟩;have i7:getItemV (σ++[HO.lst ((dp w p (ouB oul) room 64).map V.int)]) (.ref σ.length) (.int 63)=some (.int ((dp w p (ouB oul) room 64).getD 63 0)):=item_best (k:=63) (get_last σ (HO.lst ((dp w p (ouB oul) room 64).map V.int))) (dp_len 64) (by decide);walk_at "ret";exact ⟨rfl,rfl⟩
 refine nb fun kk=>?_;obtain ⟨fl,ρ1,σ1,h1,rfl,rfl⟩:=key;refine kk ?_;exact call_frz (ρ0:=[(("outer":Str),.val (.fro (oul.map V.int))),(("weights":Str),.val (jobsV w)),(("sizes":Str),.val (jobsV p)),(("room":Str),.val (.int room))]) (by rfl') (by rfl') (by rfl') h1 rfl
end
section
variable {lo:Nat} {σ σ':St} {ρ ρ':Rho} {w q:Nat→Nat} {N:Nat}
noncomputable def wdT (q:Nat→Nat) (k:Nat):List Nat:=List.replicate (q k) (97+k)
noncomputable def pcV (q:Nat→Nat) (k:Nat):V:=.tup [.str (mkS [32]),.str (mkS (wdT q k))]
def szP (q:Nat→Nat) (k:Nat):Nat:=1+q k
noncomputable def bV (w:Nat→Nat) (N:Nat) (b:List Nat):V:=.tup [.int (sm w b:Nat),.ref (N-b.headD 0)]
abbrev MM:Nat:=5354228880
theorem accLen_pc:∀ b:List Nat,accLen (b.map (pcV q))=some ((sm (szP q) b:Nat):Int)
 |[]=>rfl
 |k::b=>by
  have e:((mkS [32]).length:Int)+(mkS (wdT q k)).length+((sm (szP q) b:Nat):Int)=((sm (szP q) (k::b):Nat):Int):=by
   rw [mkS_len,mkS_len,sm_cons];unfold szP wdT;rw [List.length_replicate,List.length_singleton];rfl
  exact (bnd rfl (mpd (accLen_pc b) rfl)).trans (congrArg some e)
theorem sz24 (hq:∀ k,q k≤3) {b:List Nat} (hl:b.length≤6):sm (szP q) b≤24:=Qy (sm_le (m:=4) (fun k=>Nat.add_le_add_left (hq k) 1) b) (Nat.mul_le_mul_left 4 hl)
theorem natNe {n:Nat} (h:0<n):(n:Int)≠0:=by omega
theorem negI {a b:Nat}:-(a:Int) < -(b:Int)↔b<a:=by omega
theorem len_blk {j:Nat} {b:List Nat} (h:σ[j]?=some (.acc 0 (b.map (pcV q)))) (hl:b.length≤6) (hq:∀ k,q k≤3):builtinV σ ("len":Str) [.ref j]=some (.int (sm (szP q) b:Nat)):=by
 have:=len_acc (k:=0) h (accLen_pc b) (by decide) (Qy (sz24 hq hl) (by decide)) (by rw [Qx];omega);rw [Nat.zero_add] at this;exact this
theorem fit_MM (hq:∀ k,q k≤3):Fit (szP q) MM:=by
 refine ⟨by decide,fun b h hl=>?_⟩;have h1:=sz24 hq hl;have h2:0<sm (szP q) b:=by
  match b,h with
  |k::b,_=>exact Nat.add_pos_left (Nat.add_pos_left Nat.one_pos _) _
 refine ⟨h2,?_⟩;generalize sm (szP q) b=P at h1 h2;exact (by decide:∀ P<25,0<P→P*(MM/P)=MM) P (by omega) h2
theorem key_int (hq:∀ k,q k≤3) {b:List Nat} (h:b≠[]) (hl:b.length≤6):(-((sm w b:Nat):Int)*5354228880).fdiv ((sm (szP q) b:Nat):Int)=-((sl w (szP q) MM b:Nat):Int):=by
 obtain ⟨h1,h2⟩:=(fit_MM hq).2 b h hl;unfold sl;have e:-((sm w b:Nat):Int)*5354228880=-((sm w b*(MM/sm (szP q) b):Nat):Int)*((sm (szP q) b:Nat):Int):=by
  rw [Int.neg_mul,Int.neg_mul,←Int.natCast_mul,Nat.mul_assoc,Nat.mul_comm (MM/_),h2]
  rfl
 rw [e,Int.mul_fdiv_cancel _ (natNe h1)]
theorem ltI (σ:St) (a b:Int):LtV σ (.int a) (.int b) (decide (a<b)):=fun h=>chain_one h (cmp_lt σ a b)
theorem getD_map {α:Type} {f:α→V} {l:List α} {i:Nat} {a:α} (h:l[i]?=some a):(l.map f).getD i .none=f a:=by
 rw [Qd,Qb,h];rfl
theorem block_call {j r:Nat} {row:List (List Nat)} {x:List Nat} {later:Bool} {kb:B} (hσ:σ[j]?=some (.lst (row.map (bV w N)))) (hlo:lo≤j) (hl:row.length≤100) (hlam:isLam kb=true) (hkey:∀ b,b=x∨b∈row→KeyAt cfg σ kb (bV w N b) (.int (-((sl w (szP q) MM b:Nat):Int)))) (hr:r≤row.length)
  (hc:∀ i y,row[i]?=some y→(if later then decide (sl w (szP q) MM x≤sl w (szP q) MM y) else decide (sl w (szP q) MM x<sl w (szP q) MM y))=decide (i<r)) {f:Str} (hf:f=if later then ("insort_right":Str) else ("insort_left":Str)) {m:Nat} (hm:300≤m):
  call cfg m lo f (fnD pw f) [.ref j,bV w N x] [(("key":Str),kb)] σ .none (σ.set j (.lst ((row.take r++x::row.drop r).map (bV w N)))):=by
 have hlen:(row.map (bV w N)).length=row.length:=Qx ..;have hL1:(row.map (bV w N)).length<4096:=by rw [hlen];omega
 have hL2:(row.map (bV w N)).length+110≤m:=by rw [hlen];exact Qy (Nat.add_le_add_right hl 110) (Qy (by decide) hm)
 have hat:(row.map (bV w N)).take r++bV w N x::(row.map (bV w N)).drop r=(row.take r++x::row.drop r).map (bV w N):=by
  rw [←List.map_take,←List.map_drop,List.map_append];rfl
 have hg:∀ i,i<(row.map (bV w N)).length→∃ y,row[i]?=some y∧(row.map (bV w N)).getD i .none=bV w N y∧row.getD i []=y:=fun i hi=>by
  rw [Qx] at hi;have e:=Qv hi;exact ⟨_,e,getD_map e,by rw [Qd,e];rfl⟩
 have hky:∀ i,i<(row.map (bV w N)).length→KeyAt cfg σ kb ((row.map (bV w N)).getD i .none) (.int (-((sl w (szP q) MM (row.getD i []):Nat):Int))):=fun i hi=>by
  obtain ⟨y,g1,g2,g3⟩:=hg i hi;rw [g2,g3];exact hkey y (.inr (List.mem_of_getElem? g1))
 rw [←hat];cases later with
 |true=>
  subst hf;refine insort_right_call (ky:=fun i=>.int (-((sl w (szP q) MM (row.getD i []):Nat):Int))) (kx:=.int (-((sl w (szP q) MM x:Nat):Int))) hσ hlo hL1 hlam (hkey x (.inl rfl)) hky (fun i hi=>?_) (by rw [hlen];exact hr) hL2;obtain ⟨y,g1,_,g3⟩:=hg i hi;have g:=hc i y g1;rw [if_pos rfl] at g;rw [g3,show decide (r≤i)=decide (-((sl w (szP q) MM x:Nat):Int) < -((sl w (szP q) MM y:Nat):Int)) from decide_eq_decide.mpr (Nat.not_lt.symm.trans ((not_congr (decide_eq_decide.mp g)).symm.trans (Nat.not_le.trans negI.symm)))];exact @ltI σ _ _
 |false=>
  subst hf;refine insort_left_call (ky:=fun i=>.int (-((sl w (szP q) MM (row.getD i []):Nat):Int))) (kx:=.int (-((sl w (szP q) MM x:Nat):Int))) hσ hlo hL1 hlam (hkey x (.inl rfl)) hky (fun i hi=>?_) (by rw [hlen];exact hr) hL2;obtain ⟨y,g1,_,g3⟩:=hg i hi;have g:=hc i y g1;rw [if_neg Bool.false_ne_true] at g;rw [g3,show decide (i<r)=decide (-((sl w (szP q) MM y:Nat):Int) < -((sl w (szP q) MM x:Nat):Int)) from decide_eq_decide.mpr ((decide_eq_decide.mp g).symm.trans negI.symm)];exact @ltI σ _ _
end
section
variable {lo:Nat} {σ σ' τ:St} {ρ ρ':Rho} {w q:Nat→Nat} {L:Nat}
noncomputable abbrev osc:Scope:=(fnD pw "_law_order").scope
noncomputable def orderF:Stmt:=nthS (fnD pw "_law_order").body 1
noncomputable def orderB:List Stmt:=bodyS orderF
noncomputable def mergeF:Stmt:=nthS orderB 2
noncomputable def mergeB:List Stmt:=bodyS mergeF
noncomputable def mergeT:List Stmt:=thenS (nthS mergeB 0)
noncomputable def pushF:Stmt:=nthS mergeT 2
@[reducible] def Same (ls:List String) (ρ ρ':Rho):Prop:=∀ z:String,ls.contains z=false→ρ'.lookup (Str.ofString z)=ρ.lookup (Str.ofString z)
theorem not_in {z y:String} {ls:List String} (h:(y::ls).contains z=false):(z==y)=false∧ls.contains z=false:=by
 rw [List.contains_cons,Bool.or_eq_false_iff] at h;exact h
theorem blank32:(" ":Str)=mkS [32]:=by decide +kernel
theorem push_go {jb:Nat} {b x:List Nat} (hlo:L≤jb) (hlx:L≤L+14-x.headD 0) (hne:jb≠L+14-x.headD 0) (hb:τ[jb]?=some (.acc 0 (b.map (pcV q)))) (hx:τ[L+14-x.headD 0]?=some (.acc 0 (x.map (pcV q)))) (hl:b.length+x.length≤100)
  (g:ρ.lookup ("block":Str)=some (.val (.ref jb))) (g2:ρ.lookup ("first":Str)=some (.val (bV w (L+14) x))) {n:Nat} (hn:60≤n):
  Go (ex cfg n osc L pushF ρ τ) fun fl' ρ' τ'=>fl'=.next∧Same ["blank","word"] ρ ρ'∧τ'=(τ.set (L+14-x.headD 0) (.acc 0 [])).set jb (.acc 0 ((b++x).map (pcV q))):=by
 refine e11 (ge_ex (n:=n) (m:=60) (by omega)) fun n qz1=>?_;obtain rfl:=qz1;generalize hj:L+14-x.headD 0=jx at *
 have hm:=pop_from_call (k:=0) (vs:=[]) (.inr ⟨rfl,rfl⟩) hx hlx (by rw [Qx];omega) (n:=n+57) (by omega);rw [List.drop_zero,List.take_zero] at hm;have hi1:getItemV τ (bV w (L+14) x) (.int 1)=some (.ref jx):=by rw [←hj];rfl
 have htx:=tag_acc hx;have hb2:(τ.set jx (.acc 0 []))[jb]?=some (.acc 0 (b.map (pcV q))):=get_ne hne.symm hb;rw [show pushF=.For _ _ [_] [] _ from rfl];refine go_ForM (σ1:=τ.set jx (.acc 0 [])) (f:=pcV q) (l:=x) (fun k ρ2 τ2=>(ρ2.lookup ("block":Str)=some (.val (.ref jb))∧Same ["blank","word"] ρ ρ2)∧τ2=(τ.set jx (.acc 0 [])).set jb (.acc 0 ((b++x.take k).map (pcV q)))) (by rfl') ?_ ?_ ?_ ?_
 ·exact itr_fro (by rfl') (ev_MFn (j:=jx) (vs:=[]) (σ1:=τ) (σ2:=τ) (by rfl') (by rfl') (by left) htx (by left) hm)
 ·exact ⟨⟨g,fun _ _=>rfl⟩,by rw [List.take_zero,List.append_nil,set_same hb2]⟩
 ·rintro k y ρ2 τ2 hy ⟨⟨g3,g4⟩,rfl⟩;rw [show pcV q y=.tup [.str (mkS [32]),.str (mkS (wdT q y))] from rfl];refine ⟨_,by left,?_⟩;have s1:=get_set (x:=HO.acc 0 ((b++x.take k).map (pcV q))) hb2;have hta:=tag_acc s1;have hp:=meth_push (lo:=L) (a:=mkS [32]) (b:=mkS (wdT q y)) s1 hlo (by rw [Qx,Qu,List.length_take];exact Nat.lt_of_le_of_lt (Qy (Nat.add_le_add_left (Nat.min_le_right ..) _) hl) (by decide));rw [List.set_set,show (b++x.take k).map (pcV q)++[V.tup [.str (mkS [32]),.str (mkS (wdT q y))]]=(b++x.take (k+1)).map (pcV q) from by rw [List.take_add_one,hy,Option.toList_some,←List.append_assoc,List.map_append (l₂:=[y])];rfl] at hp;have c1:canSet osc ("blank":Str)=true:=by rfl'
  walk_at "call stmt";refine go_nil ⟨⟨by left,fun z hz=>?_⟩,rfl⟩;obtain ⟨z1,z2⟩:=not_in hz;obtain ⟨z2,_⟩:=not_in z2;exact look_miss z2 (look_miss z1 (g4 z hz))
 ·rintro ρ2 τ2 ⟨⟨g3,g4⟩,rfl⟩;rw [List.take_length];exact ⟨rfl,g4,rfl⟩
@[reducible] noncomputable def MEnv (L one:Nat) (w:Nat→Nat) (b:List Nat) (ρ:Rho):Prop:=ρ.lookup ("waiting":Str)=some (.val (.ref (L+one)))∧ρ.lookup ("block":Str)=some (.val (.ref (L+14-one)))∧ρ.lookup ("left":Str)=some (.val (.ref (L+8)))∧ρ.lookup ("weight":Str)=some (.val (.int (sm w b:Nat)))
@[reducible] def Gt (w q:Nat→Nat) (b x:List Nat):Prop:=sm w b*sm (szP q) x<sm w x*sm (szP q) b
theorem sm_bnd (hw:∀ k,w k≤7) (hq:∀ k,q k≤3) {b:List Nat} (hl:b.length≤6):sm w b<4096∧sm (szP q) b<4096:=by
 exact ⟨Nat.lt_of_le_of_lt (Qy (sm_le hw b) (Nat.mul_le_mul_left 7 hl)) (by decide),Nat.lt_of_le_of_lt (sz24 hq hl) (by decide)⟩
theorem merge_turn {one z:Nat} {b x:List Nat} {A:List (List Nat)} (hw:∀ k,w k≤7) (hq:∀ k,q k≤3) (h1:one<x.headD 0) (h2:x.headD 0<6) (hbx:(b++x).length≤6) (hA:A.length≤6) (hz:z≤100)
  (E:MEnv L one w b ρ) (t1:τ[L+one]?=some (.lst ((x::A).map (bV w (L+14))))) (t2:τ[L+14-one]?=some (.acc 0 (b.map (pcV q)))) (t3:τ[L+14-x.headD 0]?=some (.acc 0 (x.map (pcV q)))) (t4:τ[L+8]?=some (.lst (List.replicate z (.int 0)))) {n:Nat} (hn:90≤n):
  Go (exs cfg n osc L mergeB ρ τ) fun fl' ρ' τ'=>fl'=.next∧((Gt w q b x∧Same ["first","weight","blank","word"] ρ ρ'∧ρ'.lookup ("weight":Str)=some (.val (.int (sm w (b++x):Nat)))∧
   τ'=(((τ.set (L+one) (.lst (A.map (bV w (L+14))))).set (L+14-x.headD 0) (.acc 0 [])).set (L+14-one) (.acc 0 ((b++x).map (pcV q)))).set (L+8) (.lst (List.replicate (z+1) (.int 0))))∨(¬Gt w q b x∧ρ'=ρ∧τ'=τ)):=by
 refine e11 (ge_ex (n:=n) (m:=90) (by omega)) fun n qz1=>?_;obtain rfl:=qz1;rw [Qu] at hbx;have h0:=Nat.lt_trans h1 h2;refine nb fun kk=>?_;obtain ⟨g1,g2,g3,g4⟩:=E;refine kk ?_;have push:=fun (τ:St) (hb:τ[L+14-one]?=some (.acc 0 (b.map (pcV q)))) (hx:τ[L+14-x.headD 0]?=some (.acc 0 (x.map (pcV q)))) (ρ:Rho) g g2=>push_go (τ:=τ) (ρ:=ρ) (w:=w) (L:=L) (jb:=L+14-one) (by omega) (by omega) (by omega) hb hx (by omega) g g2 (n:=n+85) (by omega);generalize hP:pushF=PF at push;rw [show mergeB=[.If _ [_,_,pushF,_] _ _] from rfl,hP];refine nb fun kk=>?_;obtain ⟨wb1,wb2⟩:=sm_bnd hw hq (b:=b) (by omega);obtain ⟨wx1,wx2⟩:=sm_bnd hw hq (b:=x) (by omega);refine kk ?_;have i1:getItemV τ (.ref (L+one)) (.int 0)=some (bV w (L+14) x):=item_nat (k:=0) t1 (by decide) rfl;have i2:getItemV τ (bV w (L+14) x) (.int 0)=some (.int (sm w x:Nat)):=rfl;have i3:getItemV τ (bV w (L+14) x) (.int 1)=some (.ref (L+14-x.headD 0)):=rfl;have i4:=len_blk t2 (by omega) hq;have i5:=len_blk t3 (by omega) hq;have i6:=bin_mulN τ (sm w x) (sm (szP q) b) wx1 wb2;have i7:=bin_mulN τ (sm w b) (sm (szP q) x) wb1 wx2;refine go_cons (go_If (z:=decide (Gt w q b x)) (σ1:=τ) ?_ ?_)
 ·rw [show decide (Gt w q b x)=decide (((sm w b*sm (szP q) x:Nat):Int)<((sm w x*sm (szP q) b:Nat):Int)) from decide_eq_decide.mpr Int.ofNat_lt.symm];left
 by_cases hg:Gt w q b x
 ·rw [if_pos (decide_eq_true hg)];have htag:=tag_lst t1;refine go_cons (go_Assign (by rfl') (by rfl') (v:=bV w (L+14) x) (σ1:=τ.set (L+one) (.lst (A.map (bV w (L+14))))) ?_ (by left) ?_)
  ·exact ev_Pop0 (i:=L+one) (σ1:=τ) (σ2:=τ) (by rfl') (by left) (by left) htag (Nat.le_add_right _ _) t1 (by rw [Qx];omega)
  have s2:=get_ne (x:=HO.lst (A.map (bV w (L+14)))) (i:=L+one) (by omega) t2;have s3:=get_ne (x:=HO.lst (A.map (bV w (L+14)))) (i:=L+one) (by omega) t3;have s4:=get_ne (x:=HO.lst (A.map (bV w (L+14)))) (i:=L+one) (by omega) t4;generalize τ.set (L+one) (.lst (A.map (bV w (L+14))))=τ1 at *
  have i2:getItemV τ1 (bV w (L+14) x) (.int 0)=some (.int (sm w x:Nat)):=rfl;refine go_cons (go_Aug (k:=(sm w b:Nat)) (m:=(sm w x:Nat)) (v:=.int (sm w (b++x):Nat)) (σ1:=τ1) (by rfl') (by left) (by left) (by rw [sm_app,Int.natCast_add];rfl) ?_);refine go_cons ((push τ1 s2 s3 _ (by left) (by left)).mono ?_);rintro fl ρ2 τ2 ⟨rfl,hs,rfl⟩;have s5:((τ1.set (L+14-x.headD 0) (.acc 0 [])).set (L+14-one) (.acc 0 ((b++x).map (pcV q))))[L+14-x.headD 0]?=some (.acc 0 (([]:List Nat).map (pcV q))):=get_ne (by omega) (get_set s3);have s6:=get_ne (i:=L+14-one) (x:=HO.acc 0 ((b++x).map (pcV q))) (by omega) (get_ne (i:=L+14-x.headD 0) (x:=HO.acc 0 []) (by omega) s4);have i8:=len_blk s5 (by decide) hq;have htag:=tag_lst s6;have hap:=meth_append (lo:=L) (v:=.int (0:Nat)) s6 (Nat.le_add_right _ _) (by rw [List.length_replicate];omega);have e1:List.replicate z (V.int 0)++[.int (0:Nat)]=List.replicate (z+1) (V.int 0):=List.replicate_succ'.symm;rw [e1] at hap;rw [show sm (szP q) []=0 from rfl] at i8;have i3:getItemV ((τ1.set (L+14-x.headD 0) (.acc 0 [])).set (L+14-one) (.acc 0 ((b++x).map (pcV q)))) (bV w (L+14) x) (.int 1)=some (.ref (L+14-x.headD 0)):=rfl;have k1:ρ2.lookup ("left":Str)=some (.val (.ref (L+8))):=(hs _ (by rfl')).trans (by left);have k2:ρ2.lookup ("first":Str)=some (.val (bV w (L+14) x)):=(hs _ (by rfl')).trans (by left);walk_at "call stmt";refine go_nil (go_nil ⟨rfl,.inl ⟨hg,fun y hy=>?_,(hs _ (by rfl')).trans (by left),rfl⟩⟩);obtain ⟨z1,hy⟩:=not_in hy;obtain ⟨z2,hy⟩:=not_in hy;exact (hs y hy).trans (look_miss z2 (look_miss z1 rfl))
 ·rw [if_neg (by rw [decide_eq_true_eq];exact hg)];exact go_nil (go_nil ⟨rfl,.inr ⟨hg,rfl,rfl⟩⟩)
theorem sl_le (hf:Fit (szP q) MM) {b x:List Nat} (hb:b≠[]) (hbl:b.length≤6) (hx:x≠[]) (hxl:x.length≤6) (h:sm w b*sm (szP q) x≤sm w x*sm (szP q) b):sl w (szP q) MM b≤sl w (szP q) MM x:=by
 have e1:=sl_all (w:=w) hf hb hbl;have e2:=sl_all (w:=w) hf hx hxl;refine Nat.le_of_mul_le_mul_left ?_ (Nat.mul_pos (hf.2 b hb hbl).1 (hf.2 x hx hxl).1);rw [Nat.mul_right_comm,e1,Nat.mul_assoc (sm (szP q) b),e2,Nat.mul_left_comm,Nat.mul_assoc,Nat.mul_comm (sm (szP q) b)];exact Nat.mul_le_mul_left _ h
theorem n3 {p x a:Nat} (h:p+(x+a)<6):p+1+x≤6:=by omega
theorem headD_mem {x:List Nat} (h:x≠[]):x.headD 0∈x:=by
 cases x with
 |nil=>exact absurd rfl h
 |cons a r=>exact Qk ..
@[reducible] noncomputable def AccAt (L:Nat) (q:Nat→Nat) (τ:St) (b:List Nat):Prop:=τ[L+14-b.headD 0]?=some (.acc 0 (b.map (pcV q)))
@[reducible] def Frame (L one:Nat) (A:List (List Nat)) (τ τ':St):Prop:=τ'.length=τ.length∧∀ i,i≠L+one→i≠L+8→i≠L+14-one→(∀ y∈A.flatten,i≠L+14-y)→τ'[i]?=τ[i]?
theorem set_ne {α:Type} {l:List α} {i j:Nat} {x:α} (h:i≠j):(l.set i x)[j]?=l[j]?:=by rw [List.getElem?_set,if_neg h]
@[reducible] noncomputable def MInv (L one z:Nat) (w q:Nat→Nat) (A:List (List Nat)) (ρ0:Rho) (τ0:St) (k:Nat) (ρ:Rho) (τ:St):Prop:=
 ∃ P A1 z1,A=P++A1∧(∀ b' A',Ch w (szP q) MM (one::P.flatten) A1 b' A'→Ch w (szP q) MM [one] A b' A')∧(A1.length+k=A.length∨(A1≠[]∧∀ x∈A1.head?,sl w (szP q) MM x≤sl w (szP q) MM (one::P.flatten)))∧z1≤z+k∧
  MEnv L one w (one::P.flatten) ρ∧Same ["turn","first","weight","blank","word"] ρ0 ρ∧(τ[L+one]?=some (.lst (A1.map (bV w (L+14))))∧τ[L+14-one]?=some (.acc 0 ((one::P.flatten).map (pcV q)))∧(∀ x∈A1,AccAt L q τ x)∧τ[L+8]?=some (.lst (List.replicate z1 (.int 0)))∧Frame L one A τ0 τ)
theorem merge_go {one z:Nat} {A:List (List Nat)} (hw:∀ k,w k≤7) (hq:∀ k,q k≤3) (h6:one<6) (hn1:A.flatten.Nodup) (hn2:∀ y∈A.flatten,one<y∧y<6) (hn3:A.flatten.length<6) (hr:Row A) (hAl:A.length≤6) (hz:z≤50)
  (E:MEnv L one w [one] ρ) (t1:τ[L+one]?=some (.lst (A.map (bV w (L+14))))) (t2:τ[L+14-one]?=some (.acc 0 ([one].map (pcV q)))) (t3:∀ x∈A,AccAt L q τ x) (t4:τ[L+8]?=some (.lst (List.replicate z (.int 0)))) {n:Nat} (hn:100≤n):
  Go (ex cfg n osc L mergeF ρ τ) fun fl' ρ' τ'=>fl'=.next∧∃ b' A' z',Ch w (szP q) MM [one] A b' A'∧z'≤z+6∧(∃ P,A=P++A'∧b'=one::P.flatten)∧MEnv L one w b' ρ'∧Same ["turn","first","weight","blank","word"] ρ ρ'∧
   (τ'[L+one]?=some (.lst (A'.map (bV w (L+14))))∧τ'[L+14-one]?=some (.acc 0 (b'.map (pcV q)))∧(∀ x∈A',AccAt L q τ' x)∧τ'[L+8]?=some (.lst (List.replicate z' (.int 0)))∧Frame L one A τ τ'):=by
 refine e11 (ge_ex (n:=n) (m:=100) (by omega)) fun n qz1=>?_;obtain rfl:=qz1;have turn:=fun (z:Nat) (b x:List Nat) (A:List (List Nat)) h1 h2 hbx hA hz (ρ:Rho) (τ:St) E t1 t2 t3 t4=>merge_turn (L:=L) (τ:=τ) (ρ:=ρ) (one:=one) (z:=z) (b:=b) (x:=x) (A:=A) hw hq h1 h2 hbx hA hz E t1 t2 t3 t4 (n:=n+99) (by omega);generalize hM:mergeB=MB at turn;obtain ⟨g1,g2,g3,g4⟩:=id E;have hlen:=len_lst t1 (by rw [Qx];omega);rw [Qx] at hlen;have hf:=fit_MM hq;rw [show mergeF=.For _ _ mergeB [] _ from rfl,hM];refine go_ForR (σ1:=τ) (m:=A.length) (f:=fun k:Nat=>V.int k) (MInv L one z w q A ρ τ) (by rfl') ?_ ?_ ?_ ?_
 ·exact itr_range1 (m:=(A.length:Nat)) (by rfl') (by left) (range_nat (m:=A.length) (by omega))
 ·exact ⟨[],A,z,rfl,fun _ _ h=>h,.inl rfl,Nat.le_refl _,E,fun _ _=>rfl,t1,t2,t3,t4,rfl,fun _ _ _ _ _=>rfl⟩
 ·intro k ρ2 τ2 hk h;refine e33 h fun P A1 z1 qz hc h=>?_;obtain rfl:=qz;refine e06 h fun hp hz1 E2 hs s1 h=>?_;refine e05 h fun s2 s3 s4 s5 s6=>?_;refine ⟨_,by left,?_⟩;rw [Qu] at hk hAl;cases A1 with
  |nil=>
   rcases hp with hp|hp
   ·rw [Qu,List.length_nil,Nat.zero_add] at hp;rw [List.length_nil] at hk;exact absurd hp (Nat.ne_of_lt hk)
   ·exact absurd rfl hp.1
  |cons x A1=>
   rw [List.length_cons] at hAl hk;obtain ⟨x1,x2⟩:=hr x (List.mem_append_right _ (Qk ..));rw [List.flatten_append,List.flatten_cons] at hn1 hn2 hn3;rw [Qu,Qu] at hn3;obtain ⟨x3,x4⟩:=hn2 _ (List.mem_append_right _ (List.mem_append_left _ (headD_mem x1)));have h8:one<8:=Nat.lt_trans h6 (by decide);have h9:=Nat.lt_succ_of_lt h8;have hdis:=(List.nodup_append.mp (List.nodup_append.mp hn1).2.1).2.2;obtain ⟨m1,m2,m3,m4⟩:=E2;have E3:MEnv L one w (one::P.flatten) ((Str.ofString "turn",.val (.int (k:Nat)))::ρ2):=⟨by left,by left,by left,by left⟩
   have hbl:((one::P.flatten)++x).length≤6:=by rw [Qu,List.length_cons];exact n3 hn3
   have hb0:(one::P.flatten).length≤6:=by rw [Qu] at hbl;exact Qy (Nat.le_add_right ..) hbl
   refine (turn z1 (one::P.flatten) x A1 x3 x4 hbl (Qy (Qy (Nat.le_succ _) (Nat.le_add_left _ _)) hAl) (Qy hz1 (Qy (Nat.add_le_add hz (Wq (Qh hk hAl))) (by decide))) _ τ2 E3 s1 s2 (s3 x (Qk ..)) s4).mono ?_;rintro fl ρ3 τ3 ⟨rfl,⟨hg,hs3,hwt,rfl⟩|⟨hg,rfl,rfl⟩⟩
   ·have eP:one::(P++[x]).flatten=(one::P.flatten)++x:=by rw [List.flatten_append,List.flatten_singleton];rfl
    refine ⟨P++[x],A1,z1+1,by rw [List.append_assoc];rfl,fun b' A' h=>hc _ _ (.go (sl_le hf (List.cons_ne_nil _ _) hb0 x1 x2 (Wq hg)) (eP▸h)),?_,Nat.succ_le_succ hz1,?_,fun u hu=>?_,?_⟩
    ·rcases hp with hp|hp
     ·refine .inl ?_;rw [List.length_cons] at hp;rw [←hp];exact (Nat.succ_add_eq_add_succ _ _).symm
     ·refine absurd (hp.2 x rfl) ?_;intro hle;have e1:=sl_all (w:=w) hf (List.cons_ne_nil one P.flatten) hb0;have e2:=sl_all (w:=w) hf x1 x2;have p1:=(hf.2 _ (List.cons_ne_nil one P.flatten) hb0).1;have p2:=(hf.2 _ x1 x2).1;have m:=Nat.mul_le_mul_left (sm (szP q) (one::P.flatten)*sm (szP q) x) hle;rw [Nat.mul_assoc,e2,Nat.mul_right_comm,e1,Nat.mul_left_comm,Nat.mul_assoc] at m;have:=Nat.le_of_mul_le_mul_left m hf.1;rw [Nat.mul_comm] at this;exact absurd hg (Ww this)
    ·rw [eP];exact ⟨(hs3 _ (by rfl')).trans (by left),(hs3 _ (by rfl')).trans (by left),(hs3 _ (by rfl')).trans (by left),hwt⟩
    ·obtain ⟨u1,u2⟩:=not_in hu;exact (hs3 u u2).trans ((look_miss u1 rfl).trans (hs u hu))
    ·refine ⟨?_,?_,fun y' hy'=>?_,?_,?_,fun i i1 i2 i3 i4=>?_⟩
     ·rw [set_ne (by omega),set_ne (by omega),set_ne (by omega)];exact get_set s1
     ·rw [set_ne (by omega),eP];exact get_set (get_ne (by omega) (get_ne (by omega) s2))
     ·obtain ⟨y1,_⟩:=hr y' (List.mem_append_right _ (Qj _ hy'));have hyf:y'.headD 0∈A1.flatten:=List.mem_flatten.mpr ⟨y',hy',headD_mem y1⟩;obtain ⟨y3,y4⟩:=hn2 _ (List.mem_append_right _ (List.mem_append_right _ hyf));have hne:=hdis _ (headD_mem x1) _ hyf;show _=_;rw [set_ne (by omega),set_ne (by omega),set_ne (by omega),set_ne (by omega)];exact s3 y' (Qj _ hy')
     ·exact get_set (get_ne (by omega) (get_ne (by omega) (get_ne (by omega) s4)))
     ·rw [List.length_set,List.length_set,List.length_set,List.length_set];exact s5
     ·have hx:=i4 (x.headD 0) (by rw [List.flatten_append,List.flatten_cons];exact List.mem_append_right _ (List.mem_append_left _ (headD_mem x1)));rw [set_ne i2.symm,set_ne i3.symm,set_ne hx.symm,set_ne i1.symm];exact s6 i i1 i2 i3 i4
   ·refine ⟨P,x::A1,z1,rfl,hc,.inr ⟨List.cons_ne_nil _ _,fun x' hx'=>?_⟩,Nat.le_succ_of_le hz1,E3,fun u hu=>?_,s1,s2,s3,s4,s5,s6⟩
    ·obtain rfl:=Qw hx';exact sl_le hf x1 x2 (List.cons_ne_nil _ _) hb0 (Nat.le_of_not_lt hg)
    ·obtain ⟨u1,u2⟩:=not_in hu;exact (look_miss u1 rfl).trans (hs u hu)
 ·intro ρ2 τ2 h;refine e33 h fun P A1 z1 qz hc h=>?_;obtain rfl:=qz;refine e04 h fun hp hz1 E2 h=>?_;refine ⟨rfl,one::P.flatten,A1,z1,hc _ _ (.stop ?_),Qy hz1 (Nat.add_le_add_left hAl z),⟨P,rfl,rfl⟩,E2,h⟩;rcases hp with hp|hp
  ·have:A1=[]:=List.eq_nil_of_length_eq_zero (Nat.add_right_cancel (hp.trans (Nat.zero_add _).symm));rw [this];exact fun x hx=>(nomatch hx)
  ·exact hp.2
noncomputable def layF:Stmt:=nthS orderB 4
noncomputable def layB:List Stmt:=bodyS layF
noncomputable def rowsV (L:Nat):List V:=(List.range 7).map fun j=>V.ref (L+j)
theorem item_row {j:Nat} {oul:List Int} {one:Nat} (h:τ[j]?=some (.lst (rowsV L))) (h1:-1≤oul.getD one 0) (h2:oul.getD one 0<6):getItemV τ (.ref j) (.int (oul.getD one 0))=some (.ref (L+ouB oul one)):=by
 unfold ouB;generalize oul.getD one 0=o at h1 h2
 by_cases q:o<0
 ·rw [if_pos q];obtain rfl:o=-1:=by omega
  exact item_last (xs:=(List.range 6).map fun j=>V.ref (L+j)) h
 ·rw [if_neg q];obtain ⟨m,rfl⟩:∃ m:Nat,o=m:=⟨o.toNat,(Int.toNat_of_nonneg (Int.not_lt.mp q)).symm⟩
  have h2:m<6:=Int.ofNat_lt.mp h2;refine item_nat h (by omega) ?_;unfold rowsV;rw [Qb,List.getElem?_range (by omega)];rfl
theorem smallNeg {n:Nat} (h:n<4096):smallI (-(n:Int))=true:=dec ⟨by omega,by omega⟩
@[reducible] noncomputable def LayEnv (L one:Nat) (w:Nat→Nat) (oul:List Int) (later:Bool) (C:List (List Nat)) (ρ:Rho):Prop:=ρ.lookup ("rows":Str)=some (.val (.ref (L+7)))∧ρ.lookup ("outer":Str)=some (.val (.fro (oul.map V.int)))∧ρ.lookup ("one":Str)=some (.val (.int one))∧ρ.lookup ("later":Str)=some (.val (.bool later))∧ρ.lookup ("chain":Str)=some (.val (.fro (C.map (bV w (L+14)))))
theorem lay_turn {one:Nat} {oul:List Int} {later:Bool} {C B:List (List Nat)} {x:List Nat} {k r:Nat} (hq:∀ k,q k≤3) (hw:∀ k,w k≤7) (h1:-1≤oul.getD one 0) (h2:oul.getD one 0<6) (ho:one<oul.length) (h6:one<6) (hCl:C.length≤6) (hBl:B.length≤100) (E:LayEnv L one w oul later C ρ) (hsp:ρ.lookup ("spot":Str)=some (.val (.int k))) (hkC:k<C.length)
  (hx:x=if later then C.getD k [] else C.getD (C.length-1-k) []) (hacc:∀ b,b=x∨b∈B→AccAt L q τ b∧b≠[]∧b.length≤6) (t7:τ[L+7]?=some (.lst (rowsV L))) (tB:τ[L+ouB oul one]?=some (.lst (B.map (bV w (L+14))))) (hr:r≤B.length)
  (hc:∀ i y,B[i]?=some y→(if later then decide (sl w (szP q) MM x≤sl w (szP q) MM y) else decide (sl w (szP q) MM x<sl w (szP q) MM y))=decide (i<r)) {n:Nat} (hn:330≤n):
  Go (exs cfg n osc L layB ρ τ) fun fl' ρ' τ'=>fl'=.next∧ρ'=ρ∧τ'=τ.set (L+ouB oul one) (.lst ((B.take r++x::B.drop r).map (bV w (L+14)))):=by
 refine e11 (ge_ex (n:=n) (m:=330) (by omega)) fun n qz1=>?_;obtain rfl:=qz1;obtain ⟨g1,g2,g3,g4,g5⟩:=E;have hk6:=Qh hkC hCl;have i1:getItemV τ (.fro (oul.map V.int)) (.int one)=some (.int (oul.getD one 0)):=item_froNat (by omega) (by rw [Qb,Qv ho,Qd,Qv ho];rfl);have i2:=item_row t7 h1 h2;have hcall:=fun (kb:Mine.Internal.B) (hl:isLam kb=true) hk (f:Str) hf (m:Nat) hm=>block_call (lo:=L) (σ:=τ) (w:=w) (q:=q) (N:=L+14) (j:=L+ouB oul one) (r:=r) (row:=B) (x:=x) (later:=later) (kb:=kb) tB (Nat.le_add_right _ _) hBl hl hk hr hc (f:=f) hf (m:=m) hm;have hkey:∀ {body:Expr} {p1 p2 p3 p4 p5 p6 p7 p8 p9 p10 p11 p12:Pos} {c1 c2 c3:Nat} {s:Scope},body=.BinOp (.BinOp (.UnaryOp .USub (.Subscript (.Name ("pair":Str) p1) (.Constant (.int 0) c1 p2) p3) p4) .Mult (.Constant (.int 5354228880) c2 p5) p6) .FloorDiv (.Call (.Name ("len":Str) p7) [.Subscript (.Name ("pair":Str) p8) (.Constant (.int 1) c3 p9) p10] [] p11) p12→(okSc s&&canSet s ("pair":Str)&&!hostSc s)=true→ownKind (kindIn s ("pair":Str))=true→kindIn s ("len":Str)=some .globalImplicit→∀ b,b=x∨b∈B→KeyAt cfg τ (.lam ("pair":Str) body s []) (bV w (L+14) b) (.int (-((sl w (szP q) MM b:Nat):Int))):=by
  intro body p1 p2 p3 p4 p5 p6 p7 p8 p9 p10 p11 p12 c1 c2 c3 s hb hs hs2 hs3 b hbm;obtain ⟨a1,a2,a3⟩:=hacc b hbm;refine ⟨hs,.int (-((sl w (szP q) MM b:Nat):Int)),fun m hm=>?_,rfl⟩;refine e11 (ge_ex (n:=m) (m:=20) (by omega)) fun m qz1=>?_;obtain rfl:=qz1;have j1:getItemV τ (bV w (L+14) b) (.int 0)=some (.int (sm w b:Nat)):=rfl;have j2:getItemV τ (bV w (L+14) b) (.int 1)=some (.ref (L+14-b.headD 0)):=rfl;have j3:=len_blk a1 a3 hq;have hb1:=sm_bnd (w:=w) hw hq a3;have hpos:=((fit_MM hq).2 b a2 a3).1;have j4:binV τ .Mult (.int (-((sm w b:Nat):Int))) (.int 5354228880)=some (.int (-((sm w b:Nat):Int)*5354228880)):=bin_mul (smallNeg hb1.1) (by decide);have j5:binV τ .FloorDiv (.int (-((sm w b:Nat):Int)*5354228880)) (.int (sm (szP q) b:Nat))=some (.int (-((sl w (szP q) MM b:Nat):Int))):=(bin_div (natNe hpos) (smallNat hb1.2)).trans (by rw [key_int hq a2 a3]);subst hb;dsimp only [List.map];have lk:List.lookup ("pair":Str) [(("pair":Str),Mine.Internal.B.val (bV w (L+14) b))]=some (.val (bV w (L+14) b)):=look_hit ..;refine ev_BinOp (σ1:=τ) (σ2:=τ) (ev_BinOp (σ1:=τ) (σ2:=τ) (ev_UnaryOp (σ1:=τ) (a:=.int (sm w b:Nat)) (ev_Item (by rfl') (ev_Name hs2 lk) (ev_CInt 0 _ _) j1) rfl) (ev_CInt _ _ _) j4) ?_ j5;exact ev_Blt (evs_cons (by rfl') (ev_Item (by rfl') (ev_Name hs2 lk) (ev_CInt 1 _ _) j2) evs_nil) hs3 (by rfl') (by rfl') j3
 rw [show layB=[.If _ [.Expr _ _] [.Expr _ _] _] from rfl];refine go_cons (go_If (z:=later) (σ1:=τ) (by left) ?_);cases later with
 |true=>
  rw [if_pos rfl] at hx⊢;have i3:getItemV τ (.fro (C.map (bV w (L+14)))) (.int k)=some (bV w (L+14) x):=item_froNat (by omega) (by rw [hx,Qb,Qd,Qv hkC];rfl);refine go_cons (go_Expr (v:=.none) (σ1:=τ.set (L+ouB oul one) (.lst ((B.take r++x::B.drop r).map (bV w (L+14))))) (by rfl') (ev_FnC (vs:=[.ref (L+ouB oul one),bV w (L+14) x]) (σ1:=τ) (by left) (kw_lam (by rfl') rfl) (by rfl') (by rfl') (by rfl') (hcall _ rfl (hkey rfl (by rfl') (by rfl') (by rfl')) _ rfl _ (by omega))) (go_nil (go_nil ⟨rfl,rfl,rfl⟩)))
 |false=>
  rw [if_neg Bool.false_ne_true] at hx⊢;have i3:getItemV τ (.fro (C.map (bV w (L+14)))) (.int (-1-(k:Int)))=some (bV w (L+14) x):=by
   refine item_fro (m:=C.length-1-k) ?_ ?_
   ·have:=place_neg (n:=(C.map (bV w (L+14))).length) (k:=k) (by rw [Qx];exact hkC) (by rw [Qx];omega);rwa [Qx] at this⊢
   ·rw [hx,Qb,Qd,Qv (by omega)];rfl
  have i4:∀ {n:Nat} {p1 p2:Pos} {c:Nat},ev cfg (n+2) osc L (.UnaryOp .USub (.Constant (.int 1) c p1) p2) ρ τ (.int (-1)) τ:=neg_one;refine go_cons (go_Expr (v:=.none) (σ1:=τ.set (L+ouB oul one) (.lst ((B.take r++x::B.drop r).map (bV w (L+14))))) (by rfl') (ev_FnC (vs:=[.ref (L+ouB oul one),bV w (L+14) x]) (σ1:=τ) ?_ (kw_lam (by rfl') rfl) (by rfl') (by rfl') (by rfl') (hcall _ rfl (hkey rfl (by rfl') (by rfl') (by rfl')) _ rfl _ (by omega))) (go_nil (go_nil ⟨rfl,rfl,rfl⟩)));refine evs_cons (σ1:=τ) (by rfl') (by left) (evs_cons (σ1:=τ) (by rfl') (ev_Item (b:=.int (-1-(k:Int))) (σ1:=τ) (by rfl') (by left) (ev_BinOp (σ1:=τ) i4 (by left) (bin_sub ..)) i3) evs_nil)
theorem ouB_lt {oul:List Int} {one:Nat} (h2:oul.getD one 0<6):ouB oul one≤6:=by
 unfold ouB
 by_cases h:oul.getD one 0<0
 ·rw [if_pos h];exact Nat.le_refl _
 ·rw [if_neg h];exact Int.toNat_le.mpr (Int.le_of_lt h2)
theorem lay_go {one:Nat} {oul:List Int} {later:Bool} {C B:List (List Nat)} (hq:∀ k,q k≤3) (hw:∀ k,w k≤7) (h1:-1≤oul.getD one 0) (h2:oul.getD one 0<6) (ho:one<oul.length) (h6:one<6) (hCl:C.length≤6) (hBl:B.length≤50) (E:LayEnv L one w oul later C ρ)
  (hdC:Down w (szP q) MM C) (hdB:Down w (szP q) MM B) (hacc:∀ b,b∈C∨b∈B→AccAt L q τ b∧b≠[]∧b.length≤6∧b.headD 0<6) (t7:τ[L+7]?=some (.lst (rowsV L))) (tB:τ[L+ouB oul one]?=some (.lst (B.map (bV w (L+14))))) {n:Nat} (hn:340≤n):
  Go (ex cfg n osc L layF ρ τ) fun fl' ρ' τ'=>fl'=.next∧Same ["spot"] ρ ρ'∧∃ C',Mix C B C'∧Down w (szP q) MM C'∧τ'=τ.set (L+ouB oul one) (.lst (C'.map (bV w (L+14)))):=by
 refine e11 (ge_ex (n:=n) (m:=340) (by omega)) fun n qz1=>?_;obtain rfl:=qz1;have hou:=ouB_lt h2;have turn:=fun (B:List (List Nat)) (x:List Nat) (k r:Nat) (ρ:Rho) (τ:St) hBl E hsp hkC hx hacc t7 tB hr hc=>lay_turn (L:=L) (τ:=τ) (ρ:=ρ) (one:=one) (oul:=oul) (later:=later) (C:=C) (B:=B) (x:=x) (k:=k) (r:=r) hq hw h1 h2 ho h6 hCl hBl E hsp hkC hx hacc t7 tB hr hc (n:=n+339) (by omega);generalize hM:layB=LB at turn;obtain ⟨g1,g2,g3,g4,g5⟩:=id E;have hlen:=len_fro (σ:=τ) (xs:=C.map (bV w (L+14))) (by rw [Qx];omega);rw [Qx] at hlen;rw [show layF=.For _ _ layB [] _ from rfl,hM];refine go_ForR (σ1:=τ) (m:=C.length) (f:=fun k:Nat=>V.int k) (fun k ρ2 τ2=>Same ["spot"] ρ ρ2∧∃ C',Mix (if later then C.take k else C.drop (C.length-k)) B C'∧Down w (szP q) MM C'∧τ2=τ.set (L+ouB oul one) (.lst (C'.map (bV w (L+14))))) (by rfl') ?_ ?_ ?_ ?_
 ·exact itr_range1 (m:=(C.length:Nat)) (by rfl') (by left) (range_nat (m:=C.length) (by omega))
 ·refine ⟨fun _ _=>rfl,B,?_,hdB,(set_same tB).symm⟩;cases later with
  |true=>exact Mix.right B
  |false=>rw [if_neg Bool.false_ne_true,Nat.sub_zero,List.drop_length];exact Mix.right B
 ·rintro k ρ2 τ2 hk ⟨hs,h9⟩;refine e13 h9 fun C' hm hd qz=>?_;clear h9;obtain rfl:=qz;refine ⟨_,by left,?_⟩;have hsub:∀ b∈C',b∈C∨b∈B:=fun b hb=>(Wx (hm.perm.subset hb)).imp (fun h=>by
   cases later with
   |true=>exact List.mem_of_mem_take h
   |false=>exact List.mem_of_mem_drop h) id
  have hCl2:C'.length≤100:=by
   have:=hm.perm.length_eq;rw [Qu] at this;rw [this];refine Qy (Nat.add_le_add (Qy ?_ hCl) hBl) (by decide);cases later with
   |true=>exact (List.take_sublist ..).length_le
   |false=>exact (List.drop_sublist ..).length_le
  generalize hx:(if later then C.getD k [] else C.getD (C.length-1-k) [])=x;have hxC:x∈C:=by
   rw [←hx];cases later with
   |true=>rw [if_pos rfl,Qd,Qv hk];exact List.getElem_mem hk
   |false=>rw [if_neg Bool.false_ne_true,Qd,Qv (by omega)];exact List.getElem_mem _
  refine e14 (cut_at (fun y=>if later then decide (sl w (szP q) MM x≤sl w (szP q) MM y) else decide (sl w (szP q) MM x<sl w (szP q) MM y)) C' (hd.imp fun {a b} h=>by
   cases later with
   |true=>intro h2;rw [if_pos rfl,decide_eq_true_eq] at *;exact Qy h2 h
   |false=>intro h2;rw [if_neg Bool.false_ne_true,decide_eq_true_eq] at *;exact Qh h2 h)) fun r r1 r2 r3 r4=>?_
  have acc2:∀ b,b=x∨b∈C'→AccAt L q (τ.set (L+ouB oul one) (.lst (C'.map (bV w (L+14))))) b∧b≠[]∧b.length≤6:=fun b hb=>by
   obtain ⟨a1,a2,a3,a4⟩:=hacc b (hb.elim (fun e=>.inl (e▸hxC)) (hsub b));exact ⟨get_ne (by omega) a1,a2,a3⟩
  refine (turn C' x k r ((Str.ofString "spot",.val (.int (k:Nat)))::ρ2) _ hCl2 ⟨look_miss (by rfl') ((hs _ (by rfl')).trans g1),look_miss (by rfl') ((hs _ (by rfl')).trans g2),look_miss (by rfl') ((hs _ (by rfl')).trans g3),look_miss (by rfl') ((hs _ (by rfl')).trans g4),look_miss (by rfl') ((hs _ (by rfl')).trans g5)⟩ (by left) hk hx.symm acc2 (get_ne (by omega) t7) (get_set tB) r1 r2).mono ?_;rintro fl ρ3 τ3 ⟨rfl,rfl,rfl⟩;refine ⟨fun u hu=>(look_miss (not_in hu).1 rfl).trans (hs u hu),C'.take r++x::C'.drop r,?_,?_,by rw [List.set_set]⟩
  ·cases later with
   |true=>
    rw [if_pos rfl] at hm hx⊢;have e:C.take (k+1)=C.take k++[x]:=by rw [List.take_add_one,Qv hk,←hx,Qd,Qv hk];rfl
    rw [e];refine mix_insR (R:=fun y=>sl w (szP q) MM x≤sl w (szP q) MM y) hm r (fun y hy=>?_) fun y hy=>?_
    ·have hp:(C.take (k+1)).Pairwise _:=hdC.sublist (List.take_sublist ..);rw [e] at hp;exact (List.pairwise_append.mp hp).2.2 y hy x (List.mem_singleton.mpr rfl)
    ·have:=r4 y hy;rw [if_pos rfl] at this;exact of_decide_eq_false this
   |false=>
    rw [if_neg Bool.false_ne_true] at hm hx⊢;have e:C.drop (C.length-(k+1))=x::C.drop (C.length-k):=by
     rw [show C.length-(k+1)=C.length-1-k from by omega,List.drop_eq_getElem_cons (show C.length-1-k<C.length by omega),←hx,Qd,Qv (by omega),nT hk];rfl
    rw [e];refine mix_insL (R:=fun y=>sl w (szP q) MM y≤sl w (szP q) MM x) hm r (fun y hy=>?_) fun y hy=>?_
    ·have hp:(C.drop (C.length-(k+1))).Pairwise _:=hdC.sublist (List.drop_sublist ..);rw [e] at hp;exact (List.pairwise_cons.mp hp).1 y hy
    ·have:=r3 y hy;rw [if_neg Bool.false_ne_true,decide_eq_true_eq] at this;exact Nat.not_le.mpr this
  ·refine pair_ins hd (fun y hy=>?_) fun y hy=>?_
   ·have:=r3 y hy;cases later with
    |true=>rw [if_pos rfl,decide_eq_true_eq] at this;exact this
    |false=>rw [if_neg Bool.false_ne_true,decide_eq_true_eq] at this;exact Wq this
   ·have:=r4 y hy;cases later with
    |true=>rw [if_pos rfl,decide_eq_false_iff_not] at this;exact Nat.le_of_not_le this
    |false=>rw [if_neg Bool.false_ne_true,decide_eq_false_iff_not] at this;exact Nat.le_of_not_lt this
 ·rintro ρ2 τ2 ⟨hs,h9⟩;refine e13 h9 fun C' hm hd qz=>?_;obtain rfl:=qz;refine ⟨rfl,hs,C',?_,hd,rfl⟩;cases later with
  |true=>rw [if_pos rfl,List.take_length] at hm;exact hm
  |false=>rw [if_neg Bool.false_ne_true,Nat.sub_self,List.drop_zero] at hm;exact hm
theorem nodup_six {l:List Nat} (h:l.Nodup) (h6:∀ x∈l,x<6):l.length≤6:=by
 have hp:l.Perm ((List.range 6).filter fun x=>decide (x∈l)):=(List.perm_ext_iff_of_nodup h (List.nodup_range.filter _)).mpr fun x=>by
  rw [List.mem_filter,List.mem_range,decide_eq_true_eq];exact ⟨fun q=>⟨h6 x q,q⟩,fun q=>q.2⟩
 rw [hp.length_eq];have:=List.length_filter_le (fun x=>decide (x∈l)) (List.range 6);rwa [List.length_range] at this
theorem row_len:∀ {A:List (List Nat)},Row A→A.length≤A.flatten.length
 |[],_=>Nat.le_refl _
 |b::A,h=>by
  have h1:=List.length_pos_iff.mpr (h b (Qk ..)).1;have h2:=row_len (A:=A) fun x hx=>h x (Qj _ hx);rw [List.flatten_cons,Qu,List.length_cons,Nat.add_comm];exact Nat.add_le_add h1 h2
theorem head_in {b:List Nat} {A:List (List Nat)} (hr:Row A) (hb:b∈A):b.headD 0∈A.flatten:=List.mem_flatten.mpr ⟨b,hb,headD_mem (hr b hb).1⟩
theorem add_froR {j:Nat} {a b:List V} (hj:τ[j]?=some (.lst b)) (h:a.length+b.length≤4096):binV τ .Add (.fro a) (.ref j)=some (.fro (a++b)):=
 (show binL τ .Add (.fro a) (.ref j)=_ from bnd (a:=a) rfl (bnd (seqRef hj) (bnt (and2 rfl (dec h)) rfl)))
@[reducible] noncomputable def RowSt (L:Nat) (w q:Nat→Nat) (m:Nat) (own:Nat→Nat) (j:Nat) (row:List (List Nat)) (τ:St):Prop:=
 τ[L+j]?=some (.lst (row.map (bV w (L+14))))∧(∀ b∈row,AccAt L q τ b)∧Row row∧Down w (szP q) MM row∧row.flatten.Nodup∧∀ x∈row.flatten,own x=j∧m≤x∧x<6
@[reducible] noncomputable def OInv (L:Nat) (w q:Nat→Nat) (m:Nat) (R:Nat→List (List Nat)) (own:Nat→Nat) (z:Nat) (τ:St):Prop:=
 τ.length=L+9+(6-m)∧τ[L+7]?=some (.lst (rowsV L))∧τ[L+8]?=some (.lst (List.replicate z (.int 0)))∧z≤6*(6-m)∧∀ j,(j<m∨j=6)→RowSt L w q m own j (R j) τ
noncomputable def wordsV (q:Nat→Nat):V:=.fro ((List.range 6).map fun k=>V.str (mkS (wdT q k)))
@[reducible] noncomputable def OEnv (L:Nat) (w q:Nat→Nat) (oul:List Int) (later:Bool) (ρ:Rho):Prop:=ρ.lookup ("rows":Str)=some (.val (.ref (L+7)))∧ρ.lookup ("left":Str)=some (.val (.ref (L+8)))∧ρ.lookup ("outer":Str)=some (.val (.fro (oul.map V.int)))∧ρ.lookup ("weights":Str)=some (.val (jobsV w))∧ρ.lookup ("words":Str)=some (.val (wordsV q))∧ρ.lookup ("later":Str)=some (.val (.bool later))
theorem order_turn {m z:Nat} {oul:List Int} {later:Bool} {R:Nat→List (List Nat)} {own:Nat→Nat} (hq:∀ k,q k≤3) (hw:∀ k,w k≤7) (hO:OulOk oul) (hm:m<6) (E:OEnv L w q oul later ρ) (ho:ρ.lookup ("one":Str)=some (.val (.int m))) (I:OInv L w q (m+1) R own z τ) {n:Nat} (hn:360≤n):
  Go (exs cfg n osc L orderB ρ τ) fun fl' ρ' τ'=>fl'=.next∧OEnv L w q oul later ρ'∧∃ R' own' z',Step w (szP q) MM (ouB oul) m R R'∧OInv L w q m R' own' z' τ':=by
 refine e11 (ge_ex (n:=n) (m:=360) (by omega)) fun n qz1=>?_;obtain rfl:=qz1;refine nb fun kk=>?_;obtain ⟨o1,o2⟩:=hO;obtain ⟨o3,o4⟩:=o2 m hm;have o5:oul.getD m 0<6:=Int.lt_trans o4 (Int.ofNat_lt.mpr hm);have hou:=ouB_lt o5;have hjm:∀ {j},(j<m∨j=6)→j≠m:=fun h=>h.elim Nat.ne_of_lt fun e h=>Nat.ne_of_lt hm (h.symm.trans e);obtain ⟨i1,i2,i3,i4,i5⟩:=I;have hjo:ouB oul m<m∨ouB oul m=6:=by
  unfold ouB
  by_cases h:oul.getD m 0<0
  ·rw [if_pos h];exact .inr rfl
  ·rw [if_neg h];exact .inl ((Int.toNat_lt (Int.not_lt.mp h)).mpr o4)
 obtain ⟨r1,r2,r3,r4,r5,r6⟩:=i5 m (.inl (Nat.lt_succ_self m));obtain ⟨b1,b2,b3,b4,b5,b6⟩:=i5 (ouB oul m) (hjo.imp Nat.lt_succ_of_lt id);refine kk ?_;have hNm:(m::(R m).flatten).Nodup:=List.nodup_cons.mpr ⟨fun h=>Nat.not_succ_le_self m (r6 m h).2.1,r5⟩;have h6m:=nodup_six hNm fun x hx=>(Wy hx).elim (fun e=>e▸hm) fun h=>(r6 x h).2.2;rw [List.length_cons] at h6m;have h6b:=nodup_six b5 fun x hx=>(b6 x hx).2.2;have merge:=fun (ρ:Rho) (τ:St) E t1 t2 t3 t4=>merge_go (τ:=τ) (ρ:=ρ) (L:=L) (one:=m) (z:=z) (A:=R m) hw hq hm r5 (fun y hy=>(r6 y hy).2) h6m r3 (Qy (row_len r3) (Wq h6m)) (Qy i4 (Qy (Nat.mul_le_mul_left 6 (Nat.sub_le _ _)) (by decide))) E t1 t2 t3 t4 (n:=n+357) (by omega);have lay:=fun (C:List (List Nat)) (ρ:Rho) (τ:St) hCl E hdC hacc t7 tB=>lay_go (τ:=τ) (ρ:=ρ) (L:=L) (one:=m) (oul:=oul) (later:=later) (C:=C) (B:=R (ouB oul m)) hq hw o3 o5 (o1.symm▸hm) hm hCl (Qy (row_len b3) (by omega)) E hdC b4 hacc t7 tB (n:=n+355) (by omega);generalize hM1:mergeF=MF at merge;generalize hM2:layF=LF at lay;refine nb fun kk=>?_;obtain ⟨g1,g2,g3,g4,g5,g6⟩:=E;refine kk ?_;rw [show orderB=[_,_,mergeF,_,layF] from rfl,hM1,hM2];have hlen:τ.length=L+14-m:=i1.trans (nG hm).1;have j1:getItemV τ (jobsV w) (.int m)=some (.int (w m:Nat)):=item_job hm;have j2:getItemV (τ++[HO.acc 0 []]) (.ref (L+7)) (.int m)=some (.ref (L+m)):=item_nat (get_app i2) (by omega) (by unfold rowsV;rw [Qb,List.getElem?_range (by omega)];rfl);refine go_cons (go_Assign (by rfl') (by rfl') (v:=.tup [.int (w m:Nat),.ref τ.length,.ref (L+m)]) (σ1:=τ++[HO.acc 0 []]) ?_ (by left) ?_)
 ·exact ev_Tuple (evs_cons (σ1:=τ) (by rfl') (by left) (evs_cons (σ1:=τ++[HO.acc 0 []]) (by rfl') (ev_Acc0 (by rfl')) (evs_cons (σ1:=τ++[HO.acc 0 []]) (by rfl') (by left) evs_nil)))
 rw [hlen];have k1:(τ++[HO.acc 0 []])[L+14-m]?=some (.acc 0 []):=by rw [←hlen];exact get_last _ _
 have ht:=tag_acc k1;have k2:=meth_push (lo:=L) (a:=(" ":Str)) (b:=mkS (wdT q m)) k1 (by omega) (by decide);rw [show (τ++[HO.acc 0 []]).set (L+14-m) (.acc 0 ([]++[V.tup [.str (" ":Str),.str (mkS (wdT q m))]]))=τ++[HO.acc 0 ([m].map (pcV q))] from by rw [←hlen,set_last,blank32];rfl] at k2;have j3:getItemV (τ++[HO.acc 0 []]) (wordsV q) (.int m)=some (.str (mkS (wdT q m))):=item_froNat (by omega) (by rw [Qb,List.getElem?_range hm];rfl);walk_at "call stmt";have s2:(τ++[HO.acc 0 ([m].map (pcV q))])[L+14-m]?=some (.acc 0 ([m].map (pcV q))):=by rw [←hlen];exact get_last _ _
 have hap:∀ i o,τ[i]?=some o→(τ++[HO.acc 0 ([m].map (pcV q))])[i]?=some o:=fun i o h=>get_app h;have hl1:(τ++[HO.acc 0 ([m].map (pcV q))]).length=L+9+(6-m):=by rw [Qu,List.length_singleton,i1];exact (nG hm).2
 generalize τ++[HO.acc 0 ([m].map (pcV q))]=τ1 at s2 hap hl1;refine go_cons ((merge _ τ1 ⟨by left,by left,by left,by rw [show sm w [m]=w m from rfl];walk_at "*"⟩ (hap _ _ r1) s2 (fun x hx=>hap _ _ (r2 x hx)) (hap _ _ i3)).mono ?_);rintro fl ρ2 τ2 ⟨rfl,h⟩;refine e33 h fun b' A' z' c1 c2 h=>?_;refine e03 h fun hP hE h=>?_;refine e12 hP fun P c3 c4=>?_;refine e04 hE fun e1 e2 e3 e4=>?_;refine e06 h fun hs t1 t2 t3 t4 h=>?_;refine e02 h fun t5 t6=>?_;refine nb fun kk=>?_;obtain ⟨q1,q2,q3,q4⟩:=c1.ok (fit_MM hq) (List.cons_ne_nil _ _) (by rw [Qu,List.length_singleton,Nat.add_comm];exact h6m) r3 r4;refine kk ?_;have hhd:b'.headD 0=m:=by rw [c4];rfl
 have hC6:(b'::A').length≤6:=by
  refine Qy (row_len q2) ?_;rw [List.flatten_cons,q1,Qu,List.length_singleton,Nat.add_comm];exact h6m
 have t6s:=fun (i:Nat) (h8:i<8) (hi:i≠m)=>t6 (L+i) (nD hi) (nE h8) (nA hm (Nat.lt_succ_of_lt h8)) fun y hy=>nA (r6 y hy).2.2 (Nat.lt_succ_of_lt h8);have far:∀ j,(j<m∨j=6)→RowSt L w q (m+1) own j (R j) τ2:=fun j hj=>by
  obtain ⟨a1,a2,a3,a4,a5,a6⟩:=i5 j (hj.imp Nat.lt_succ_of_lt id);refine ⟨(t6s j (hj.elim (fun h=>Nat.lt_trans h (Qh hm (by decide))) fun e=>e▸(by decide)) (hjm hj)).trans (hap _ _ a1),fun b hb=>?_,a3,a4,a5,a6⟩;have hh:=a6 _ (head_in a3 hb);exact (t6 _ (nB hh.2.2 (by omega)) (nB hh.2.2 (by decide)) (nC hh.2.2 hm (Nat.ne_of_gt hh.2.1)) fun y hy=>nC hh.2.2 (r6 y hy).2.2 fun e=>hjm hj (hh.1.symm.trans ((congrArg own e).trans (r6 y hy).1))).trans (hap _ _ (a2 b hb))
 have t7:τ2[L+7]?=some (.lst (rowsV L)):=(t6s 7 (by decide) (Nat.ne_of_gt (Nat.lt_trans hm (by decide)))).trans (hap _ _ i2);have kadd:=add_froR (a:=[.tup [.int (sm w b':Nat),.ref (L+14-m)]]) t1 (by rw [Qx,Nat.add_comm];exact Qy hC6 (by decide));rw [show [V.tup [.int (sm w b':Nat),.ref (L+14-m)]]++A'.map (bV w (L+14))=(b'::A').map (bV w (L+14)) from by rw [List.map_cons];unfold bV;rw [hhd];rfl] at kadd;refine go_cons (go_Assign (by rfl') (by rfl') (v:=.fro ((b'::A').map (bV w (L+14)))) (σ1:=τ2) (by left) (by left) ?_);refine nb fun kk=>?_;obtain ⟨f1,f2,f3,f4,f5,f6⟩:=far (ouB oul m) hjo;refine kk ?_;refine go_cons ((lay (b'::A') _ τ2 hC6 ⟨look_miss (by rfl') ((hs _ (by rfl')).trans (by left)),look_miss (by rfl') ((hs _ (by rfl')).trans (by left)),look_miss (by rfl') ((hs _ (by rfl')).trans (by left)),look_miss (by rfl') ((hs _ (by rfl')).trans (by left)),by left⟩ q3 (fun b hb=>?_) t7 f1).mono ?_)
 ·rcases hb with hb|hb
  ·obtain ⟨y1,y2⟩:=q2 b hb;rcases Wy hb with rfl|hb
   ·exact ⟨by show τ2[_]?=_;rw [hhd];exact t2,y1,y2,hhd.symm▸hm⟩
   ·exact ⟨t3 b hb,y1,y2,(r6 _ (List.mem_flatten.mpr ⟨b,by rw [c3];exact List.mem_append_right _ hb,headD_mem y1⟩)).2.2⟩
  ·obtain ⟨y1,y2⟩:=f3 b hb;exact ⟨f2 b hb,y1,y2,(f6 _ (head_in f3 hb)).2.2⟩
 rintro fl ρ3 τ3 ⟨rfl,hs3,C',m1,m2,rfl⟩;refine go_nil ⟨rfl,⟨(hs3 _ (by rfl')).trans (look_miss (by rfl') ((hs _ (by rfl')).trans (by left))),(hs3 _ (by rfl')).trans (look_miss (by rfl') ((hs _ (by rfl')).trans (by left))),(hs3 _ (by rfl')).trans (look_miss (by rfl') ((hs _ (by rfl')).trans (by left))),(hs3 _ (by rfl')).trans (look_miss (by rfl') ((hs _ (by rfl')).trans (by left))),(hs3 _ (by rfl')).trans (look_miss (by rfl') ((hs _ (by rfl')).trans (by left))),(hs3 _ (by rfl')).trans (look_miss (by rfl') ((hs _ (by rfl')).trans (by left)))⟩,fun j=>if j=ouB oul m then C' else R j,fun x=>if x=m∨own x=m then ouB oul m else own x,z',⟨b',A',c1,by dsimp only;rw [if_pos rfl];exact m1,by dsimp only;rw [if_pos rfl];exact m2,fun j _ hj=>if_neg hj⟩,?_,get_ne (by omega) t7,get_ne (by omega) t4,nZ hm i4 c2,fun j hj=>?_⟩
 ·rw [List.length_set,t5];exact hl1
 ·have hfl:C'.flatten.Perm (m::((R m).flatten++(R (ouB oul m)).flatten)):=by
   have:=m1.flat.perm;rw [List.flatten_cons,q1] at this;exact this
  by_cases e:j=ouB oul m
  ·subst e;show RowSt L w q m _ _ (if _ then C' else _) _;rw [if_pos rfl];refine ⟨get_set f1,fun b hb=>?_,fun b hb=>(Wx (m1.perm.subset hb)).elim (q2 b) (f3 b),m2,hfl.symm.nodup ?_,fun x hx=>?_⟩
   ·rcases Wx (m1.perm.subset hb) with hb|hb
    ·rcases Wy hb with rfl|hb
     ·show (τ2.set _ _)[_]?=_;rw [hhd];exact get_ne (by omega) t2
     ·exact get_ne (nA (r6 _ (List.mem_flatten.mpr ⟨b,by rw [c3];exact List.mem_append_right _ hb,headD_mem (q2 b (Qj _ hb)).1⟩)).2.2 (by omega)) (t3 b hb)
    ·exact get_ne (nA (f6 _ (head_in f3 hb)).2.2 (by omega)) (f2 b hb)
   ·refine List.nodup_cons.mpr ⟨fun h=>?_,List.nodup_append.mpr ⟨r5,b5,fun x hx y hy e=>?_⟩⟩
    ·rcases Wx h with h|h
     ·exact Nat.not_succ_le_self m (r6 m h).2.1
     ·exact Nat.not_succ_le_self m (b6 m h).2.1
    ·subst e;exact hjm hjo ((b6 x hy).1.symm.trans (r6 x hx).1)
   ·rcases Wy (hfl.subset hx) with rfl|hx
    ·exact ⟨if_pos (.inl rfl),Nat.le_refl _,hm⟩
    ·rcases Wx hx with hx|hx
     ·have:=r6 x hx;exact ⟨if_pos (.inr this.1),Nat.le_of_succ_le this.2.1,this.2.2⟩
     ·have:=b6 x hx;refine ⟨?_,Nat.le_of_succ_le this.2.1,this.2.2⟩
      by_cases e:x=m∨own x=m
      ·exact if_pos e
      ·exact (if_neg e).trans this.1
  ·show RowSt L w q m _ _ (if _ then C' else _) _;rw [if_neg e];refine nb fun kk=>?_;obtain ⟨a1,a2,a3,a4,a5,a6⟩:=far j hj;refine kk ?_;refine ⟨get_ne (nD (Ne.symm e)) a1,fun b hb=>?_,a3,a4,a5,fun x hx=>?_⟩
   ·exact get_ne (nA (a6 _ (head_in a3 hb)).2.2 (by omega)) (a2 b hb)
   ·have:=a6 x hx;exact ⟨(if_neg fun h=>h.elim (Nat.ne_of_gt this.2.1) fun h=>hjm hj (this.1.symm.trans h)).trans this.1,Nat.le_of_succ_le this.2.1,this.2.2⟩
theorem Run.snoc {w p ou:Nat→Nat} {M k m:Nat} {R R' R'':Nat→List (List Nat)} (h:Run w p M ou (k+1) m R R') (hs:Step w p M ou k R' R''):Run w p M ou k m R R'':=by
 induction h with
 |nil=>exact .cons (Nat.le_refl _) hs .nil
 |cons h1 h2 _ ih=>exact .cons (Nat.le_of_succ_le h1) h2 (ih hs)
theorem comp_st {C:Cfg} {n:Nat} {t iter elt:Expr} {s:Scope} {gs:List Comprehension} {it:It} {acc:List V} (xs:List V) (I:Nat→List V×St→Prop) (h0:I 0 (acc,σ)) (hn:∀ k a,I k a→it.nth a.2 k=some xs[k]?) (hc:compOk t iter ρ)
  (step:∀ k v a,xs[k]?=some v→I k a→∃ ρ1 a',bindT s t v ρ=some ρ1∧cEnd C (n+1) s lo elt gs ρ1 a.1 a.2 a'.1 a'.2∧I (k+1) a'):∃ acc' σ',comp C (n+2) s lo elt ⟨t,iter,[],0⟩ gs it ρ acc σ acc' σ'∧I xs.length (acc',σ'):=by
 obtain ⟨hc1,hc2⟩:=hc;obtain ⟨fl,a',h1,rfl,h2⟩:=Lp_run (nth:=compNth it) (body:=compBody C (n+1) s lo elt ⟨t,iter,[],0⟩ gs ρ) (xs:=xs) I (fun fl a=>fl=.next∧I xs.length a) hn (fun k v a hv hI=>by
  obtain ⟨ρ1,a',e1,e2,e3⟩:=step k v a hv hI;exact ⟨.next,a',⟨rfl,ρ1,true,a.2,e1,tsts_nil,fun z=>(nomatch z),fun _=>e2⟩,.inl ⟨.inl rfl,e3⟩⟩) (fun a hI=>⟨rfl,hI⟩) xs.length 0 (acc,σ) (Nat.add_zero _) h0
 exact ⟨a'.1,a'.2,⟨⟨rfl,and_l hc1,and_r hc1⟩,fun X H A hA=>comp_go X H rfl (List.all_eq_true.mpr fun x hx=>by rw [hc2 x hx];rfl) h1 hA.d⟩,h2⟩
@[reducible] noncomputable def PInv (L z:Nat) (w q:Nat→Nat) (C:List (List Nat)) (k:Nat) (a:List V×St):Prop:=
 a.1=(C.take k).flatten.map (pcV q)∧a.2[L+6]?=some (.lst (C.map (bV w (L+14))))∧a.2[L+7]?=some (.lst (rowsV L))∧a.2[L+8]?=some (.lst (List.replicate z (.int 0)))∧(∀ b∈C.drop k,AccAt L q a.2 b)∧∀ b∈C.take k,a.2[L+14-b.headD 0]?=some (.acc 0 [])
theorem piece_step {z k:Nat} {C:List (List Nat)} {b:List Nat} {a:List V×St} (hr:Row C) (hn:C.flatten.Nodup) (h6:∀ x∈C.flatten,x<6) (hb:C[k]?=some b) (I:PInv L z w q C k a):PInv L z w q C (k+1) (a.1++b.map (pcV q),a.2.set (L+14-b.headD 0) (.acc 0 [])):=by
 obtain ⟨i1,i2,i3,i4,i5,i6⟩:=I;have ht:C.take (k+1)=C.take k++[b]:=by rw [List.take_add_one,hb];rfl
 have hbC:=List.mem_of_getElem? hb;have hb6:=h6 _ (head_in hr hbC);have hk:=(Qz hb).1;have hd:C.drop k=b::C.drop (k+1):=by
  rw [List.drop_eq_getElem_cons hk,(Qz hb).2]
 have hne:∀ y∈C.drop (k+1),y.headD 0≠b.headD 0:=fun y hy e=>by
  have hs:(C.drop k).flatten.Nodup:=by
   have h:=hn;rw [←List.take_append_drop k C,List.flatten_append] at h;exact (List.nodup_append.mp h).2.1
  rw [hd,List.flatten_cons] at hs;exact (List.nodup_append.mp hs).2.2 _ (headD_mem (hr b hbC).1) _ (List.mem_flatten.mpr ⟨y,hy,headD_mem (hr y (List.mem_of_mem_drop hy)).1⟩) e.symm
 refine ⟨?_,get_ne (by omega) i2,get_ne (by omega) i3,get_ne (by omega) i4,fun y hy=>?_,fun y hy=>?_⟩
 ·rw [i1,ht,List.flatten_append,List.flatten_singleton,List.map_append]
 ·have:=h6 _ (head_in hr (List.mem_of_mem_drop hy));have h3:=hne y hy;exact get_ne (by omega) (i5 y (by rw [hd];exact Qj _ hy))
 ·rw [ht] at hy;have hb2:=i5 b (by rw [hd];exact Qk ..)
  by_cases e:y.headD 0=b.headD 0
  ·rw [e];exact get_set hb2
  ·rcases Wx hy with hy|hy
   ·have:=h6 _ (head_in hr (List.mem_of_mem_take hy));exact get_ne (by omega) (i6 y hy)
   ·rw [Wz hy] at e;exact absurd rfl e
theorem frz_pcs (f:Nat→Nat) (l:List Nat) (n:Nat):mapO (frz σ lo (n+2)) (l.map (pcV f))=some (l.map (pcV f)):=mapO_map _ _ _ _ fun _ _=>rfl
noncomputable def pieceA:Stmt:=nthS (fnD pw "_law_order").body 2
noncomputable def orderR:Stmt:=nthS (fnD pw "_law_order").body 3
theorem rows_comp {n:Nat} {s:Scope} {t iter:Expr} {p:Pos} (hc:compOk t iter ρ) (hs:∀ y:Nat,∃ ρ1,bindT s t (.int y) ρ=some ρ1) (hk:cfg.keep p=true):
  comp cfg (n+22) s σ.length (.List [] p) ⟨t,iter,[],0⟩ [] (.fix ((List.range 7).map fun k:Nat=>V.int k)) ρ [] σ (rowsV σ.length) (σ++List.replicate 7 (.lst [])):=by
 obtain ⟨a1,a2,h1,h2⟩:=comp_st (C:=cfg) (n:=n+20) (lo:=σ.length) (s:=s) (elt:=.List [] p) (gs:=[]) (it:=.fix ((List.range 7).map fun k:Nat=>V.int k)) (acc:=[]) (σ:=σ) (ρ:=ρ) (t:=t) (iter:=iter) ((List.range 7).map fun k:Nat=>V.int k) (fun k a=>a=((List.range k).map fun j=>V.ref (σ.length+j),σ++List.replicate k (.lst []))) (by rw [show List.replicate 0 (HO.lst [])=[] from rfl,List.append_nil];rfl) (fun _ _ _=>rfl) hc (fun k v a hv hI=>by
  subst hI;rw [Qb,Option.map_eq_some_iff] at hv;refine e12 hv fun y hy qz2=>?_;obtain rfl:=qz2;have hk7:k<7:=by have:=(Qz hy).1;rwa [List.length_range] at this
  obtain ⟨ρ1,e1⟩:=hs y;refine ⟨ρ1,((List.range (k+1)).map fun j=>V.ref (σ.length+j),σ++List.replicate (k+1) (.lst [])),e1,⟨.ref (σ.length+k),?_,by rw [Qx,List.length_range];omega,by rw [List.range_succ,List.map_append];rfl⟩,rfl⟩;have e:=ev_ListT (C:=cfg) (n:=n+20) (sc:=s) (lo:=σ.length) (σ:=σ++List.replicate k (.lst [])) (ρ:=ρ1) hk evs_nil;rw [Qu,List.length_replicate,List.append_assoc,←List.replicate_succ'] at e;exact e)
 rw [Qx,List.length_range] at h2;injection h2 with h2 h3
 rw [h2,h3] at h1;exact h1
theorem order_start {n:Nat} (hn:40≤n) {Q:Fl→Rho→St→Prop} {rest:List Stmt} {later outer weights words:V} {r0:Rho} (hρ:r0=[(("words":Str),.val words),(("weights":Str),.val weights),(("outer":Str),.val outer),(("later":Str),.val later)])
  (hQ:∀ τ,τ.length=σ.length+9→τ[σ.length+7]?=some (.lst (rowsV σ.length))→τ[σ.length+8]?=some (.lst [])→(∀ j,j<7→τ[σ.length+j]?=some (.lst []))→Go (exs cfg (n-1) osc σ.length rest ((("left":Str),.val (.ref (σ.length+8)))::(("rows":Str),.val (.ref (σ.length+7)))::r0) τ) Q):
  Go (exs cfg n osc σ.length (nthS (fnD pw "_law_order").body 0::rest) r0 σ) Q:=by
 refine e11 (ge_ex (n:=n) (m:=40) (by omega)) fun n qz1=>?_;obtain rfl:=qz1;rw [show n+40-1=n+39 from rfl] at hQ;subst hρ;have hl:(σ++List.replicate 7 (HO.lst [])).length=σ.length+7:=by rw [Qu,List.length_replicate]
 have hl2:((σ++List.replicate 7 (HO.lst []))++[HO.lst (rowsV σ.length)]).length=σ.length+8:=by rw [Qu,hl];rfl
 rw [show nthS (fnD pw "_law_order").body 0=.Assign _ (.Tuple [.ListComp (.List [] _) _ _ _,.List [] _] _ _) _ from rfl];refine go_cons (go_Assign (by rfl') (by rfl') (v:=.tup [.ref (σ++List.replicate 7 (HO.lst [])).length,.ref ((σ++List.replicate 7 (HO.lst []))++[HO.lst (rowsV σ.length)]).length]) (σ1:=((σ++List.replicate 7 (HO.lst []))++[HO.lst (rowsV σ.length)])++[HO.lst []]) ?_ (by left) ?_)
 ·refine ev_Tuple (evs_cons (σ1:=(σ++List.replicate 7 (HO.lst []))++[HO.lst (rowsV σ.length)]) (by rfl') ?_ (evs_cons (by rfl') (ev_ListT (by decide +kernel) evs_nil) evs_nil));refine ev_CompT (it:=.fix ((List.range 7).map fun k:Nat=>V.int k)) (σ1:=σ) (by rfl') (by decide +kernel) (itr_range1 (m:=7) (by rfl') (by left) (range_nat (m:=7) (by decide))) ?_;exact rows_comp (n:=n+13) (compOk_one (by rfl') (by left)) (fun y=>⟨_,by left⟩) (by decide +kernel)
 ·rw [hl2,hl];refine hQ _ (by rw [Qu,hl2];rfl) ?_ ?_ fun j hj=>?_
  ·rw [List.append_assoc,List.getElem?_append_right (Nat.le_of_eq hl),hl,Nat.sub_self];rfl
  ·rw [List.getElem?_append_right (Nat.le_of_eq hl2),hl2,Nat.sub_self];rfl
  ·rw [List.append_assoc,List.append_assoc,List.getElem?_append_right (Nat.le_add_right _ _),Nat.add_sub_cancel_left,List.getElem?_append_left (by rw [List.length_replicate];exact hj),List.getElem?_replicate,if_pos hj]
theorem range5:rangeL 5 (-1) (-1)=(List.range 6).map fun k:Nat=>V.int ((5-k:Nat):Int):=by rfl'
theorem OEnv.cons {oul:List Int} {later:Bool} (E:OEnv L w q oul later ρ) {v:Mine.Internal.B}:OEnv L w q oul later ((Str.ofString "one",v)::ρ):=by
 obtain ⟨g1,g2,g3,g4,g5,g6⟩:=E;exact ⟨look_miss (by rfl') g1,look_miss (by rfl') g2,look_miss (by rfl') g3,look_miss (by rfl') g4,look_miss (by rfl') g5,look_miss (by rfl') g6⟩
theorem order_loop {oul:List Int} {later:Bool} {F:Fo} (hq:∀ k,q k≤3) (hw:∀ k,w k≤7) (hO:OulOk oul) (hF:F.sz=6) (hS:Spec (ouB oul) 0 6 F) (E:OEnv L w q oul later ρ) (t0:τ.length=L+9) (t7:τ[L+7]?=some (.lst (rowsV L))) (t8:τ[L+8]?=some (.lst [])) (tr:∀ j,j<7→τ[L+j]?=some (.lst [])) {n:Nat} (hn:370≤n):
  Go (ex cfg n osc L orderF ρ τ) fun fl' ρ' τ'=>fl'=.next∧OEnv L w q oul later ρ'∧∃ C z,BL w (szP q) MM 0 F C∧z≤40∧τ'[L+7]?=some (.lst (rowsV L))∧τ'[L+8]?=some (.lst (List.replicate z (.int 0)))∧∃ own,RowSt L w q 0 own 6 C τ':=by
 refine e11 (ge_ex (n:=n) (m:=370) (by omega)) fun n qz1=>?_;obtain rfl:=qz1;have turn:=fun (m z:Nat) (R:Nat→List (List Nat)) (own:Nat→Nat) (ρ:Rho) (τ:St) hm E ho I=>order_turn (L:=L) (τ:=τ) (ρ:=ρ) (m:=m) (z:=z) (oul:=oul) (later:=later) (R:=R) (own:=own) hq hw hO hm E ho I (n:=n+369) (by omega);generalize hM:orderB=LB at turn;refine nb fun kk=>?_;obtain ⟨g1,g2,g3,g4,g5,g6⟩:=id E;refine kk ?_;rw [show orderF=.For _ _ orderB [] _ from rfl,hM];refine go_ForR (σ1:=τ) (m:=6) (f:=fun k:Nat=>V.int ((5-k:Nat):Int)) (fun k ρ2 τ2=>OEnv L w q oul later ρ2∧∃ R own z,Run w (szP q) MM (ouB oul) (6-k) 6 (fun _=>[]) R∧OInv L w q (6-k) R own z τ2) (by rfl') ?_ ?_ ?_ ?_
 ·rw [←range5];exact itr_range3 (by rfl') (evs_cons (by rfl') (by left) (evs_cons (by rfl') neg_one (evs_cons (by rfl') neg_one evs_nil))) (by decide) (by decide) (by rfl')
 ·refine ⟨E,fun _=>[],fun _=>6,0,.nil,t0,t7,t8,Nat.zero_le _,fun j hj=>⟨tr j (hj.elim Nat.lt_succ_of_lt fun e=>e▸(by decide)),fun b hb=>(nomatch hb),fun b hb=>(nomatch hb),.nil,List.nodup_nil,fun x hx=>(nomatch hx)⟩⟩
 ·intro k ρ2 τ2 hk h;refine e02 h fun E2 h=>?_;refine e32 h fun R own z hR I=>?_;refine ⟨_,by left,?_⟩;rw [show 6-k=5-k+1 from Nat.succ_sub (Nat.le_of_lt_succ hk)] at hR I;refine (turn (5-k) z R own ((Str.ofString "one",.val (.int ((5-k:Nat):Int)))::ρ2) τ2 (Nat.lt_succ_of_le (Nat.sub_le 5 k)) E2.cons (by left) I).mono ?_;rintro fl ρ3 τ3 ⟨rfl,E3,R',own',z',hs,I'⟩;refine ⟨E3,R',own',z',?_,?_⟩
  ·rw [show 6-(k+1)=5-k from Nat.succ_sub_succ 5 k];exact hR.snoc hs
  ·rw [show 6-(k+1)=5-k from Nat.succ_sub_succ 5 k];exact I'
 ·intro ρ2 τ2 h;refine e02 h fun E2 h=>?_;refine e32 h fun R own z hR I=>?_;refine nb fun kk=>?_;obtain ⟨i1,i2,i3,i4,i5⟩:=I;refine kk ?_;have hb:=(run_BL (F:=F) hS (.inr (by rw [hF];exact Nat.le_refl _)) (by rw [hF];exact hR) rfl fun _ _ _=>rfl).1;exact ⟨rfl,E2,R 6,z,hb,Qy i4 (by decide),i2,i3,own,i5 6 (.inr rfl)⟩
theorem dyn_nth {j:Nat} {xs:List V} (h:τ[j]?=some (.lst xs)) (k:Nat):(It.dyn j).nth τ k=some xs[k]?:=mpd (f:=(·[k]?)) (seqRef h) rfl
theorem piece_comp {z:Nat} {C:List (List Nat)} (hr:Row C) (hn:C.flatten.Nodup) (h6:∀ x∈C.flatten,x<6) (I:PInv L z w q C 0 ([],τ)) {n:Nat} {s:Scope} {p1 p2 p3 p4 p5 p6 p7 p8 p9:Pos} {c1:Nat} {iter:Expr}
  (hk:(canSet s ("each":Str)&&canSet s ("piece":Str)&&ownKind (kindIn s ("each":Str))&&ownKind (kindIn s ("piece":Str)))=true) (h1:(tgtOk iter (.Name ("each":Str) p1)&&notGen iter)=true) (h2:ρ.lookup ("each":Str)=none) (h3:ρ.lookup ("piece":Str)=none)
  (hm:methOk (.Subscript (.Name ("each":Str) p3) (.Constant (.int 1) c1 p4) p5) p6 p7 []=true) (ht:(tgtOk (.Call (.Attribute (.Subscript (.Name ("each":Str) p3) (.Constant (.int 1) c1 p4) p5) ("pop_from":Str) p6) [] [] p7) (.Name ("piece":Str) p8)&&notGen (.Call (.Attribute (.Subscript (.Name ("each":Str) p3) (.Constant (.int 1) c1 p4) p5) ("pop_from":Str) p6) [] [] p7))=true):
  ∃ τ',comp cfg (n+62) s L (.Name ("piece":Str) p2) ⟨.Name ("each":Str) p1,iter,[],0⟩ [⟨.Name ("piece":Str) p8,.Call (.Attribute (.Subscript (.Name ("each":Str) p3) (.Constant (.int 1) c1 p4) p5) ("pop_from":Str) p6) [] [] p7,[],0⟩] (.dyn (L+6)) ρ [] τ (C.flatten.map (pcV q)) τ'∧PInv L z w q C C.length (C.flatten.map (pcV q),τ'):=by
 rw [Bool.and_eq_true,Bool.and_eq_true,Bool.and_eq_true] at hk;refine nb fun kk=>?_;obtain ⟨⟨⟨k1,k2⟩,k3⟩,k4⟩:=hk;have hC:=nodup_six hn h6;obtain ⟨a1,a2,e1,e2⟩:=comp_st (C:=cfg) (n:=n+60) (lo:=L) (s:=s) (elt:=.Name ("piece":Str) p2) (it:=.dyn (L+6)) (acc:=[]) (σ:=τ) (ρ:=ρ) (t:=.Name ("each":Str) p1) (iter:=iter)
  (gs:=[⟨.Name ("piece":Str) p8,.Call (.Attribute (.Subscript (.Name ("each":Str) p3) (.Constant (.int 1) c1 p4) p5) ("pop_from":Str) p6) [] [] p7,[],0⟩]) (C.map (bV w (L+14))) (PInv L z w q C) I (fun k a hI=>dyn_nth hI.2.1 k) (compOk_one h1 h2) (fun k v a hv hI=>by
  rw [Qb,Option.map_eq_some_iff] at hv;refine e12 hv fun b hb qz2=>?_;obtain rfl:=qz2;refine ⟨(("each":Str),.val (bV w (L+14) b))::ρ,_,bind_name k1,?_,piece_step hr hn h6 hb hI⟩;have hbC:=List.mem_of_getElem? hb;have hb6:=h6 _ (head_in hr hbC);have hk:=(Qz hb).1;have hx:=hI.2.2.2.2.1 b (by rw [List.drop_eq_getElem_cons hk,(Qz hb).2];exact Qk ..);obtain ⟨a1,τ1⟩:=a;have hx:τ1[L+14-b.headD 0]?=some (.acc 0 (b.map (pcV q))):=hx;have hlen:a1.length+b.length≤4096:=by
   have h1:a1=(C.take k).flatten.map (pcV q):=hI.1;have h2:(C.take k).flatten.length≤C.flatten.length:=by
    have:C.flatten.length=((C.take k)++(C.drop k)).flatten.length:=by rw [List.take_append_drop]
    rw [this,List.flatten_append,Qu];exact Nat.le_add_right _ _
   rw [h1,Qx];exact Qy (Nat.add_le_add (Qy h2 hC) (hr b hbC).2) (by decide)
  have hpop:=pop_from_call (k:=0) (vs:=[]) (.inr ⟨rfl,rfl⟩) hx (by omega:L≤L+14-b.headD 0) (by rw [Qx];exact Qy (hr b hbC).2 (by decide)) (n:=n+57) (by omega);rw [List.drop_zero,List.take_zero] at hpop;have hi:getItemV τ1 (bV w (L+14) b) (.int 1)=some (.ref (L+14-b.headD 0)):=rfl;have lk:List.lookup ("each":Str) ((("each":Str),Mine.Internal.B.val (bV w (L+14) b))::ρ)=some (.val (bV w (L+14) b)):=look_hit ..;refine ⟨.fix (b.map (pcV q)),τ1.set (L+14-b.headD 0) (.acc 0 []),itr_fro (by rfl') (ev_MFn (n:=n+57+2) (j:=L+14-b.headD 0) (vs:=[]) (σ1:=τ1) (σ2:=τ1) (by rfl') hm (ev_Item (by rfl') (ev_Name k3 lk) (ev_CInt 1 _ _) hi) (tag_acc hx) evs_nil (pop_from_call (k:=0) (vs:=[]) (.inr ⟨rfl,rfl⟩) hx (by omega) (by rw [Qx];exact Qy (hr b hbC).2 (by decide)) (by omega))),?_⟩;have hin:=comp_last (C:=cfg) (n:=n+60) (lo:=L) (σ:=τ1.set (L+14-b.headD 0) (.acc 0 [])) (ρ:=(("each":Str),.val (bV w (L+14) b))::ρ) (acc:=a1) (s:=s) (ifs:=[]) (elt:=.Name ("piece":Str) p2) (pcV q) b (fun _=>true) (pcV q) (compOk_one ht (look_miss (by rfl') h3)) hlen fun y hy=>⟨_,bind_name k2,tsts_nil,fun _=>ev_Name k4 (look_hit ..)⟩
  rw [List.filter_eq_self.mpr fun _ _=>rfl] at hin;exact hin)
 refine kk ?_;rw [Qx] at e2;have e3:=e2.1;rw [List.take_length] at e3;change a1=_ at e3;subst e3;exact ⟨a2,e1,e2⟩
theorem frz_two {A B:List V} {n:Nat} (hA:mapO (frz σ lo (n+2)) A=some A) (hB:mapO (frz σ lo (n+2)) B=some B):frz σ lo (n+4) (.tup [.fro A,.fro B])=some (.tup [.fro A,.fro B]):=by
 have e1:frz σ lo (n+3) (.fro A)=some (.fro A):=mpd hA rfl;have e2:frz σ lo (n+3) (.fro B)=some (.fro B):=mpd hB rfl;exact mpd (f:=V.tup) (bnd e1 (mpd (bnd e2 (mpd rfl rfl)) rfl)) rfl
theorem frz_reps (z n:Nat):mapO (frz σ lo (n+2)) (List.replicate z (V.int 0))=some (List.replicate z (V.int 0)):=by
 have:=mapO_map (frz σ lo (n+2)) (fun _:Nat=>V.int 0) (fun _=>V.int 0) (List.replicate z 0) fun _ _=>rfl;rwa [List.map_replicate] at this
theorem zeros_comp {C:List (List Nat)} {z:Nat} {a:List V} (hq:∀ k,q k≤3) (hC:C.length≤6) (I:PInv L z w q C C.length (a,τ)) {n:Nat} {s:Scope} {p1 p3 p4 p5 p6 p7:Pos} {c1:Nat} {iter:Expr}
  (hk:(canSet s ("each":Str)&&ownKind (kindIn s ("each":Str)))=true) (hl:kindIn s ("len":Str)=some .globalImplicit) (h1:(tgtOk iter (.Name ("each":Str) p1)&&notGen iter)=true) (h2:ρ.lookup ("each":Str)=none):
  comp cfg (n+32) s L (.Call (.Name ("len":Str) p6) [.Subscript (.Name ("each":Str) p3) (.Constant (.int 1) c1 p4) p5] [] p7) ⟨.Name ("each":Str) p1,iter,[],0⟩ [] (.dyn (L+6)) ρ [] τ (List.replicate C.length (.int 0)) τ:=by
 rw [Bool.and_eq_true] at hk;refine nb fun kk=>?_;obtain ⟨k1,k2⟩:=hk;obtain ⟨a1,a2,e1,e2⟩:=comp_st (C:=cfg) (n:=n+30) (lo:=L) (s:=s) (elt:=.Call (.Name ("len":Str) p6) [.Subscript (.Name ("each":Str) p3) (.Constant (.int 1) c1 p4) p5] [] p7) (gs:=[]) (it:=.dyn (L+6)) (acc:=[]) (σ:=τ) (ρ:=ρ) (t:=.Name ("each":Str) p1) (iter:=iter) (C.map (bV w (L+14))) (fun k a=>a=(List.replicate k (.int 0),τ)) rfl (fun k a hI=>by subst hI;exact dyn_nth I.2.1 k) (compOk_one h1 h2) (fun k v a hv hI=>by
  subst hI;rw [Qb,Option.map_eq_some_iff] at hv;refine e12 hv fun b hb qz2=>?_;obtain rfl:=qz2;have hkC:k<C.length:=(Qz hb).1;have hx:τ[L+14-b.headD 0]?=some (.acc 0 (([]:List Nat).map (pcV q))):=I.2.2.2.2.2 b (by rw [List.take_length];exact List.mem_of_getElem? hb);have hi:getItemV τ (bV w (L+14) b) (.int 1)=some (.ref (L+14-b.headD 0)):=rfl;have lk:List.lookup ("each":Str) ((("each":Str),Mine.Internal.B.val (bV w (L+14) b))::ρ)=some (.val (bV w (L+14) b)):=look_hit ..;refine ⟨_,(List.replicate (k+1) (.int 0),τ),bind_name k1,⟨.int (0:Nat),?_,by rw [List.length_replicate];omega,List.replicate_succ'⟩,rfl⟩;exact ev_Blt (evs_cons (by rfl') (ev_Item (by rfl') (ev_Name k2 lk) (ev_CInt 1 _ _) hi) evs_nil) hl (by rfl') (by rfl') (len_blk hx (by decide) hq))
 refine kk ?_;rw [Qx] at e2;injection e2 with e3 e4
 rw [e3,e4] at e1;exact e1
theorem add_refF {j:Nat} {a b:List V} (hj:τ[j]?=some (.lst a)) (h:a.length+b.length≤4096):binV τ .Add (.ref j) (.fro b)=some (.fro (a++b)):=
 (show binL τ .Add (.ref j) (.fro b)=_ from bnd (seqRef hj) (bnd (a:=b) rfl (bnt (and2 rfl (dec h)) rfl)))
theorem order_call {oul:List Int} {later:Bool} {F:Fo} (hq:∀ k,q k≤3) (hw:∀ k,w k≤7) (hO:OulOk oul) (hF:F.sz=6) (hS:Spec (ouB oul) 0 6 F) {n:Nat} (hn:410≤n):
  ∃ C z,BL w (szP q) MM 0 F C∧z≤60∧call cfg n lo ("_law_order":Str) (fnD pw "_law_order") [.bool later,.fro (oul.map V.int),jobsV w,wordsV q] [] σ (.tup [.fro (C.flatten.map (pcV q)),.fro (List.replicate z (.int 0))]) σ:=by
 refine e11 (ge_ex (n:=n) (m:=410) (by omega)) fun n qz1=>?_;obtain rfl:=qz1;obtain key:Go (exs cfg (n+409) osc σ.length (fnD pw "_law_order").body [(("words":Str),.val (wordsV q)),(("weights":Str),.val (jobsV w)),(("outer":Str),.val (.fro (oul.map V.int))),(("later":Str),.val (.bool later))] σ) fun fl' ρ' σ'=>∃ C z,BL w (szP q) MM 0 F C∧z≤60∧fl'=.ret (.tup [.fro (C.flatten.map (pcV q)),.fro (List.replicate z (.int 0))]):=by
  rw [show (fnD pw "_law_order").body=[nthS (fnD pw "_law_order").body 0,orderF,pieceA,orderR] from rfl];refine order_start (by omega) rfl fun τ t0 t7 t8 tr=>?_;refine go_cons ((order_loop (L:=σ.length) (τ:=τ) (later:=later) hq hw hO hF hS ⟨by left,by left,by left,by left,by left,by left⟩ t0 t7 t8 tr (by omega)).mono ?_);rintro fl ρ2 τ2 ⟨rfl,h⟩;refine e02 h fun hE h=>?_;refine e06 hE fun g1 g2 g3 g4 g5 g6=>?_;refine e24 h fun C z hB hz s7 h=>?_;refine e02 h fun s8 h=>?_;refine e15 h fun own r1 r2 r3 r4 h=>?_;refine e02 h fun r5 r6=>?_;have h6:∀ x∈C.flatten,x<6:=fun x hx=>(r6 x hx).2.2;have hC:=Qy (row_len r3) (nodup_six r5 h6);have I0:PInv σ.length z w q C 0 ([],τ2):=⟨rfl,r1,s7,s8,r2,fun b hb=>(nomatch hb)⟩
  have j1:getItemV τ2 (.ref (σ.length+7)) (.int 6)=some (.ref (σ.length+6)):=item_nat s7 (by decide) rfl;have hA:∃ τ3,ev cfg (n+405) osc σ.length (exprS pieceA) ρ2 τ2 (.fro (C.flatten.map (pcV q))) τ3∧PInv σ.length z w q C C.length (C.flatten.map (pcV q),τ3):=by
   rw [show exprS pieceA=.ListComp (.Name _ _) [⟨_,_,[],0⟩,⟨_,.Call (.Attribute (.Subscript _ _ _) _ _) [] [] _,[],0⟩] _ _ from rfl];refine Exists.elim (piece_comp (p9:=⟨0,0,0,0⟩) (L:=σ.length) (τ:=τ2) (n:=n+342) r3 r5 h6 I0 (by rfl') (by rfl') ?_ ?_ (by rfl') (by rfl')) fun τ3 hh=>⟨τ3,ev_CompF (by rfl') (by decide +kernel) (itr_ref (j:=σ.length+6) (σ1:=τ2) (by rfl') (by left) (by rw [seqRef r1];rfl)) hh.1,hh.2⟩
   ·left
   ·left
  obtain ⟨τ3,a1,a2⟩:=hA;rw [show pieceA=.Assign [.Name _ _] (exprS pieceA) _ from rfl];refine go_cons (go_Assign (by rfl') (by rfl') (v:=.fro (C.flatten.map (pcV q))) (σ1:=τ3) a1 (by left) ?_);have j2:getItemV τ3 (.ref (σ.length+7)) (.int 6)=some (.ref (σ.length+6)):=item_nat a2.2.2.1 (by decide) rfl;have j3:=add_refF (b:=List.replicate C.length (V.int 0)) a2.2.2.2.1 (by rw [List.length_replicate,List.length_replicate];omega);rw [List.replicate_append_replicate] at j3;rw [show orderR=.Return (some (.Tuple [.Name _ _,.BinOp (.Name _ _) .Add (.ListComp (.Call (.Name _ _) [.Subscript (.Name _ _) (.Constant (.int 1) _ _) _] [] _) [⟨.Name _ _,_,[],0⟩] _ _) _] _ _)) _ from rfl];refine go_cons (go_Return (v:=.tup [.fro (C.flatten.map (pcV q)),.fro (List.replicate (z+C.length) (.int 0))]) (σ1:=τ3) (ev_Tuple (evs_cons (σ1:=τ3) (by rfl') (by left) (evs_cons (σ1:=τ3) (by rfl') (ev_BinOp (σ1:=τ3) (by left) (ev_CompF (vs:=List.replicate C.length (.int 0)) (it:=.dyn (σ.length+6)) (σ1:=τ3) (by rfl') (by decide +kernel) (itr_ref (by rfl') (by left) (by rw [seqRef a2.2.1];rfl)) (zeros_comp (n:=n+367) hq hC a2 (by rfl') (by rfl') (by rfl') ?_)) j3) evs_nil))) ?_)
  ·left
  ·exact ⟨C,z+C.length,hB,by omega,rfl⟩
 refine nb fun kk=>?_;obtain ⟨fl,ρ1,σ1,h1,C,z,hB,hz,rfl⟩:=key;refine kk ?_;refine ⟨C,z,hB,hz,?_⟩;exact call_frz (ρ0:=[(("later":Str),.val (.bool later)),(("outer":Str),.val (.fro (oul.map V.int))),(("weights":Str),.val (jobsV w)),(("words":Str),.val (wordsV q))]) (by rfl') (by rfl') (by rfl') h1 (frz_two (n:=12) (frz_pcs q _ _) (frz_reps _ _))
noncomputable abbrev wsc:Scope:=(fnD pw "law").scope
noncomputable def nV (k:Nat):V:=.int (k:Nat)
theorem zip_us {us:List Un} (hl:us.length=12):((us.zipIdx.filter fun y=>y.1.1).map fun y=>nV y.2)=(stB (us.map (·.1))).map nV:=by
 have e:us.zipIdx=(List.range 12).map fun k=>(us.getD k (false,0),k):=by
  refine List.ext_getElem (by rw [List.length_zipIdx,Qx,List.length_range,hl]) fun i h1 h2=>?_;rw [List.length_zipIdx] at h1;rw [List.getElem_zipIdx,List.getElem_map,List.getElem_range,Qd,Qv h1,Nat.zero_add];rfl
 have e2:∀ k,(us.map (·.1)).getD k false=(us.getD k (false,0)).1:=fun k=>by
  rw [Qd,Qd,Qb];cases us[k]?<;>rfl
 rw [e,List.filter_map,List.map_map];unfold stB;rw [show (fun k=>(us.map (·.1)).getD k false)=fun k=>(us.getD k (false,0)).1 from funext e2]
 rfl
theorem cut_map (us:List Un) (i m:Nat):(cutU us i m).map (·.1)=cutB (us.map (·.1)) i m:=by
 unfold cutU cutB;rw [List.map_drop,List.map_take]
theorem dy_cut {us:List Un} {i m:Nat}:dy 0 (cutU us i m)=some 0↔dyN 0 (cutB (us.map (·.1)) i m)=some 0:=by
 have:=dy_N (cutU us i m) 0;rw [cut_map] at this;rw [show dy 0 (cutU us i m)=_ from this];cases dyN 0 (cutB (us.map (·.1)) i m) with
 |none=>exact ⟨fun h=>(nomatch h),fun h=>(nomatch h)⟩
 |some k=>
  show some (k:Int)=some 0↔_;rw [Option.some_inj,Option.some_inj];omega
theorem fact_us (A B:Nat):(unitsAt A B 12).1.length=12∧FactB ((unitsAt A B 12).1.map (·.1)):=by
 have hl:=units_len A B 12;refine ⟨hl,fact_of (by rw [Qx,hl]) ?_⟩;have h:=units_bal A B;rw [show dy 0 (unitsAt A B 12).1=_ from dy_N _ 0] at h;cases e:dyN 0 ((unitsAt A B 12).1.map (·.1)) with
 |none=>rw [e] at h;cases h
 |some k=>
  rw [e] at h;have h:some (k:Int)=some 0:=h;rw [Option.some_inj] at h;rw [show k=0 by omega]
theorem starts_ev {us:List Un} (hl:us.length=12) {n:Nat} (hg:ρ.lookup ("units":Str)=some (.val (rowV us))):ev cfg (n+60) wsc 0 (exprS (nthS (fnD pw "law").body 2)) ρ τ (.fro ((stB (us.map (·.1))).map nV)) τ:=by
 rw [←zip_us hl,show exprS (nthS (fnD pw "law").body 2)=.ListComp _ [_] _ _ from rfl];apply ev_CompF (it:=.fix (us.zipIdx.map fun y=>V.tup [.int (y.2:Nat),uV y.1])) (σ1:=τ)
 ·rfl'
 ·decide +kernel
 ·have hz:((us.map uV).zipIdx.map fun (v,k)=>V.tup [.int (k:Nat),v])=(us.zipIdx.map fun y=>V.tup [.int (y.2:Nat),uV y.1]):=by
   rw [List.zipIdx_map,List.map_map];rfl
  rw [←hz];exact itr_enum (by rfl') (by show ev cfg _ _ _ _ _ _ (rowV us) _;walk_at "*")
 ·rw [←List.nil_append (List.map _ (List.filter _ _))];refine comp_last (fun y:Un×Nat=>V.tup [.int (y.2:Nat),uV y.1]) us.zipIdx (fun y=>y.1.1) (fun y=>nV y.2) (compOk_two (by rfl') ?_ ?_) ?_ fun y hy=>?_
  ·left
  ·left
  ·rw [List.length_zipIdx,hl];decide
  ·obtain ⟨u,k⟩:=y;have hi:=item_unit (σ:=τ) u;have hc:=cmp_open (σ:=τ) u.1;refine ⟨_,by left,tsts_one ?_,fun _=>?_⟩
   ·left
   ·unfold nV;walk_at "*"
theorem ends_ev {us:List Un} (hl:us.length=12) (hF:FactB (us.map (·.1))) {n:Nat} (hg:ρ.lookup ("units":Str)=some (.val (rowV us))) (hs:ρ.lookup ("starts":Str)=some (.val (.fro ((stB (us.map (·.1))).map nV)))):ev cfg (n+260) wsc 0 (exprS (nthS (fnD pw "law").body 3)) ρ τ (.fro ((enB (us.map (·.1))).map nV)) τ:=by
 obtain ⟨⟨f1,_⟩,f2,_⟩:=hF;unfold enB;have hc:=fun (i:Nat) (hi:i∈stB (us.map (·.1))) (n:Nat) (hn:200≤n)=>close_call (lo:=0) (σ:=τ) (us:=us) (i:=i) (m:=clB (us.map (·.1)) i) (by omega) (dy_cut.mpr (f2 i hi).2.1) (fun k hk=>fun e=>(f2 i hi).2.2 k hk (dy_cut.mp e)) (by rw [hl];exact (f2 i hi).1) (n:=n) hn;generalize clB (us.map (·.1))=cl at *
 generalize stB (us.map (·.1))=st at *
 rw [List.map_map,show exprS (nthS (fnD pw "law").body 3)=.ListComp _ [_] _ _ from rfl];apply ev_CompF (it:=.fix (st.map nV)) (σ1:=τ)
 ·rfl'
 ·decide +kernel
 ·exact itr_fro (by rfl') (by left)
 ·refine comp_all nV st (fun i=>nV (i+2*cl i+1)) (compOk_one (by rfl') ?_) (by rw [f1];decide) fun i hi=>?_
  ·left
  ·have hc:=hc i hi;refine ⟨_,by left,?_⟩;refine ev_FnC (vs:=[rowV us,.int i]) (σ1:=τ) ?_ (by left) (by rfl') (by rfl') (by rfl') (hc _ (by omega));unfold nV;left
theorem ol_list {l:List Int} (h:l.length=6):l.map V.int=(List.range 6).map fun k=>V.int (l.getD k 0):=by
 refine List.ext_getElem (by rw [Qx,Qx,List.length_range,h]) fun i h1 h2=>?_;rw [Qx] at h1;rw [List.getElem_map,List.getElem_map,List.getElem_range,Qd,Qv h1];rfl
theorem outer_ev {b:List Bool} (hF:FactB b) {n:Nat} (he:ρ.lookup ("ends":Str)=some (.val (.fro ((enB b).map nV)))):ev cfg (n+60) wsc 0 (exprS (nthS (fnD pw "law").body 4)) ρ τ (.fro ((olB b).map V.int)) τ:=by
 obtain ⟨⟨f1,f2,f3⟩,_,f4,_⟩:=hF;have hel:(enB b).length=6:=by unfold enB;rw [Qx];exact f1
 have hi:∀ k:Nat,k<6→getItemV τ (.fro ((enB b).map nV)) (.int k)=some (.int ((enB b).getD k 0:Nat)):=fun k hk=>item_froNat (by omega) (by rw [Qb,Qv (hel▸hk),Qd,Qv (hel▸hk)];rfl);rw [ol_list f3,show exprS (nthS (fnD pw "law").body 4)=.ListComp (.Call _ [.BinOp _ _ (.ListComp _ [_] _ _) _] [] _) [_] _ _ from rfl];have f4:∀ k:Nat,k<6→(olB b).getD k 0∈candB b k∧∀ a∈candB b k,a≤(olB b).getD k 0:=fun k hk=>(f4 k hk).1;unfold candB at f4;generalize enB b=en at *
 generalize olB b=ol at *
 apply ev_CompF (it:=.fix ((List.range 6).map fun k:Nat=>V.int k)) (σ1:=τ)
 ·rfl'
 ·decide +kernel
 ·exact itr_range1 (m:=6) (by rfl') (by left) (range_nat (m:=6) (by decide))
 ·refine comp_all (fun k:Nat=>V.int k) (List.range 6) (fun k=>V.int (ol.getD k 0)) (compOk_one (by rfl') ?_) (by decide) fun k hk=>?_
  ·left
  have hk:=List.mem_range.mp hk;obtain ⟨m1,m2⟩:=f4 k hk;refine ⟨_,by left,?_⟩;refine ev_Max (ns:=-1::((List.range k).filter fun two=>decide (en.getD k 0<en.getD two 0)).map fun k:Nat=>(k:Int)) (v:=.fro ((-1::((List.range k).filter fun two=>decide (en.getD k 0<en.getD two 0)).map fun k:Nat=>(k:Int)).map V.int)) (by rfl') (evs_cons (σ1:=τ) (by rfl') ?_ evs_nil) rfl m1 m2;have hlen:(((List.range k).filter fun two=>decide (en.getD k 0<en.getD two 0)).map fun k:Nat=>V.int k).length≤6:=by
   rw [Qx];have:=List.length_filter_le (fun two=>decide (en.getD k 0<en.getD two 0)) (List.range k);rw [List.length_range] at this;omega
  have hadd:=add_fro (σ:=τ) (a:=[V.int (-1)]) (b:=((List.range k).filter fun two=>decide (en.getD k 0<en.getD two 0)).map fun k:Nat=>V.int k) (by rw [List.length_singleton];omega);rw [show [V.int (-1)]++(((List.range k).filter fun two=>decide (en.getD k 0<en.getD two 0)).map fun k:Nat=>V.int k)=(-1::((List.range k).filter fun two=>decide (en.getD k 0<en.getD two 0)).map fun k:Nat=>(k:Int)).map V.int from by rw [List.map_cons,List.map_map];rfl] at hadd;refine ev_BinOp (σ1:=τ) (ev_ListF (by decide +kernel) (evs_cons (by rfl') neg_one evs_nil)) ?_ hadd;apply ev_CompF (it:=.fix ((List.range k).map fun k:Nat=>V.int k)) (σ1:=τ)
  ·rfl'
  ·decide +kernel
  ·exact itr_range1 (m:=(k:Nat)) (by rfl') (by left) (range_nat (m:=k) (by omega))
  ·rw [←List.nil_append (List.map _ (List.filter _ _))];refine comp_last (fun k:Nat=>V.int k) (List.range k) (fun two=>decide (en.getD k 0<en.getD two 0)) (fun k:Nat=>V.int k) (compOk_one (by rfl') ?_) ?_ fun y hy=>?_
   ·left
   ·rw [List.length_range];show 0+k≤4096;omega
   ·have hy:=List.mem_range.mp hy;have i1:=hi k hk;have i2:=hi y (by omega);refine ⟨_,by left,tsts_one ?_,fun _=>by left⟩;rw [show decide (en.getD k 0<en.getD y 0)=decide (((en.getD k 0:Nat):Int)<((en.getD y 0:Nat):Int)) from decide_eq_decide.mpr Int.ofNat_lt.symm];left
theorem nd_ints:∀ l:List Int,ndL (l.map fun k=>PyData.int k)=true
 |[]=>rfl
 |k::l=>and2 rfl (nd_ints l)
theorem ne_ints (τ:St) (l:List Int):cmpV τ .NotEq (.fro (l.map V.int)) (.fro (l.map V.int))=some false:=by
 have h:toDσ τ depthD (.fro (l.map V.int))=some (.list (l.map fun k=>PyData.int k)):=toD_fro (n:=31) (mapO_map _ _ _ _ fun k _=>toD_int);exact cmpNe_of h h (nd_ints l)
noncomputable def chkT:Expr:=exprS (nthS (fnD pw "law").body 5)
theorem drawn_tst {us:List Un} (hl:us.length=12) (hF:FactB (us.map (·.1))) {n:Nat} (g1:ρ.lookup ("units":Str)=some (.val (rowV us))) (g2:ρ.lookup ("ends":Str)=some (.val (.fro ((enB (us.map (·.1))).map nV)))) (g3:ρ.lookup ("outer":Str)=some (.val (.fro ((olB (us.map (·.1))).map V.int)))):
  tst cfg (n+260) wsc 0 chkT ρ τ false τ:=by
 have hnest:=fun (n:Nat) (hn:60≤n)=>nest_call (lo:=0) (σ:=τ) hl hF.2.2.2.1 hn;obtain ⟨⟨f1,f2,f3⟩,f4,_⟩:=hF;have h0:(0:Nat)∈stB (us.map (·.1)):=List.mem_of_mem_head? f2;obtain ⟨d1,d2,_⟩:=f4 0 h0;have he0:(enB (us.map (·.1)))[0]?=some (0+2*clB (us.map (·.1)) 0+1):=by
  unfold enB;rw [Qb,←List.head?_eq_getElem?,f2];rfl
 have hcut:dy 0 (us.take (2*clB (us.map (·.1)) 0+1+1))=some 0:=by
  have:=dy_cut.mpr d2;unfold cutU at this;rw [List.drop_zero,Nat.zero_add] at this;exact this
 rw [Nat.zero_add] at he0 d1;generalize 2*clB (us.map (·.1)) 0+1=e0 at he0 hcut d1;have hi:getItemV τ (.fro ((enB (us.map (·.1))).map nV)) (.int 0)=some (.int (e0:Nat)):=item_froNat (k:=0) (by decide) (by rw [Qb,he0];rfl);have hs:sliceV τ (rowV us) .none (.int ((e0:Int)+1))=some (rowV (us.take (e0+1))):=slice_row (a:=0) (b:=e0+1) (by omega) (.inr ⟨rfl,rfl⟩) (.inl rfl);have hrl:(us.take (e0+1)).length≤100:=by rw [List.length_take];omega
 have hne:=ne_ints τ (olB (us.map (·.1)));generalize enB (us.map (·.1))=en at *
 generalize olB (us.map (·.1))=ol at *
 generalize us.take (e0+1)=r at hcut hs hrl;have hj:=row_join (lo:=0) (σ:=τ) r hrl;have hrx:=rowTx_len r;unfold chkT;rw [show exprS (nthS (fnD pw "law").body 5)=.BoolOp _ [.Compare _ _ _ _,.Compare (.ListComp (.Compare (.Call _ [.BinOp _ _ _ _] [] _) _ _ _) [_] _ _) _ _ _] _ from rfl];refine tst_Or2 ?_ ?_
 ·refine tst_Cmp (a:=.fro (ol.map V.int)) (σ1:=τ) (by left) (chain_one (σ1:=τ) (b:=.fro (ol.map V.int)) ?_ hne);exact ev_FnC (vs:=[rowV us]) (σ1:=τ) (by left) (by left) (by rfl') (by rfl') (by rfl') (hnest _ (by omega))
 ·have hne2:cmpV τ .NotEq (.fro [.bool true,.bool true]) (.fro [.bool true,.bool true])=some false:=cmpNe_of (x:=.list [.bool true,.bool true]) rfl rfl rfl;refine tst_Cmp (a:=.fro [.bool true,.bool true]) (σ1:=τ) ?_ (chain_one (σ1:=τ) (b:=.fro [.bool true,.bool true]) (by left) hne2);apply ev_CompF (vs:=[.bool true,.bool true]) (it:=.fix (tails.map fun e=>V.str (mkS (txt e)))) (σ1:=τ)
  ·rfl'
  ·decide +kernel
  ·refine itr_fro (by rfl') ?_;rw [←tails_is];walk_at "*"
  ·refine comp_all (fun e=>V.str (mkS (txt e))) tails (fun _=>V.bool true) (compOk_one (by rfl') ?_) (by decide) fun e he=>?_
   ·left
   obtain ⟨e1,e2,e3⟩:=tail_ok he;refine ⟨_,by left,?_⟩;have hck:=fun (m:Nat) (hm:120≤m)=>check_row (lo:=0) (σ:=τ) r hrl e1 e2 hm;rw [hcut,Option.bind_some,e3] at hck;have hadd:=bin_addS τ (rowTx r) (txt e) (by omega);refine ev_Cmp (a:=.bool false) (σ1:=τ) (ev_FnC (vs:=[.str (mkS (rowTx r++txt e))]) (σ1:=τ) (evs_cons (by rfl') (ev_BinOp (σ1:=τ) ?_ (by left) hadd) evs_nil) (by left) (by rfl') (by rfl') (by rfl') (hck _ (by omega))) (chain_one (by left) rfl);left
theorem mul_str {l:List Nat} {n:Nat} (hl:l.length≤64) (hn:n≤64):binV σ .Mult (.str (mkS l)) (.int n)=some (.str (mkS (rep n l))):=by
 have h1:decide ((mkS l).length≤64)=true:=decide_eq_true (by rw [mkS_len];exact hl);have h2:decide ((-64:Int)≤(n:Int))=true:=decide_eq_true (by omega);have h3:decide ((n:Int)≤64)=true:=decide_eq_true (by omega);have h4:V.str (⟨(rep ((n:Int)).toNat (mkS l).cps.toList).toArray⟩:Str)=.str (mkS (rep n l)):=by rw [Int.toNat_natCast,mkS_cps];rfl
 show (if (isMult .Mult&&(decide ((mkS l).length≤64)&&decide ((-64:Int)≤(n:Int))&&decide ((n:Int)≤64)))=true then some (V.str (⟨(rep ((n:Int)).toNat (mkS l).cps.toList).toArray⟩:Str)) else none)=_;rw [h1,h2,h3,h4];rfl
theorem rep_one (c:Nat):∀ n,rep n [c]=List.replicate n c
 |0=>rfl
 |n+1=>by
  show (List.replicate (n+1) [c]).flatten=_;rw [List.replicate_succ,List.flatten_cons,List.replicate_succ];exact congrArg (c::·) (rep_one c n)
theorem abc_get (σ:St):∀ k<6,getItemV σ (.str ("abcdef":Str)) (.int (k:Nat))=some (.str (mkS [97+k])):=by
 intro k hk
 match k,hk with
 |0,_=>kernel_rfl
 |1,_=>kernel_rfl
 |2,_=>kernel_rfl
 |3,_=>kernel_rfl
 |4,_=>kernel_rfl
 |5,_=>kernel_rfl
theorem pow38s:∀ k<6,(3^k≠0∧smallI ((3^k:Nat):Int)=true)∧(8^k≠0∧smallI ((8^k:Nat):Int)=true):=by decide
def qOf (D:Nat) (k:Nat):Nat:=1+D/3^k % 3
def wOf (C:Nat) (k:Nat):Nat:=C/8^k % 8
theorem qOf_le (D k:Nat):qOf D k≤3:=Nat.add_le_add_left (Nat.le_of_lt_succ (Nat.mod_lt _ (by decide))) 1
theorem wOf_le (C k:Nat):wOf C k≤7:=Nat.le_of_lt_succ (Nat.mod_lt _ (by decide))
noncomputable def cellsV (A B C D:Nat):V:=.fro [.int A,.int B,.int C,.int D]
theorem words_ev {A B C D:Nat} {n:Nat} (g:ρ.lookup ("cells":Str)=some (.val (cellsV A B C D))):ev cfg (n+60) wsc 0 (exprS (nthS (fnD pw "law").body 6)) ρ τ (wordsV (qOf D)) τ:=by
 rw [show exprS (nthS (fnD pw "law").body 6)=.ListComp _ [_] _ _ from rfl];unfold wordsV;apply ev_CompF (it:=.fix ((List.range 6).map fun k:Nat=>V.int k)) (σ1:=τ)
 ·rfl'
 ·decide +kernel
 ·exact itr_range1 (m:=6) (by rfl') (by left) (range_nat (m:=6) (by decide))
 ·refine comp_all (fun k:Nat=>V.int k) (List.range 6) (fun k=>V.str (mkS (wdT (qOf D) k))) (compOk_one (by rfl') ?_) (by decide) fun k hk=>?_
  ·left
  have hk:=List.mem_range.mp hk;obtain ⟨⟨p1,p2⟩,_⟩:=pow38s k hk;have i0:getItemV τ (cellsV A B C D) (.int 3)=some (.int (D:Nat)):=rfl;have i1:=abc_get τ k hk;have i2:binV τ .Pow (.int 3) (.int k)=some (.int ((3^k:Nat):Int)):=bin_powN τ 3 k (by omega) (by decide);have i3:=bin_divN τ D (3^k) p1 p2;have i4:binV τ .Mod (.int ((D/3^k:Nat):Int)) (.int 3)=some (.int ((D/3^k % 3:Nat):Int)):=bin_modN τ (D/3^k) 3 (by decide);have i5:binV τ .Add (.int 1) (.int ((D/3^k % 3:Nat):Int))=some (.int ((qOf D k:Nat):Int)):=bin_add τ _ _|>.trans (by unfold qOf;rw [Int.natCast_add];rfl)
  have i6:=mul_str (σ:=τ) (l:=[97+k]) (n:=qOf D k) (by rw [List.length_singleton];decide) (by have:=qOf_le D k;omega);rw [rep_one] at i6;refine ⟨_,by left,?_⟩;unfold wdT;left
theorem weights_ev {A B C D:Nat} {n:Nat} (g:ρ.lookup ("cells":Str)=some (.val (cellsV A B C D))):
  ev cfg (n+70) wsc 0 (exprS (nthS (fnD pw "law").body 7)) ρ τ (.tup [jobsV (wOf C),.int ((D/729 % 4:Nat):Int),.int ((1+D/2916 % 6:Nat):Int)]) τ:=by
 rw [show exprS (nthS (fnD pw "law").body 7)=.Tuple [.ListComp _ [_] _ _,_,_] _ _ from rfl];have i0:getItemV τ (cellsV A B C D) (.int 2)=some (.int (C:Nat)):=rfl;have i1:getItemV τ (cellsV A B C D) (.int 3)=some (.int (D:Nat)):=rfl;have j1:binV τ .FloorDiv (.int D) (.int 729)=some (.int ((D/729:Nat):Int)):=bin_divN τ D 729 (by decide) (by decide);have j2:binV τ .Mod (.int ((D/729:Nat):Int)) (.int 4)=some (.int ((D/729 % 4:Nat):Int)):=bin_modN τ (D/729) 4 (by decide);have j3:binV τ .FloorDiv (.int D) (.int 2916)=some (.int ((D/2916:Nat):Int)):=bin_divN τ D 2916 (by decide) (by decide);have j4:binV τ .Mod (.int ((D/2916:Nat):Int)) (.int 6)=some (.int ((D/2916 % 6:Nat):Int)):=bin_modN τ (D/2916) 6 (by decide);have j5:binV τ .Add (.int 1) (.int ((D/2916 % 6:Nat):Int))=some (.int ((1+D/2916 % 6:Nat):Int)):=bin_add τ _ _|>.trans (by rw [Int.natCast_add];rfl)
 refine ev_Tuple (evs_cons (σ1:=τ) (by rfl') ?_ (evs_cons (σ1:=τ) (by rfl') (by left) (evs_cons (σ1:=τ) (by rfl') (by left) evs_nil)));unfold jobsV;apply ev_CompF (it:=.fix ((List.range 6).map fun k:Nat=>V.int k)) (σ1:=τ)
 ·rfl'
 ·decide +kernel
 ·exact itr_range1 (m:=6) (by rfl') (by left) (range_nat (m:=6) (by decide))
 ·refine comp_all (fun k:Nat=>V.int k) (List.range 6) (fun k=>V.int (wOf C k:Nat)) (compOk_one (by rfl') ?_) (by decide) fun k hk=>?_
  ·left
  have hk:=List.mem_range.mp hk;obtain ⟨_,p1,p2⟩:=pow38s k hk;have i2:binV τ .Pow (.int 8) (.int k)=some (.int ((8^k:Nat):Int)):=bin_powN τ 8 k (by omega) (by decide);have i3:=bin_divN τ C (8^k) p1 p2;have i4:binV τ .Mod (.int ((C/8^k:Nat):Int)) (.int 8)=some (.int ((wOf C k:Nat):Int)):=bin_modN τ (C/8^k) 8 (by decide);exact ⟨_,by left,by left⟩
theorem least_ev {oul:List Int} {room:Nat} (hw:∀ k,w k≤7) (hq:∀ k,q k≤3) (hr:room≤100) (hO:OulOk oul) {n:Nat} (g1:ρ.lookup ("outer":Str)=some (.val (.fro (oul.map V.int)))) (g2:ρ.lookup ("weights":Str)=some (.val (jobsV w))) (g3:ρ.lookup ("words":Str)=some (.val (wordsV q))) (g4:ρ.lookup ("room":Str)=some (.val (.int room))):
  ev cfg (n+170) wsc 0 (exprS (nthS (fnD pw "law").body 8)) ρ τ (.int ((dp w (szP q) (ouB oul) room 64).getD 63 0)) τ:=by
 rw [show exprS (nthS (fnD pw "law").body 8)=.Call (.Name _ _) [_,_,.ListComp _ [_] _ _,_] [] _ from rfl];have hcall:=fun (n:Nat) (hn:100≤n)=>least_call (lo:=0) (σ:=τ) (w:=w) (p:=szP q) (oul:=oul) (room:=room) (fun k=>Qy (hw k) (by decide)) (fun k=>Qy (Nat.add_le_add_left (hq k) 1) (by decide)) hr hO hn;refine ev_FnC (vs:=[.fro (oul.map V.int),jobsV w,jobsV (szP q),.int room]) (σ1:=τ) ?_ (by left) (by rfl') (by rfl') (by rfl') (hcall _ (by omega));refine evs_cons (σ1:=τ) (by rfl') (by left) (evs_cons (σ1:=τ) (by rfl') (by left) (evs_cons (σ1:=τ) (by rfl') ?_ (evs_cons (σ1:=τ) (by rfl') (by left) evs_nil)));unfold jobsV;apply ev_CompF (it:=.fix ((List.range 6).map fun k:Nat=>V.str (mkS (wdT q k)))) (σ1:=τ)
 ·rfl'
 ·decide +kernel
 ·refine itr_fro (by rfl') ?_;show ev _ _ _ _ _ _ _ (wordsV q) _;left
 ·refine comp_all (fun k:Nat=>V.str (mkS (wdT q k))) (List.range 6) (fun k=>V.int (szP q k:Nat)) (compOk_one (by rfl') ?_) (by decide) fun k hk=>?_
  ·left
  have i1:=len_str (σ:=τ) (l:=wdT q k) (by unfold wdT;rw [List.length_replicate];have:=hq k;omega);rw [show (wdT q k).length=q k from List.length_replicate] at i1;have i2:binV τ .Add (.int 1) (.int (q k:Nat))=some (.int ((szP q k:Nat):Int)):=bin_add τ _ _|>.trans (by unfold szP;rw [Int.natCast_add];rfl)
  exact ⟨_,by left,by left⟩
noncomputable def turnF:Stmt:=nthS (fnD pw "law").body 9
noncomputable def turnB:List Stmt:=bodyS turnF
noncomputable def lineF:Stmt:=nthS turnB 2
noncomputable def lineB:List Stmt:=bodyS lineF
@[reducible] noncomputable def WEnv (j:Nat) (w q:Nat→Nat) (ρ:Rho):Prop:=ρ.lookup ("line":Str)=some (.val (.ref j))∧ρ.lookup ("order":Str)=some (.val (.ref (j+1)))∧ρ.lookup ("words":Str)=some (.val (wordsV q))∧ρ.lookup ("weights":Str)=some (.val (jobsV w))
theorem len_line {j room:Nat} {b:List Nat} (h:σ[j]?=some (.acc (room:Nat) (b.map (pcV q)))) (hl:b.length≤6) (hr:room≤100) (hq:∀ k,q k≤3):builtinV σ ("len":Str) [.ref j]=some (.int ((room+sm (szP q) b:Nat):Int)):=by
 exact len_acc h (accLen_pc b) (by omega) (Qy (sz24 hq hl) (by decide)) (by rw [Qx];omega)
theorem wdT_ne {x y:Nat} (h1:1≤q x) (h2:x≠y):wdT q y≠wdT q x:=fun e=>by
 unfold wdT at e;have hx:(97+x)∈List.replicate (q y) (97+y):=by rw [e];exact List.mem_replicate.mpr ⟨Nat.ne_of_gt h1,rfl⟩
 exact h2 (Nat.add_left_cancel (List.mem_replicate.mp hx).2)
theorem words_at {x:Nat} (h:x<6):(((List.range 6).map fun k=>mkS (wdT q k)):List Str)[x]?=some (mkS (wdT q x)):=by
 rw [Qb,List.getElem?_range h];rfl
theorem line_go {j room:Nat} {π:List Nat} (hlo:0≤j) (hq:∀ k,q k≤3) (hq1:∀ k,1≤q k) (hw:∀ k,w k≤7) (hr:room≤100) (hπ:π.length≤6) (h6:∀ x∈π,x<6) (E:WEnv j w q ρ) (hp:ρ.lookup ("pieces":Str)=some (.val (.fro (π.map (pcV q))))) (hc:ρ.lookup ("cost":Str)=some (.val (.int 0)))
  (t1:τ[j]?=some (.acc (room:Nat) [])) (t2:τ[j+1]?=some (.lst [])) {n:Nat} (hn:60≤n):
  Go (ex cfg n wsc 0 lineF ρ τ) fun fl' ρ' τ'=>fl'=.next∧Same ["blank","word","cost"] ρ ρ'∧ρ'.lookup ("cost":Str)=some (.val (.int (costR w (szP q) room π:Nat)))∧τ'=(τ.set j (.acc (room:Nat) (π.map (pcV q)))).set (j+1) (.lst (π.map nV)):=by
 refine e11 (ge_ex (n:=n) (m:=60) (by omega)) fun n qz1=>?_;obtain rfl:=qz1;rw [show lineF=.For _ _ [_,_,_] [] _ from rfl];refine go_ForM (σ1:=τ) (f:=pcV q) (l:=π) (fun k ρ2 τ2=>Same ["blank","word","cost"] ρ ρ2∧ρ2.lookup ("cost":Str)=some (.val (.int (costR w (szP q) room (π.take k):Nat)))∧τ2=(τ.set j (.acc (room:Nat) ((π.take k).map (pcV q)))).set (j+1) (.lst ((π.take k).map nV))) (by rfl') ?_ ?_ ?_ ?_
 ·exact itr_fro (by rfl') (by left)
 ·refine ⟨fun _ _=>rfl,hc,?_⟩;rw [List.take_zero,show ([]:List Nat).map (pcV q)=[] from rfl,show ([]:List Nat).map nV=[] from rfl,set_same t1,set_same t2]
 ·rintro k x ρ2 τ2 hx ⟨hs,hcost,rfl⟩;have hx6:=h6 x (List.mem_of_getElem? hx);have htk:π.take (k+1)=π.take k++[x]:=by rw [List.take_add_one,hx];rfl
  have hkl:(π.take k).length≤6:=Qy (take_le ..) hπ;have hkl1:(π.take k++[x]).length≤6:=htk▸Qy (take_le ..) hπ;have g1:=(hs "line" (by rfl')).trans E.1;have g2:=(hs "order" (by rfl')).trans E.2.1;have g3:=(hs "words" (by rfl')).trans E.2.2.1;have g4:=(hs "weights" (by rfl')).trans E.2.2.2;generalize π.take k=P at *
  have s1:((τ.set j (.acc (room:Nat) (P.map (pcV q)))).set (j+1) (.lst (P.map nV)))[j]?=some (.acc (room:Nat) (P.map (pcV q))):=get_ne (by omega) (get_set t1);have ha:=tag_acc s1;have hp:=meth_push (lo:=0) (a:=mkS [32]) (b:=mkS (wdT q x)) s1 (Nat.zero_le _) (by rw [Qx];omega);rw [show ((τ.set j (.acc (room:Nat) (P.map (pcV q)))).set (j+1) (.lst (P.map nV))).set j (.acc (room:Nat) (P.map (pcV q)++[V.tup [.str (mkS [32]),.str (mkS (wdT q x))]]))=(τ.set j (.acc (room:Nat) ((P++[x]).map (pcV q)))).set (j+1) (.lst (P.map nV)) from by rw [List.set_comm _ _ (by omega),List.set_set,List.map_append];rfl] at hp;have s2:((τ.set j (.acc (room:Nat) ((P++[x]).map (pcV q)))).set (j+1) (.lst (P.map nV)))[j+1]?=some (.lst (P.map nV)):=get_set (get_ne (by omega) t2);have ha2:=tag_lst s2;have hap:=meth_append (lo:=0) (v:=nV x) s2 (Nat.zero_le _) (by rw [Qx];omega);rw [List.set_set,show P.map nV++[nV x]=(P++[x]).map nV from by rw [List.map_append];rfl] at hap;have s3:((τ.set j (.acc (room:Nat) ((P++[x]).map (pcV q)))).set (j+1) (.lst ((P++[x]).map nV)))[j+1]?=some (.lst (P.map nV++[nV x])):=by
   rw [show P.map nV++[nV x]=(P++[x]).map nV from by rw [List.map_append];rfl];exact get_set (get_ne (by omega) t2)
  have hlast:=item_last s3;have s4:((τ.set j (.acc (room:Nat) ((P++[x]).map (pcV q)))).set (j+1) (.lst ((P++[x]).map nV)))[j]?=some (.acc (room:Nat) ((P++[x]).map (pcV q))):=get_ne (by omega) (get_set t1);have hlen:=len_line s4 hkl1 hr hq;have hwx:=item_job (σ:=(τ.set j (.acc (room:Nat) ((P++[x]).map (pcV q)))).set (j+1) (.lst ((P++[x]).map nV))) (f:=w) hx6;have hmul:=bin_mulN ((τ.set j (.acc (room:Nat) ((P++[x]).map (pcV q)))).set (j+1) (.lst ((P++[x]).map nV))) (w x) (room+sm (szP q) (P++[x])) (Nat.lt_of_le_of_lt (hw x) (by decide)) (Nat.lt_of_le_of_lt (Nat.add_le_add hr (sz24 hq hkl1)) (by decide));rw [show pcV q x=.tup [.str (mkS [32]),.str (mkS (wdT q x))] from rfl];refine ⟨_,by left,?_⟩;walk_at "call stmt";refine go_cons (go_Expr (v:=.none) (σ1:=(τ.set j (.acc (room:Nat) ((P++[x]).map (pcV q)))).set (j+1) (.lst ((P++[x]).map nV))) (by rfl') (ev_Meth (a:=.ref (j+1)) (σ1:=(τ.set j (.acc (room:Nat) ((P++[x]).map (pcV q)))).set (j+1) (.lst (P.map nV))) (σ2:=(τ.set j (.acc (room:Nat) ((P++[x]).map (pcV q)))).set (j+1) (.lst (P.map nV))) (vs:=[nV x]) (by rfl') (by left) ha2 (evs_cons (by rfl') ?_ evs_nil) ha2 hap) ?_)
  ·refine ev_IndexS (ns:=(List.range 6).map fun k=>mkS (wdT q k)) (x:=mkS (wdT q x)) (a:=wordsV q) (by rfl') (by left) (by left) rfl ?_ (by rw [Qx,List.length_range];decide) (words_at hx6) fun i hi e=>?_
   ·show some _=_;rw [List.map_map];rfl
   ·rw [words_at (by omega)] at e;exact wdT_ne (hq1 x) (by omega) (mkS_inj (Qw e))
  ·refine go_cons (go_Aug (k:=(costR w (szP q) room P:Nat)) (m:=(w x*(room+sm (szP q) (P++[x])):Nat)) (v:=.int (costR w (szP q) room (P++[x]):Nat)) (σ1:=(τ.set j (.acc (room:Nat) ((P++[x]).map (pcV q)))).set (j+1) (.lst ((P++[x]).map nV))) (by rfl') (by left) ?_ ?_ ?_)
   ·refine ev_BinOp (σ1:=_) (ev_Item (b:=nV x) (σ1:=_) (by rfl') (by left) (ev_Item (b:=.int (-1)) (by rfl') (by left) neg_one hlast) hwx) (by left) hmul
   ·rw [costR_snoc,Int.natCast_add,sm_app,show sm (szP q) [x]=szP q x from rfl,←Nat.add_assoc];rfl
   ·refine go_nil ?_;show Same ["blank","word","cost"] ρ _∧_∧_;rw [htk];refine ⟨fun z hz=>?_,by left,rfl⟩;obtain ⟨z1,hz'⟩:=not_in hz;obtain ⟨z2,hz'⟩:=not_in hz';obtain ⟨z3,_⟩:=not_in hz';exact look_miss z3 (look_miss z2 (look_miss z1 (hs z hz)))
 ·rintro ρ2 τ2 ⟨hs,hcost,rfl⟩;rw [List.take_length] at *
  exact ⟨rfl,hs,hcost,rfl⟩
noncomputable def lnT (q:Nat→Nat) (π:List Nat):List Nat:=π.flatMap fun k=>32::wdT q k
theorem lnT_len:∀ π:List Nat,(lnT q π).length=sm (szP q) π
 |[]=>rfl
 |k::π=>by
  rw [show lnT q (k::π)=(32::wdT q k)++lnT q π from rfl,Qu,lnT_len π,sm_cons,List.length_cons];unfold wdT szP;rw [List.length_replicate];omega
theorem pair_pc (k:Nat):pairTxt (pcV q k)=mkS (32::wdT q k):=by
 show mkS [32]++mkS (wdT q k)=_;rw [mkS_app];rfl
theorem comp_it {α:Type} (g:α→V) (ys:List α) (f:α→V) {C:Cfg} {n:Nat} {t iter elt:Expr} {s:Scope} {it:It} (hn:∀ k,it.nth σ k=some (ys.map g)[k]?) (hc:compOk t iter ρ) (hl:ys.length≤4096)
  (h:∀ y∈ys,∃ ρ1,bindT s t (g y) ρ=some ρ1∧ev C (n+1) s lo elt ρ1 σ (f y) σ):comp C (n+2) s lo elt ⟨t,iter,[],0⟩ [] it ρ [] σ (ys.map f) σ:=by
 refine nb fun kk=>?_;obtain ⟨hc1,hc2⟩:=hc;refine kk ?_;refine ⟨⟨rfl,and_l hc1,and_r hc1⟩,fun X H A hA=>?_⟩;refine nb fun kk=>?_;obtain ⟨fl,a',h1,rfl,rfl⟩:=Lp_run (nth:=compNth it) (body:=compBody C (n+1) s lo elt ⟨t,iter,[],0⟩ [] ρ) (xs:=ys.map g) (fun k a=>a=((ys.take k).map f,σ)) (fun fl a=>fl=.next∧a=(ys.map f,σ)) (fun k a hI=>by subst hI;exact hn k) (fun k v a hv hI=>by
  subst hI;rw [Qb,Option.map_eq_some_iff] at hv;refine e12 (hv) fun y hy qz2=>?_;obtain rfl:=qz2;refine e12 (h y (List.mem_of_getElem? hy)) fun ρ1 e1 e2=>?_;have htk:ys.take (k+1)=ys.take k++[y]:=by rw [List.take_add_one,hy];rfl
  have hk:k<ys.length:=(Qz hy).1;exact (xi2 .next (((ys.take (k+1)).map f,σ)) ⟨⟨rfl,ρ1,true,σ,e1,tsts_nil,fun z=>(nomatch z),fun _=>⟨f y,e2,by rw [Qx,List.length_take];exact Nat.lt_of_le_of_lt (Nat.min_le_left _ _) (Qh hk hl),by rw [htk,List.map_append];rfl⟩⟩,.inl ⟨.inl rfl,rfl⟩⟩)) (fun a hI=>⟨rfl,by rw [hI,Qx,List.take_length]⟩) (ys.map g).length 0 ([],σ) rfl rfl
 refine kk ?_;exact comp_go X H rfl (List.all_eq_true.mpr fun x hx=>by rw [hc2 x hx];rfl) h1 hA.d
theorem line_join (π:List Nat) (hl:sm (szP q) π≤4096):methV lo σ (.str (Str.ofString "")) ("join":Str) [.fro (π.map fun k=>V.str (mkS (32::wdT q k)))]=some (.str (mkS (lnT q π)),σ):=by
 have:=meth_joinF (lo:=lo) (σ:=σ) (ls:=π.map fun k=>32::wdT q k) (by rw [←List.flatMap_def];exact (lnT_len π).symm▸hl);rw [List.map_map,←List.flatMap_def] at this;exact this
theorem line_str (π:List Nat):PySem.Str.join ⟨#[]⟩ ((π.map (pcV q)).map pairTxt)=mkS (lnT q π):=by
 have h:=join_mkS (π.map fun k=>32::wdT q k);rw [List.map_map,show ((fun l=>V.str (mkS l))∘fun k:Nat=>32::wdT q k)=(V.str∘fun k=>pairTxt (pcV q k)) from funext fun k=>congrArg V.str (pair_pc k).symm,←List.map_map,joinStr_is,←List.flatMap_def] at h;rw [List.map_map];exact Qw h
theorem ev_StrL {sc:Scope} {n:Nat} {e:Expr} {p u:Pos} {π:List Nat} {j room:Nat} (hk:kindIn sc ("str":Str)=some .globalImplicit) (h:evs cfg n sc lo [e] ρ σ [.ref j] σ) (hσ:σ[j]?=some (.acc (room:Nat) (π.map (pcV q)))) (hl:sm (szP q) π≤4000) (hl2:π.length≤100):
  ev cfg (n+1) sc lo (.Call (.Name ("str":Str) u) [e] [] p) ρ σ (.str (mkS (lnT q π))) σ:=by
 rw [←line_str];refine ev_StrA hk h hσ (fun x hx=>?_) ?_ (by rw [Qx];omega)
 ·obtain ⟨k,_,rfl⟩:=List.mem_map.mp hx;exact ⟨_,_,rfl⟩
 ·rw [line_str,mkS_len,lnT_len];omega
theorem blank_word {k:Nat} (hq:∀ k,q k≤3):binV τ .Add (.str (" ":Str)) (.str (mkS (wdT q k)))=some (.str (mkS (32::wdT q k))):=by
 rw [blank32];exact bin_addS τ [32] (wdT q k) (by unfold wdT;rw [List.length_replicate,List.length_singleton];have:=hq k;omega)
theorem item_word {k:Nat} (h:k<6):getItemV τ (wordsV q) (.int k)=some (.str (mkS (wdT q k))):=item_froNat (by omega) (by rw [Qb,List.getElem?_range h];rfl)
theorem sm_24 (hq:∀ k,q k≤3) {π:List Nat} (hl:π.length≤6):sm (szP q) π≤24:=sz24 hq hl
theorem order_tst {j room:Nat} {π:List Nat} (hq:∀ k,q k≤3) (hp:π.Perm (List.range 6)) (g1:ρ.lookup ("line":Str)=some (.val (.ref j))) (g2:ρ.lookup ("order":Str)=some (.val (.ref (j+1)))) (g3:ρ.lookup ("words":Str)=some (.val (wordsV q)))
  (t1:τ[j]?=some (.acc (room:Nat) (π.map (pcV q)))) (t2:τ[j+1]?=some (.lst (π.map nV))) {n:Nat}:tst cfg (n+120) wsc 0 (exprS (nthS turnB 3)) ρ τ false τ:=by
 have hl:π.length=6:=hp.length_eq.trans List.length_range;have hs24:=sm_24 hq (Nat.le_of_eq hl);have h6:∀ x∈π,x<6:=fun x hx=>List.mem_range.mp (hp.subset hx);rw [show exprS (nthS turnB 3)=.BoolOp _ [.Compare (.Call _ [_] [] _) _ _ _,.Compare (.Call _ [_] [] _) _ [.Call _ [.ListComp _ [_] _ _] [] _] _] _ from rfl];refine tst_Or2 ?_ ?_
 ·refine tst_Cmp (a:=.fro (([0,1,2,3,4,5]:List Int).map V.int)) (σ1:=τ) ?_ (chain_one (σ1:=τ) (b:=.fro (([0,1,2,3,4,5]:List Int).map V.int)) ?_ (ne_ints τ _))
  ·refine ev_SortI (ns:=π.map fun k:Nat=>(k:Int)) (v:=.ref (j+1)) (by rfl') (evs_cons (by rfl') (by left) evs_nil) ?_ (by rw [Qx];omega) ?_ ?_
   ·rw [seqRef t2,List.map_map];rfl
   ·exact ((hp.map fun k:Nat=>(k:Int)).symm.trans (.refl _):((List.range 6).map fun k:Nat=>(k:Int)).Perm _)
   ·decide
  ·show ev _ _ _ _ _ _ _ (.fro [.int 0,.int 1,.int 2,.int 3,.int 4,.int 5]) _;left
 ·have hj:=line_join (lo:=0) (σ:=τ) (q:=q) π (by omega);refine tst_Cmp (a:=.str (mkS (lnT q π))) (σ1:=τ) (ev_StrL (by rfl') (evs_cons (by rfl') (by left) evs_nil) t1 (by omega) (by omega)) (chain_one (σ1:=τ) (b:=.str (mkS (lnT q π))) ?_ ((cmp_neS τ _ _).trans (by rw [beq_self_eq_true];rfl)));refine ev_Meth (a:=.str (Str.ofString "")) (σ1:=τ) (σ2:=τ) (vs:=[.fro (π.map fun k=>V.str (mkS (32::wdT q k)))]) (by rfl') (by left) rfl (evs_cons (by rfl') ?_ evs_nil) rfl hj;apply ev_CompF (it:=.dyn (j+1)) (σ1:=τ)
  ·rfl'
  ·decide +kernel
  ·exact itr_ref (by rfl') (by left) (by rw [seqRef t2];rfl)
  ·refine comp_it nV π (fun k=>V.str (mkS (32::wdT q k))) (dyn_nth t2) (compOk_one (by rfl') ?_) (by omega) fun k hk=>?_
   ·left
   ·have i1:=item_word (τ:=τ) (q:=q) (h6 k hk);have i2:=blank_word (τ:=τ) (k:=k) hq;refine ⟨_,by left,?_⟩;unfold nV;left
theorem slice_ref {j:Nat} {xs:List V} {u v:V} {a b:Nat} (h:τ[j]?=some (.lst xs)) (hl:xs.length≤4096) (hu:u=.int a∨(u=.none∧a=0)) (hw:v=.int b∨(v=.none∧b=xs.length)):sliceV τ (.ref j) u v=some (.fro ((xs.take b).drop a)):=by
 have e:=slice_fro (σ:=τ) hl hu hw;exact (show (seqOf τ (.ref j)).bind _=_ from bnd (seqRef h) e)
theorem comp_itN {C:Cfg} {n:Nat} {α:Type} (g:α→V) (ys:List α) {t iter elt:Expr} {ifs:List Expr} {s:Scope} {gs:List Comprehension} {it:It} {acc:List V} (hn:∀ k,it.nth σ k=some (ys.map g)[k]?) (hc:compOk t iter ρ)
  (h:∀ (k:Nat) (y:α),ys[k]?=some y→∃ ρ1,bindT s t (g y) ρ=some ρ1∧tsts C n s lo .And ifs ρ1 σ false σ):comp C (n+1) s lo elt ⟨t,iter,ifs,0⟩ gs it ρ acc σ acc σ:=by
 obtain ⟨hc1,hc2⟩:=hc;obtain ⟨fl,a',h1,rfl,rfl⟩:=Lp_run (nth:=compNth it) (body:=compBody C n s lo elt ⟨t,iter,ifs,0⟩ gs ρ) (xs:=ys.map g) (fun k a=>a=(acc,σ)) (fun fl a=>fl=.next∧a=(acc,σ)) (fun k a hI=>by subst hI;exact hn k) (fun k v a hv hI=>by
  subst hI;rw [Qb,Option.map_eq_some_iff] at hv;refine e12 (hv) fun y hy qz2=>?_;obtain rfl:=qz2;obtain ⟨ρ1,e1,e2⟩:=h k y hy;exact ⟨.next,(acc,σ),⟨rfl,ρ1,false,σ,e1,e2,fun _=>rfl,fun z=>(nomatch z)⟩,.inl ⟨.inl rfl,rfl⟩⟩) (fun a hI=>⟨rfl,hI⟩) (ys.map g).length 0 (acc,σ) (Nat.add_zero _) rfl
 exact ⟨⟨rfl,and_l hc1,and_r hc1⟩,fun X H A hA=>comp_go X H rfl (List.all_eq_true.mpr fun x hx=>by rw [hc2 x hx];rfl) h1 hA.d⟩
theorem inner_tst {j:Nat} {π:List Nat} {oul:List Int} {c:Int} (hO:OulOk oul) (hp:π.Perm (List.range 6)) (hb:Beh (ouB oul) 6 π) (g2:ρ.lookup ("order":Str)=some (.val (.ref (j+1)))) (g3:ρ.lookup ("outer":Str)=some (.val (.fro (oul.map V.int)))) (g4:ρ.lookup ("cost":Str)=some (.val (.int c))) (g5:ρ.lookup ("least":Str)=some (.val (.int c)))
  (t2:τ[j+1]?=some (.lst (π.map nV))) {n:Nat}:tst cfg (n+120) wsc 0 (exprS (nthS turnB 4)) ρ τ false τ:=by
 have hl:π.length=6:=hp.length_eq.trans List.length_range;have h6:∀ x∈π,x<6:=fun x hx=>List.mem_range.mp (hp.subset hx);have hn:π.Nodup:=hp.symm.nodup List.nodup_range;have hq:seqOf τ (.ref (j+1))=some ((π.map fun k:Nat=>(k:Int)).map V.int):=by rw [seqRef t2,List.map_map];rfl
 rw [show exprS (nthS turnB 4)=.BoolOp _ [.Compare (.ListComp _ [_] _ _) _ _ _,_] _ from rfl];refine tst_Or2 ?_ ?_
 ·have hne:cmpV τ .NotEq (.fro []) (.fro [])=some false:=cmpNe_of (x:=.list []) rfl rfl rfl;refine tst_Cmp (a:=.fro []) (σ1:=τ) ?_ (chain_one (σ1:=τ) (b:=.fro []) (by left) hne);apply ev_CompF (it:=.dyn (j+1)) (σ1:=τ)
  ·rfl'
  ·decide +kernel
  ·exact itr_ref (by rfl') (by left) (by rw [seqRef t2];rfl)
  ·refine comp_itN nV π (dyn_nth t2) (compOk_one (by rfl') ?_) fun k x hx=>?_
   ·left
   ·have hx6:=h6 x (List.mem_of_getElem? hx);have hk:=(Qz hx).1;have i1:getItemV τ (.fro (oul.map V.int)) (.int x)=some (.int (oul.getD x 0)):=item_froNat (by omega) (by rw [Qb,Qv (hO.1▸hx6),Qd,Qv (hO.1▸hx6)];rfl);have i2:=slice_ref (u:=.int k) (v:=.none) (a:=k) (b:=(π.map nV).length) t2 (by rw [Qx];omega) (.inl rfl) (.inr ⟨rfl,rfl⟩);rw [List.take_length,←List.map_drop] at i2;have hsp:π=π.take k++x::π.drop (k+1):=by
     have:=List.take_append_drop k π;rw [List.drop_eq_getElem_cons hk,(Qz hx).2] at this;exact this.symm
    have hd:π.drop k=x::π.drop (k+1):=by rw [List.drop_eq_getElem_cons hk,(Qz hx).2]
    have hout:((π.drop k).map fun k:Nat=>(k:Int)).any (·==oul.getD x 0)=false:=by
     rw [List.any_eq_false];intro y hy e;obtain ⟨m,hm,rfl⟩:=List.mem_map.mp hy;rw [beq_iff_eq] at e;have hou:ouB oul x=m:=by unfold ouB;rw [←e,if_neg (by omega)];omega
     rcases hb (π.take k) x (π.drop (k+1)) hsp with h|h
     ·have:=h6 m (List.mem_of_mem_drop hm);omega
     ·rw [hou] at h;have hn2:=hn;rw [←List.take_append_drop k π] at hn2;exact (List.nodup_append.mp hn2).2.2 m h m hm rfl
    refine ⟨_,by left,tsts_one ?_⟩;refine tst_Cmp (a:=.int (oul.getD x 0)) (σ1:=τ) (by unfold nV;walk_at "*") ?_;rw [←hout];refine chain_inI (b:=.fro ((π.drop k).map nV)) (ns:=(π.drop k).map fun k:Nat=>(k:Int)) ?_ (by rw [List.map_map];rfl);refine ev_Slice (a:=.ref (j+1)) (u:=.int k) (w:=.none) (σ1:=τ) (σ2:=τ) (by left) (evo_some ?_) evo_none i2;refine ev_IndexI (ns:=π.map fun k:Nat=>(k:Int)) (x:=(x:Nat)) (a:=.ref (j+1)) (σ1:=τ) (by rfl') (by left) (by unfold nV;walk_at "*") (tag_lst t2) hq (by rw [Qx];omega) (by rw [Qb,hx];rfl) fun i hi e=>?_;rw [Qb,Option.map_eq_some_iff] at e;obtain ⟨y,hy,e⟩:=e;have e:y=x:=by omega
    subst e;have:=(List.getElem?_inj (Qz hy).1 hn).mp (hy.trans hx.symm);omega
 ·have:=cmp_neI τ c c;rw [decide_eq_true rfl] at this;refine tst_Cmp (a:=.int c) (σ1:=τ) (by left) (chain_one (σ1:=τ) (b:=.int c) (by left) this)
theorem tail_ev {j room s:Nat} {π:List Nat} (hq:∀ k,q k≤3) (hp:π.Perm (List.range 6)) (hs:s≤6) (g1:ρ.lookup ("line":Str)=some (.val (.ref j))) (g2:ρ.lookup ("order":Str)=some (.val (.ref (j+1)))) (g3:ρ.lookup ("words":Str)=some (.val (wordsV q))) (g4:ρ.lookup ("spot":Str)=some (.val (.int s)))
  (t1:τ[j]?=some (.acc (room:Nat) (π.map (pcV q)))) (t2:τ[j+1]?=some (.lst (π.map nV))) {n:Nat}:ev cfg (n+120) wsc 0 (exprS (nthS turnB 5)) ρ τ (.tup [.fro ((π.drop s).map (pcV q)),.str (mkS (lnT q (π.take s)))]) (τ.set j (.acc (room:Nat) ((π.take s).map (pcV q)))):=by
 have hl:π.length=6:=hp.length_eq.trans List.length_range;have hlt:(π.take s).length≤6:=by rw [List.length_take];omega
 have hs24:=sm_24 hq hlt;have h6:∀ x∈π.take s,x<6:=fun x hx=>List.mem_range.mp (hp.subset (List.mem_of_mem_take hx));rw [show exprS (nthS turnB 5)=.Tuple [.Call (.Attribute _ _ _) [_] [] _,.Call _ [.ListComp _ [_] _ _] [] _] _ _ from rfl];have hm:∀ m,20≤m→mcall cfg m 0 ("pop_from":Str) (methD pw "pop_from") [.ref j,.int s] τ (.fro ((π.drop s).map (pcV q))) (τ.set j (.acc (room:Nat) ((π.take s).map (pcV q)))):=fun m hm=>by
  have:=pop_from_call (lo:=0) (k:=s) (vs:=[.int s]) (.inl rfl) t1 (Nat.zero_le _) (by rw [Qx];omega) hm;rw [←List.map_drop,←List.map_take] at this;exact this
 have s2:(τ.set j (.acc (room:Nat) ((π.take s).map (pcV q))))[j+1]?=some (.lst (π.map nV)):=get_ne (by omega) t2;have ha:=tag_acc t1;refine ev_Tuple (evs_cons (σ1:=τ.set j (.acc (room:Nat) ((π.take s).map (pcV q)))) (by rfl') (ev_MFn (j:=j) (vs:=[.int s]) (σ1:=τ) (σ2:=τ) (by rfl') (by rfl') (by left) ha (by left) (hm _ (by omega))) (evs_cons (by rfl') ?_ evs_nil));generalize τ.set j (.acc (room:Nat) ((π.take s).map (pcV q)))=τ1 at s2;have hj:=line_join (lo:=0) (σ:=τ1) (q:=q) (π.take s) (by omega);have i2:=slice_ref (u:=.none) (v:=.int s) (a:=0) (b:=s) s2 (by rw [Qx];omega) (.inr ⟨rfl,rfl⟩) (.inl rfl);rw [List.drop_zero,←List.map_take] at i2;refine ev_Meth (a:=.str (Str.ofString "")) (σ1:=τ1) (σ2:=τ1) (vs:=[.fro ((π.take s).map fun k=>V.str (mkS (32::wdT q k)))]) (by rfl') (by left) rfl (evs_cons (by rfl') ?_ evs_nil) rfl hj;apply ev_CompF (it:=.fix ((π.take s).map nV)) (σ1:=τ1)
 ·rfl'
 ·decide +kernel
 ·exact itr_fro (by rfl') (ev_Slice (a:=.ref (j+1)) (u:=.none) (w:=.int s) (σ1:=τ1) (σ2:=τ1) (by left) evo_none (evo_some (by left)) i2)
 ·refine comp_all nV (π.take s) (fun k=>V.str (mkS (32::wdT q k))) (compOk_one (by rfl') ?_) (by omega) fun k hk=>?_
  ·left
  ·have i1:=item_word (τ:=τ1) (q:=q) (h6 k hk);have i2:=blank_word (τ:=τ1) (k:=k) hq;refine ⟨_,by left,?_⟩;unfold nV;left
theorem last_tst {j room:Nat} {π:List Nat} (hq:∀ k,q k≤3) (hr:room≤100) (hl:π.length≤6) (g1:ρ.lookup ("line":Str)=some (.val (.ref j))) (g2:ρ.lookup ("front":Str)=some (.val (.str (mkS (lnT q π))))) (g3:ρ.lookup ("room":Str)=some (.val (.int room)))
  (t1:τ[j]?=some (.acc (room:Nat) (π.map (pcV q)))) {n:Nat}:tst cfg (n+120) wsc 0 (exprS (nthS turnB 7)) ρ τ false τ:=by
 have hs24:=sm_24 hq hl;rw [show exprS (nthS turnB 7)=.BoolOp _ [.Compare (.Call _ [_] [] _) _ _ _,_] _ from rfl];have i1:=len_line t1 hl hr hq;have i2:=len_str (σ:=τ) (l:=lnT q π) (by rw [lnT_len];omega);rw [lnT_len] at i2;have i3:binV τ .Add (.int room) (.int (sm (szP q) π:Nat))=some (.int ((room+sm (szP q) π:Nat):Int)):=bin_add τ _ _;have hne:=cmp_neI τ ((room+sm (szP q) π:Nat):Int) ((room+sm (szP q) π:Nat):Int);rw [decide_eq_true rfl] at hne;refine tst_Or2 ?_ ?_
 ·exact tst_Cmp (a:=.str (mkS (lnT q π))) (σ1:=τ) (ev_StrL (by rfl') (evs_cons (by rfl') (by left) evs_nil) t1 (by omega) (by omega)) (chain_one (σ1:=τ) (b:=.str (mkS (lnT q π))) (by left) ((cmp_neS τ _ _).trans (by rw [beq_self_eq_true];rfl)))
 ·exact tst_Cmp (a:=.int ((room+sm (szP q) π:Nat):Int)) (σ1:=τ) (by left) (chain_one (σ1:=τ) (b:=.int ((room+sm (szP q) π:Nat):Int)) (by left) hne)
theorem tst_Or3 {C:Cfg} {sc:Scope} {n:Nat} {x y z:Expr} {p:Pos} (h1:tst C (n+3) sc lo x ρ σ false σ) (h2:tst C (n+2) sc lo y ρ σ false σ) (h3:tst C (n+1) sc lo z ρ σ false σ):tst C (n+5) sc lo (.BoolOp .Or [x,y,z] p) ρ σ false σ:=tst_Bool (tsts_or h1 (tsts_or h2 (tsts_or h3 tsts_nilO)))
noncomputable def pcD (q:Nat→Nat) (k:Nat):PyData:=.tuple [.str (mkS [32]),.str (mkS (wdT q k))]
theorem nd_pcs:∀ l:List Nat,ndL (l.map (pcD q))=true
 |[]=>rfl
 |k::l=>and2 rfl (nd_pcs l)
theorem toD_pcs (l:List Nat) (n:Nat):mapO (toDσ σ (n+1)) (l.map (pcV q))=some (l.map (pcD q)):=mapO_map _ _ _ _ fun u _=>mpd (bnd toD_str (mpd (bnd toD_str (mpd rfl rfl)) rfl)) rfl
theorem ne_pcs (τ:St) (l:List Nat):cmpV τ .NotEq (.fro (l.map (pcV q))) (.fro (l.map (pcV q)))=some false:=by
 have h:toDσ τ depthD (.fro (l.map (pcV q)))=some (.list (l.map (pcD q))):=toD_fro (n:=31) (toD_pcs l 30);exact cmpNe_of h h (nd_pcs l)
theorem zeros_rep (z:Nat):rep z [V.int 0]=(List.replicate z (0:Int)).map V.int:=by
 rw [List.map_replicate]
 induction z with
 |zero=>rfl
 |succ z ih=>
  show (List.replicate (z+1) [V.int 0]).flatten=_;rw [List.replicate_succ,List.flatten_cons,List.replicate_succ];exact congrArg (V.int 0::·) ih
theorem tail_tst {j s z:Nat} {π:List Nat} (hp:π.Perm (List.range 6)) (hs:s≤6) (hz:z≤60) (g1:ρ.lookup ("tail":Str)=some (.val (.fro ((π.drop s).map (pcV q))))) (g2:ρ.lookup ("order":Str)=some (.val (.ref (j+1)))) (g3:ρ.lookup ("words":Str)=some (.val (wordsV q))) (g4:ρ.lookup ("spot":Str)=some (.val (.int s))) (g5:ρ.lookup ("left":Str)=some (.val (.fro (List.replicate z (.int 0)))))
  (t2:τ[j+1]?=some (.lst (π.map nV))) {n:Nat}:tst cfg (n+120) wsc 0 (exprS (nthS turnB 6)) ρ τ false τ:=by
 have hl:π.length=6:=hp.length_eq.trans List.length_range;have h6:∀ x∈π.drop s,x<6:=fun x hx=>List.mem_range.mp (hp.subset (List.mem_of_mem_drop hx));have hdl:(π.drop s).length=6-s:=by rw [List.length_drop,hl]
 rw [show exprS (nthS turnB 6)=.BoolOp _ [_,.Compare _ _ [.ListComp _ [_] _ _] _,.Compare _ _ [.BinOp _ _ _ _] _] _ from rfl];have i1:=len_fro (σ:=τ) (xs:=(π.drop s).map (pcV q)) (by rw [Qx];omega);rw [Qx,hdl] at i1;have hne:=cmp_neI τ ((6-s:Nat):Int) (6-(s:Int));rw [decide_eq_true (by omega)] at hne;refine tst_Or3 ?_ ?_ ?_
 ·exact tst_Cmp (a:=.int ((6-s:Nat):Int)) (σ1:=τ) (by left) (chain_one (σ1:=τ) (b:=.int (6-(s:Int))) (by left) hne)
 ·refine tst_Cmp (a:=.fro ((π.drop s).map (pcV q))) (σ1:=τ) (by left) (chain_one (σ1:=τ) (b:=.fro ((π.drop s).map (pcV q))) ?_ (ne_pcs τ _));have i2:=slice_ref (u:=.int s) (v:=.none) (a:=s) (b:=(π.map nV).length) t2 (by rw [Qx];omega) (.inl rfl) (.inr ⟨rfl,rfl⟩);rw [List.take_length,←List.map_drop] at i2;apply ev_CompF (it:=.fix ((π.drop s).map nV)) (σ1:=τ)
  ·rfl'
  ·decide +kernel
  ·exact itr_fro (by rfl') (ev_Slice (a:=.ref (j+1)) (u:=.int s) (w:=.none) (σ1:=τ) (σ2:=τ) (by left) (evo_some (by left)) evo_none i2)
  ·refine comp_all nV (π.drop s) (pcV q) (compOk_one (by rfl') ?_) (by omega) fun k hk=>?_
   ·left
   ·have i1:=item_word (τ:=τ) (q:=q) (h6 k hk);refine ⟨_,by left,?_⟩;unfold nV pcV;rw [←blank32];left
 ·have i3:=len_fro (σ:=τ) (xs:=List.replicate z (V.int 0)) (by rw [List.length_replicate];omega);rw [List.length_replicate] at i3;have e:List.replicate z (V.int 0)=(List.replicate z (0:Int)).map V.int:=by rw [List.map_replicate]
  have hne2:=ne_ints τ (List.replicate z (0:Int));rw [←e] at hne2;refine tst_Cmp (a:=.fro (List.replicate z (V.int 0))) (σ1:=τ) (by left) (chain_one (σ1:=τ) (b:=.fro (List.replicate z (V.int 0))) ?_ hne2);rw [e,←zeros_rep];exact ev_Rep (k:=(z:Nat)) (σ1:=τ) (by left) (by left) (Int.natCast_nonneg _) (by omega) (by decide)
@[reducible] noncomputable def TEnv (w q:Nat→Nat) (oul:List Int) (room s:Nat) (c:Int) (ρ:Rho):Prop:=ρ.lookup ("outer":Str)=some (.val (.fro (oul.map V.int)))∧ρ.lookup ("weights":Str)=some (.val (jobsV w))∧ρ.lookup ("words":Str)=some (.val (wordsV q))∧ρ.lookup ("room":Str)=some (.val (.int room))∧ρ.lookup ("spot":Str)=some (.val (.int s))∧ρ.lookup ("least":Str)=some (.val (.int c))
theorem turn_go {oul:List Int} {room s:Nat} {later:Bool} {F:Fo} (hq:∀ k,q k≤3) (hq1:∀ k,1≤q k) (hw:∀ k,w k≤7) (hr:room≤100) (hs:s≤6) (hO:OulOk oul) (hF:F.sz=6) (hS:Spec (ouB oul) 0 6 F) (E:TEnv w q oul room s ((dp w (szP q) (ouB oul) room 64).getD 63 0) ρ) (hl:ρ.lookup ("later":Str)=some (.val (.bool later))) {n:Nat} (hn:480≤n):
  Go (exs cfg n wsc 0 turnB ρ τ) fun fl' ρ' τ'=>fl'=.next∧TEnv w q oul room s ((dp w (szP q) (ouB oul) room 64).getD 63 0) ρ':=by
 refine e11 (ge_ex (n:=n) (m:=480) (by omega)) fun n qz1=>?_;obtain rfl:=qz1;refine nb fun kk=>?_;obtain ⟨C,z,hB,hz,hcall⟩:=order_call (lo:=0) (σ:=τ++[HO.acc (room:Nat) [],HO.lst []]) (later:=later) hq hw hO hF hS (n:=n+476) (by omega);obtain ⟨hdp,hp,hbeh⟩:=horn_least (w:=w) (ou:=ouB oul) (room:=room) (fit_MM hq) hF hS hB;refine kk ?_;generalize C.flatten=π at *
 refine nb fun kk=>?_;obtain ⟨g1,g2,g3,g4,g5,g6⟩:=E;refine kk ?_;have hl6:π.length=6:=hp.length_eq.trans List.length_range;have h6:∀ x∈π,x<6:=fun x hx=>List.mem_range.mp (hp.subset hx);rw [show turnB=[_,_,lineF,.If (exprS (nthS turnB 3)) _ [] _,.If (exprS (nthS turnB 4)) _ [] _,.Assign [.Tuple [.Name _ _,.Name _ _] _ _] (exprS (nthS turnB 5)) _,.If (exprS (nthS turnB 6)) _ [] _,.If (exprS (nthS turnB 7)) _ [] _] from rfl];have e1:(τ++[HO.acc (room:Nat) []]).length=τ.length+1:=by rw [Qu];rfl
 refine go_cons (go_Assign (by rfl') (by rfl') (v:=.tup [.ref τ.length,.ref (τ++[HO.acc (room:Nat) []]).length,.int 0]) (σ1:=(τ++[HO.acc (room:Nat) []])++[HO.lst []]) ?_ (by left) ?_)
 ·exact ev_Tuple (evs_cons (σ1:=τ++[HO.acc (room:Nat) []]) (by rfl') (ev_Acc1 (k:=(room:Nat)) (σ1:=τ) (by left) (by rfl')) (evs_cons (σ1:=(τ++[HO.acc (room:Nat) []])++[HO.lst []]) (by rfl') (ev_ListT (by decide +kernel) evs_nil) (evs_cons (by rfl') (by left) evs_nil)))
 rw [show (τ++[HO.acc (room:Nat) []])++[HO.lst []]=τ++[HO.acc (room:Nat) [],HO.lst []] from List.append_assoc ..,e1];refine nb fun kk=>?_;obtain ⟨t1,t2⟩:=two_get (σ:=τ) (a:=HO.acc (room:Nat) []) (b:=HO.lst []);refine kk ?_;generalize τ++[HO.acc (room:Nat) [],HO.lst []]=τ1 at *
 generalize τ.length=j at *
 refine go_cons (go_Assign (by rfl') (by rfl') (v:=.tup [.fro (π.map (pcV q)),.fro (List.replicate z (.int 0))]) (σ1:=τ1) (ev_FnC (vs:=[.bool later,.fro (oul.map V.int),jobsV w,wordsV q]) (σ1:=τ1) (by left) (by left) (by rfl') (by rfl') (by rfl') hcall) (by left) ?_);refine go_cons ((line_go (j:=j) (room:=room) (π:=π) (Nat.zero_le _) hq hq1 hw hr (by omega) h6 ⟨by left,by left,by left,by left⟩ (by left) (by left) t1 t2 (by omega)).mono ?_);rintro fl ρ2 τ2 ⟨rfl,hsm,hcost,rfl⟩;have s1:((τ1.set j (.acc (room:Nat) (π.map (pcV q)))).set (j+1) (.lst (π.map nV)))[j]?=some (.acc (room:Nat) (π.map (pcV q))):=get_ne (by omega) (get_set t1);have s2:((τ1.set j (.acc (room:Nat) (π.map (pcV q)))).set (j+1) (.lst (π.map nV)))[j+1]?=some (.lst (π.map nV)):=get_set (get_ne (by omega) t2);generalize (τ1.set j (.acc (room:Nat) (π.map (pcV q)))).set (j+1) (.lst (π.map nV))=τ2 at s1 s2;have hcl:ρ2.lookup ("cost":Str)=some (.val (.int ((dp w (szP q) (ouB oul) room 64).getD 63 0))):=by rw [hdp];exact hcost
 have k1:ρ2.lookup ("line":Str)=some (.val (.ref j)):=(hsm _ (by rfl')).trans (by left);have k2:ρ2.lookup ("order":Str)=some (.val (.ref (j+1))):=(hsm _ (by rfl')).trans (by left);have k3:ρ2.lookup ("words":Str)=some (.val (wordsV q)):=(hsm _ (by rfl')).trans (by left);have k4:ρ2.lookup ("spot":Str)=some (.val (.int s)):=(hsm _ (by rfl')).trans (by left);have k5:ρ2.lookup ("left":Str)=some (.val (.fro (List.replicate z (.int 0)))):=(hsm _ (by rfl')).trans (by left);have k6:ρ2.lookup ("outer":Str)=some (.val (.fro (oul.map V.int))):=(hsm _ (by rfl')).trans (by left);have k7:ρ2.lookup ("weights":Str)=some (.val (jobsV w)):=(hsm _ (by rfl')).trans (by left);have k8:ρ2.lookup ("room":Str)=some (.val (.int room)):=(hsm _ (by rfl')).trans (by left);have k9:ρ2.lookup ("least":Str)=some (.val (.int ((dp w (szP q) (ouB oul) room 64).getD 63 0))):=(hsm _ (by rfl')).trans (by left);generalize (dp w (szP q) (ouB oul) room 64).getD 63 0=c at *
 refine go_cons (go_IfF (order_tst hq hp k1 k2 k3 s1 s2) (go_nil ?_));refine go_cons (go_IfF (inner_tst hO hp hbeh k2 k6 hcl k9 s2) (go_nil ?_));refine go_cons (go_Assign (by rfl') (by rfl') (v:=.tup [.fro ((π.drop s).map (pcV q)),.str (mkS (lnT q (π.take s)))]) (σ1:=τ2.set j (.acc (room:Nat) ((π.take s).map (pcV q)))) (tail_ev hq hp hs k1 k2 k3 k4 s1 s2) (by left) ?_);refine go_cons (go_IfF (tail_tst (j:=j) hp hs hz (by left) (by left) (by left) (by left) (by left) (get_ne (by omega) s2)) (go_nil ?_));refine go_cons (go_IfF (last_tst (j:=j) hq hr (by rw [List.length_take];omega) (by left) (by left) (by left) (get_set s1)) (go_nil ?_));exact go_nil ⟨rfl,by left,by left,by left,by left,by left,by left⟩
theorem law_go {l:List Int} (hl:l.length≤63) {n:Nat} (hn:540≤n):Go (exs cfg n wsc 0 (fnD pw "law").body [(("script":Str),.val (.fro (l.map V.int)))] []) fun fl' ρ' σ'=>fl'=.ret (.bool true):=by
 refine e11 (ge_ex (n:=n) (m:=540) (by omega)) fun n qz1=>?_;obtain rfl:=qz1;obtain ⟨A,B,C,D,hcells⟩:=cells_call (σ:=[]) (l:=l) (by omega) (n:=n+537) (by omega);have hcells:=hcells 0;have hunits:=units_call (σ:=[]) (A:=A) (B:=B) (n:=n+536) (by omega) 0;obtain ⟨hul,hF⟩:=fact_us A B;generalize (unitsAt A B 12).1=us at hunits hul hF;have hO:OulOk (olB (us.map (·.1))):=⟨hF.1.2.2,fun k hk=>(hF.2.2.1 k hk).2⟩
 have turn:=fun (later:Bool) (ρ:Rho) (τ:St) E hlt=>turn_go (τ:=τ) (ρ:=ρ) (w:=wOf C) (q:=qOf D) (room:=D/729 % 4) (s:=1+D/2916 % 6) (later:=later) (qOf_le D) (fun k=>Nat.le_add_right _ _) (wOf_le C) (by omega) (by omega) hO hF.2.2.2.2.1 (specB_ok hF.2.2.2.2.2) E hlt (n:=n+529) (by omega);generalize hM:turnB=TB at turn;rw [show (fnD pw "law").body=[_,_,.Assign [.Name _ _] (exprS (nthS (fnD pw "law").body 2)) _,.Assign [.Name _ _] (exprS (nthS (fnD pw "law").body 3)) _,.Assign [.Name _ _] (exprS (nthS (fnD pw "law").body 4)) _,.If chkT _ [] _,.Assign [.Name _ _] (exprS (nthS (fnD pw "law").body 6)) _,.Assign [.Tuple [.Name _ _,.Name _ _,.Name _ _] _ _] (exprS (nthS (fnD pw "law").body 7)) _,.Assign [.Name _ _] (exprS (nthS (fnD pw "law").body 8)) _,.For _ _ turnB [] _,_] from rfl,hM];have c0:getItemV [] (cellsV A B C D) (.int 0)=some (.int (A:Nat)):=rfl;have c1:getItemV [] (cellsV A B C D) (.int 1)=some (.int (B:Nat)):=rfl;have hcells:call cfg (n+537) 0 ("_law_cells":Str) (fnD pw "_law_cells") [.fro (l.map .int)] [] [] (cellsV A B C D) []:=hcells;refine go_cons (go_Assign (by rfl') (by rfl') (v:=cellsV A B C D) (σ1:=[]) (by left) (by left) ?_);refine go_cons (go_Assign (by rfl') (by rfl') (v:=rowV us) (σ1:=[]) (by left) (by left) ?_);refine go_cons (go_Assign (by rfl') (by rfl') (σ1:=[]) (starts_ev hul (by left)) (by left) ?_);refine go_cons (go_Assign (by rfl') (by rfl') (σ1:=[]) (ends_ev hul hF (by left) (by left)) (by left) ?_);refine go_cons (go_Assign (by rfl') (by rfl') (σ1:=[]) (outer_ev hF (by left)) (by left) ?_);refine go_cons (go_IfF (drawn_tst hul hF (by left) (by left) (by left)) (go_nil ?_));refine go_cons (go_Assign (by rfl') (by rfl') (σ1:=[]) (words_ev (A:=A) (B:=B) (C:=C) (D:=D) (by left)) (by left) ?_);refine go_cons (go_Assign (by rfl') (by rfl') (σ1:=[]) (weights_ev (A:=A) (B:=B) (C:=C) (D:=D) (by left)) (by left) ?_);refine go_cons (go_Assign (by rfl') (by rfl') (σ1:=[]) (least_ev (room:=D/729 % 4) (wOf_le C) (qOf_le D) (by omega) hO (by left) (by left) (by left) (by left)) (by left) ?_);refine go_cons ?_;refine go_For (σ1:=[]) (xs:=[.bool true,.bool false]) (fun k ρ τ=>TEnv (wOf C) (qOf D) (olB (us.map (·.1))) (D/729 % 4) (1+D/2916 % 6) ((dp (wOf C) (szP (qOf D)) (ouB (olB (us.map (·.1)))) (D/729 % 4) 64).getD 63 0) ρ) (by rfl') ?_ ?_ ?_ ?_
 ·exact itr_fro (by rfl') (by left)
 ·exact ⟨by left,by left,by left,by left,by left,by left⟩
 ·rintro k v ρ τ hv ⟨g1,g2,g3,g4,g5,g6⟩;have hb:∃ b:Bool,v=.bool b:=by
   rcases Wy (List.mem_of_getElem? hv) with rfl|h
   ·exact ⟨_,rfl⟩
   ·exact ⟨_,Wz h⟩
  obtain ⟨b,rfl⟩:=hb;refine ⟨_,by left,?_⟩;refine (turn b ((Str.ofString "later",.val (.bool b))::ρ) τ ⟨look_miss (by rfl') g1,look_miss (by rfl') g2,look_miss (by rfl') g3,look_miss (by rfl') g4,look_miss (by rfl') g5,look_miss (by rfl') g6⟩ (look_hit ..)).mono ?_;rintro fl ρ2 τ2 ⟨rfl,E⟩;exact E
 ·rintro ρ τ _;walk_at "ret"
  rfl
end
end Mine.Internal.L
end
section
open PySem PySem.W PyProof.Rows Mine.Internal Mine.Internal.L
namespace Mine.Internal
section
noncomputable def kcodes:List (Addr×Addr):=[(113,109),(122,118),(131,127),(140,136),(154,150),(161,157),(175,171),(189,185),(194,192),(199,197),(204,202),(67,63),(74,70)]
noncomputable def kc:Cst:={ N0:=206,acc:=101,tabs:=kcodes.map (·.2),codes:=kcodes }
noncomputable def kfOf (hp:Params→Frag) (P:Params):Frag:=(hp P).filter fun p=>!kc.tabs.contains p.1
theorem look_filter_key (q:Addr→Bool) (a:Addr) (o:Obj):∀ K:Frag,(K.filter fun p=>q p.1).lookup a=some o→q a=true∧K.lookup a=some o
 |[],h=>nomatch h
 |(b,x)::r,h=>by
  rw [List.filter_cons] at h;rw [List.lookup_cons];cases hx:q b with
  |true=>
   rw [if_pos hx,List.lookup_cons] at h;cases hab:a==b with
   |true=>rw [hab] at h;exact ⟨eq_of_beq hab▸hx,h⟩
   |false=>rw [hab] at h;exact look_filter_key q a o r h
  |false=>
   rw [if_neg (by rw [hx];decide)] at h;have ih:=look_filter_key q a o r h;cases hab:a==b with
   |true=>rw [eq_of_beq hab,hx] at ih;exact nomatch ih.1
   |false=>exact ih
theorem kfOf_in {hp:Params→Frag} {P:Params} {h:Heap} (X:(hp P).In h):(kfOf hp P).In h:=fun a o e=>X a o (look_filter_key (fun a=>!kc.tabs.contains a) a o _ e).2
noncomputable def bisList:List (Str×Addr):=[("insort_right",114),("bisect_right",123),("insort_left",132),("bisect_left",141)]
noncomputable def plainList:List (Str×Addr):=[("_strip_quoted_realnames",155),("_check_parenthesis",162),("_law_cells",169),("_law_units",176),("_law_nest",183),("_law_close",190),("_law_least",195),("_law_order",200),("law",205)]
theorem up1 {P:Setting→Nat→List Value→Prop} (h:∀ S,AllV 1 (P S 0)∧AllV 2 (P S 1)):∀ S j,j≤1→AllV (1+j) (P S j)
 |S,0,_=>(h S).1
 |S,1,_=>(h S).2
 |S,j+2,hj=>absurd hj (by omega)
theorem methsAll {Kf:Frag} {K:Cst} (h:findIn Kf (.ref K.acc) ("pop_from":Str)=some (some (.ref 53))∧typeIn Kf (.ref 53)=some (.type "function")∧FnAt K Kf.In (fun _=>some (.ref 53)) "pop_from" (methD pw "pop_from") 53 (obOf Kf 53) (fdOf (obOf Kf 53))):
  ∀ nm fn,cfg.meths nm=some fn→(nm==("_initial_size":Str))=false∧∃ f ob fd,findIn Kf (.ref K.acc) nm=some (some (.ref f))∧typeIn Kf (.ref f)=some (.type "function")∧FnAt K Kf.In (fun _=>some (.ref f)) nm fn f ob fd:=by
 intro nm fn e;obtain e:(if nm==("pop_from":Str) then some (methD pw "pop_from") else none)=some fn:=e
 split at e
 ·rename_i hm
  cases e;obtain rfl:=eq_of_beq hm;exact ⟨by decide +kernel,53,_,_,h.1,h.2.1,h.2.2⟩
 ·cases e
section
variable (kf:Params→Frag)
noncomputable abbrev NsG (P:Params):Str→Option Value:=nsOf (kf P) mainGlobals
noncomputable abbrev NsB (P:Params):Str→Option Value:=nsOf (kf P) builtinsNs
abbrev SFnAt (f:Str) (a:Addr) (P:Params):Prop:=FnAt kc (kf P).In (nsOf (kf P) mainGlobals) f (fnD pw f) a (obOf (kf P) a) (fdOf (obOf (kf P) a))
structure HF:Prop where
 headOk:∀ P,HeadOk kc (kf P) 4
 topOk:∀ P,TopOk pw cfg kc (kf P) 4
 law:∀ P,SFnAt kf "law" 205 P
theorem fnsAll (fnPlain:∀ P f a,(f,a)∈plainList→SFnAt kf f a P) (fnBis:∀ P f a,(f,a)∈bisList→SFnAt kf f a P) (P:Params):∀ f fn,cfg.fns f=some fn→∃ a o fd,FnAt kc (kf P).In (nsOf (kf P) mainGlobals) f fn a o fd:=by
 intro f fn e;obtain e:(if fnNames.contains f then some (fnD pw f) else none)=some fn:=e
 split at e
 ·rename_i hm
  cases e;obtain hm:f∈fnNames:=by simpa using hm
  obtain key:∀ a,(f,a)∈(bisList++plainList)→∃ a o fd,FnAt kc (kf P).In (nsOf (kf P) mainGlobals) f (fnD pw f) a o fd:=by
   intro a ha;rcases Wx ha with h|h
   ·exact (xi3 _ _ _ (fnBis P f a h))
   ·exact (xi3 _ _ _ (fnPlain P f a h))
  obtain hmap:fnNames=(bisList++plainList).map (·.1):=by rfl
  rw [hmap] at hm;refine nb fun kk=>?_;refine e12 (List.mem_map.mp hm) fun qz0 h1 qz2=>?_;obtain ⟨f',a⟩:=qz0;obtain rfl:=qz2;refine kk ?_;exact key a h1
 ·cases e
end
end
end Mine.Internal
end
section
open PySem PySem.W PyProof.Rows
open PySem.Calls PySem.Spec
set_option tactic.hygienic false
namespace Mine.Internal
section
open Mine.Internal.L
theorem kc_hid (a:Addr):a∉kc.hid:=by intro h;cases h
theorem law_call {ns:List Int} (hns:ns.length≤63):call cfg 541 0 ("law":Str) (fnD pw "law") [.fro (ns.map V.int)] [] [] (.bool true) []:=by
 obtain ⟨fl,ρ1,σ1,h1,rfl⟩:=law_go hns (n:=540) (by decide);exact call_pure (by kernel_rfl) (ρ0:=[(("script":Str),.val (.fro (ns.map V.int)))]) (by kernel_rfl) (by kernel_rfl) h1 (.inl rfl) rfl
section
variable {w:World} {kf:Params→Frag} (H:HF kf) (P:Params)
include H
theorem gfacts:Facts kc (kf P).In (nsOf (kf P) mainGlobals) (nsOf (kf P) builtinsNs):=facts_of (H.headOk P)
noncomputable def xc (w:World):Ctx cfg:=⟨pw,w,kc,(kf P).In,_,_,gfacts H P,(H.topOk P).prims⟩
theorem run_law1 {l:Addr} {ns:List Int} {m:Nat} {items:Array Value} {s₁:Shared} {Q:Value→Shared→Prop} {E:Value→Shared→Prop} (hns:ns.length≤63) (hF:(kf P).In s₁.heap) (htabs:∀ T∈kc.tabs,s₁.heap.get? T=some (tabObj #[])) (hsz:kc.N0≤s₁.heap.objs.size)
  (hl:s₁.heap.get? l=some (lstObj items m)) (hi:IntsAre items.toList ns) (hg:s₁.gens=#[]) (hQ:∀ s',OldK s₁.heap s'.heap→s'.os=s₁.os→AllBare s'.gens→Q (.bool true) s'):
  wpAny (model pw w) callerA (PySem.call (.ref 205) [.ref l]) Q E s₁:=by
 have G:=gfacts H P;have I:In0 kc (kf P).In [] [] s₁:=by
  refine ⟨hF,⟨rfl,.nil,fun o_ h=>(nomatch h),fun b hb=>absurd hb (kc_hid b),fun i o e=>(by simp -iota at e)⟩,(by rw [hg];exact fun o_ h=>by simp -iota at h),fun P hP=>⟨G.tabs P hP,#[],htabs P hP,trivial,fun pos cv e=>by cases e⟩⟩
 have hA:Ok callerA 541:=by
  exact ⟨by show 1+claimMargin+541+40<900;decide,by show 4+16*541+1000<9900;decide,rfl⟩
 have hv:RVs kc.hid [] s₁.heap [.ref l] [.fro (ns.map V.int)]:=.cons (.fro (by simp -iota) (kc_hid _) hl (rvs_ints hi)) .nil;refine law_call hns (xc H P w) [] (H.law P) hA I hsz hv .nil fun rv s' ι' N r=>?_;cases r;refine hQ s' ⟨fun b o e=>?_,fun b o e=>?_⟩ N.os N.inn.gens
 ·rcases N.grow.keep b o (by simp) e with z|⟨hb,vs,more,rfl,z⟩
  ·exact .inl z
  ·refine .inr (.inl ⟨?_,rfl,vs,more,rfl,z⟩);have ht:(kc.tabs.all fun t=>kc.codes.any fun x=>x.2==t)=true:=by decide
   have:=List.all_eq_true.mp ht b hb;refine e12 (List.any_eq_true.mp this) fun x hx e2=>?_;refine e02 (G.codes hF x hx) fun qz0 o_=>?_;obtain ⟨o,vs,_,_,_,_,_,_,_,e3,e4,e5,e6,_⟩:=qz0;rw [eq_of_beq e2] at e6;exact ⟨x.1,o,vs,e3,e4,e5,e6⟩
 ·exact N.grow.stays e
end
end
end Mine.Internal
end
open PySem PySem.W PySem.W.X PyProof.Rows Mine.Internal Mine.Internal.L
set_option pp.deepTerms false
set_option pp.deepTerms.threshold 3
set_option pp.maxSteps 3000
section
theorem Mine.Internal.said:PySem.W.OpenLaw.wellSaid PySem.Challenge.rw_uy0008_01=true:=(congrFun PySem.W.Fast.te9446332074065402090 _).trans (by kernel_rfl)
theorem Mine.Internal.aside {T G:Prop} (hl:T) (main:G):G:=main
set_option maxRecDepth 100000 in
set_option maxHeartbeats 0 in
theorem PySem.Challenge.cw_uy0008_01_holds : PySem.Challenge.rw_uy0008_01.Holds := by
 w_on
 refine PySem.W.holds_law Mine.Internal.said fun said=>?_
 apply Mine.Internal.aside
 case main=>
  z_head;(case hw=>w_witness2)
  have headOk:∀ P,HeadOk kc (kfOf Challenge.cw_uy0008_01_holds.heap_198 P) 4:=by
   intro P
   refine ⟨by kernel_rfl,by kernel_rfl,by kernel_rfl,by kernel_rfl,by kernel_rfl,by kernel_rfl,by kernel_rfl,by kernel_rfl,by kernel_rfl,?_,?_⟩
   ·exact fun f hf=>AllL.mem (P:=fun f=>nsOf (kfOf Challenge.cw_uy0008_01_holds.heap_198 P) mainGlobals (Str.ofString f)=none∧nsOf (kfOf Challenge.cw_uy0008_01_holds.heap_198 P) builtinsNs (Str.ofString f)=some (.type f)) (.cons ⟨by kernel_rfl,by kernel_rfl⟩ (.cons ⟨by kernel_rfl,by kernel_rfl⟩ (.cons ⟨by kernel_rfl,by kernel_rfl⟩ .nil))) hf
   ·exact fun f hf=>AllL.mem (P:=fun f=>nsOf (kfOf Challenge.cw_uy0008_01_holds.heap_198 P) mainGlobals (Str.ofString f)=none∧nsOf (kfOf Challenge.cw_uy0008_01_holds.heap_198 P) builtinsNs (Str.ofString f)=some (.builtin f)) (.cons ⟨by kernel_rfl,by kernel_rfl⟩ (.cons ⟨by kernel_rfl,by kernel_rfl⟩ (.cons ⟨by kernel_rfl,by kernel_rfl⟩ (.cons ⟨by kernel_rfl,by kernel_rfl⟩ (.cons ⟨by kernel_rfl,by kernel_rfl⟩ .nil))))) hf
  have fnh:∀ P,∀ x∈bisList++plainList,FnH kc (kfOf Challenge.cw_uy0008_01_holds.heap_198 P) pw x.1 x.2:=fun P=>fnH_all (by kernel_rfl)
  have supTop:∀ (P:Params) (f cd:Addr) (h:(f,cd)∈([(38,37)]:List (Addr×Addr))),SupTop pw kc.acc (kfOf Challenge.cw_uy0008_01_holds.heap_198 P).In (kfOf Challenge.cw_uy0008_01_holds.heap_198 P) (nsOf (kfOf Challenge.cw_uy0008_01_holds.heap_198 P) mainGlobals) (nsOf (kfOf Challenge.cw_uy0008_01_holds.heap_198 P) builtinsNs) f (obOf (kfOf Challenge.cw_uy0008_01_holds.heap_198 P) f) (fdOf (obOf (kfOf Challenge.cw_uy0008_01_holds.heap_198 P) f)):=by
   intro P f cd h
   simp only [List.mem_cons,List.not_mem_nil,or_false,Prod.mk.injEq] at h
   have hcc:∀ {h},(kfOf Challenge.cw_uy0008_01_holds.heap_198 P).In h→∃ o,h.get? 25=some o∧o.data=.cell (some (.ref 101)):=fun X=>⟨obOf (kfOf Challenge.cw_uy0008_01_holds.heap_198 P) 25,X _ _ (by kernel_rfl),by kernel_rfl⟩
   obtain ⟨rfl,rfl⟩:=h
   exact ⟨⟨_,rfl⟩,by kernel_rfl,⟨25,by kernel_rfl,hcc⟩,by kernel_rfl,by kernel_rfl,⟨37,obOf (kfOf Challenge.cw_uy0008_01_holds.heap_198 P) 37,_,_,_,by kernel_rfl,fun X=>X _ _ (by kernel_rfl),rfl,rfl,by kernel_rfl⟩,by kernel_rfl,⟨by kernel_rfl,by kernel_rfl⟩⟩
  have accTop:∀ (P:Params),AccTop kc (kfOf Challenge.cw_uy0008_01_holds.heap_198 P).In (kfOf Challenge.cw_uy0008_01_holds.heap_198 P):=by
   intro P
   exact ⟨fun X=>X,by kernel_rfl,⟨"list.__getattribute__",by kernel_rfl,by kernel_rfl⟩,by kernel_rfl,by kernel_rfl,by kernel_rfl⟩
  have supCls:∀ (P:Params),SupCls kc (kfOf Challenge.cw_uy0008_01_holds.heap_198 P):=by
   intro P
   exact ⟨by kernel_rfl,by kernel_rfl⟩
  have newTop:∀ (P:Params),NewTop kc (kfOf Challenge.cw_uy0008_01_holds.heap_198 P):=by
   intro P
   exact ⟨by kernel_rfl,⟨_,rfl,by kernel_rfl,by kernel_rfl⟩,by kernel_rfl,by kernel_rfl,by kernel_rfl,fun S rest=>by kernel_rfl,fun S=>by kernel_rfl⟩
  have accAll:∀ (P:Params),AccAll pw kc (kfOf Challenge.cw_uy0008_01_holds.heap_198 P).In (kfOf Challenge.cw_uy0008_01_holds.heap_198 P) (nsOf (kfOf Challenge.cw_uy0008_01_holds.heap_198 P) mainGlobals) (nsOf (kfOf Challenge.cw_uy0008_01_holds.heap_198 P) builtinsNs):=by
   intro P
   exact ⟨accTop P,supCls P,newTop P,by kernel_rfl,by kernel_rfl,
        fun j=>j 45 (obOf (kfOf Challenge.cw_uy0008_01_holds.heap_198 P) 45) (fdOf (obOf (kfOf Challenge.cw_uy0008_01_holds.heap_198 P) 45)) _ _ _ _ _ _ _ _ (by kernel_rfl) (methOk_of (by kernel_rfl) (by kernel_rfl) (by kernel_rfl) rfl (by kernel_rfl) (by kernel_rfl) (by kernel_rfl) (by kernel_rfl) (by kernel_rfl) (by kernel_rfl) (by kernel_rfl) (by kernel_rfl) (by kernel_rfl) (by kernel_rfl) (by kernel_rfl) (by decide) (by kernel_rfl) (by kernel_rfl)) (by kernel_rfl) (by kernel_rfl),
        fun j=>j 38 (obOf (kfOf Challenge.cw_uy0008_01_holds.heap_198 P) 38) (fdOf (obOf (kfOf Challenge.cw_uy0008_01_holds.heap_198 P) 38)) _ _ _ _ _ _ _ _ _ (by kernel_rfl) (methOk_of (by kernel_rfl) (by kernel_rfl) (by kernel_rfl) rfl (by kernel_rfl) (by kernel_rfl) (by kernel_rfl) (by kernel_rfl) (by kernel_rfl) (by kernel_rfl) (by kernel_rfl) (by kernel_rfl) (by kernel_rfl) (by kernel_rfl) (by kernel_rfl) (by decide) (by kernel_rfl) (by kernel_rfl)) (supTop P 38 37 (by simp)) (by kernel_rfl) (fun a k t X=>kp_binds X fun S=>by kernel_rfl) (fun a X=>⟨210,kp_binds X fun S=>by kernel_rfl⟩)⟩
  have lenTop:∀ (P:Params) {G:Prop},(∀ f e0 e1 e2 e3 e4 e5 e6 pa pb pt p0 p1 p2 p3 p4 p5 p6 kt gsc,LenTop kc (kfOf Challenge.cw_uy0008_01_holds.heap_198 P).In (kfOf Challenge.cw_uy0008_01_holds.heap_198 P) f (obOf (kfOf Challenge.cw_uy0008_01_holds.heap_198 P) f) (fdOf (obOf (kfOf Challenge.cw_uy0008_01_holds.heap_198 P) f)) (lenBody e0 e1 e2 e3 e4 e5 e6 pa pb pt p0 p1 p2 p3 p4 p5 p6 kt gsc) gsc→G)→G:=by
   intro P G j
   exact j 68 _ _ _ _ _ _ _ _ _ _ _ _ _ _ _ _ _ _ _ ⟨by kernel_rfl,by kernel_rfl,methOk_of (by kernel_rfl) (by kernel_rfl) (by kernel_rfl) rfl (by kernel_rfl) (by kernel_rfl) (by kernel_rfl) (by kernel_rfl) (by kernel_rfl) (by kernel_rfl) (by kernel_rfl) (by kernel_rfl) (by kernel_rfl) (by kernel_rfl) (by kernel_rfl) (by decide) (by kernel_rfl) (by kernel_rfl),by kernel_rfl,⟨(67,63),by simp [kc,kcodes],by kernel_rfl⟩,by kernel_rfl,
     ⟨rfl,rfl,by kernel_rfl,by kernel_rfl,by kernel_rfl,by decide,by decide⟩,by kernel_rfl⟩
  have genTop:∀ (P:Params),∃ g Ps k,GenTop (kfOf Challenge.cw_uy0008_01_holds.heap_198 P).In (nsOf (kfOf Challenge.cw_uy0008_01_holds.heap_198 P) mainGlobals) g (obOf (kfOf Challenge.cw_uy0008_01_holds.heap_198 P) g) (fdOf (obOf (kfOf Challenge.cw_uy0008_01_holds.heap_198 P) g)) Ps k:=by
   intro P
   exact
    ⟨148,escPos [⟨94,4,94,7⟩,⟨94,10,94,11⟩,⟨94,4,94,11⟩,⟨95,4,95,10⟩,⟨95,13,95,18⟩,⟨95,4,95,18⟩,⟨96,8,96,11⟩,⟨96,13,96,15⟩,⟨96,8,96,15⟩,⟨96,19,96,28⟩,⟨96,29,96,33⟩,⟨96,19,96,34⟩,⟨96,4,103,27⟩,⟨97,11,97,17⟩,⟨98,19,98,22⟩,⟨98,24,98,28⟩,⟨98,31,98,33⟩,⟨98,24,98,33⟩,⟨98,18,98,34⟩,⟨98,12,98,34⟩,⟨98,12,98,34⟩,⟨99,12,99,18⟩,⟨99,21,99,26⟩,⟨99,12,99,26⟩,⟨100,13,100,15⟩,⟨100,19,100,23⟩,⟨100,13,100,23⟩,⟨101,12,101,18⟩,⟨101,21,101,25⟩,⟨101,12,101,25⟩,⟨100,8,103,27⟩,⟨103,19,103,22⟩,⟨103,24,103,26⟩,⟨103,18,103,27⟩,⟨103,12,103,27⟩,⟨103,12,103,27⟩,⟨97,8,103,27⟩,⟨104,7,104,13⟩,⟨104,4,105,25⟩,⟨105,15,105,18⟩,⟨105,20,105,24⟩,⟨105,14,105,25⟩,⟨105,8,105,25⟩,⟨105,8,105,25⟩],fun _=>0,by kernel_rfl,fun X=>X _ _ (by kernel_rfl),by kernel_rfl,by kernel_rfl,by kernel_rfl,by kernel_rfl,by kernel_rfl,
     fun X=>Mine.Internal.codeRec_of X (by kernel_rfl),(by
      have h:((fdOf (obOf (kfOf Challenge.cw_uy0008_01_holds.heap_198 P) 148)).scope.names.all fun x=>x.2 !=.cell)=true:=by kernel_rfl
      intro x hx
      have:=List.all_eq_true.mp h x hx
      simpa using this),by kernel_rfl,by kernel_rfl,by kernel_rfl,by kernel_rfl,by kernel_rfl,by kernel_rfl,by kernel_rfl,by kernel_rfl,by kernel_rfl,by kernel_rfl,by kernel_rfl,by kernel_rfl,by kernel_rfl,by kernel_rfl⟩
  have bP:∀ P,AllL (fun x:Str×Addr=>BindOk kc (kfOf Challenge.cw_uy0008_01_holds.heap_198 P) (fnD pw x.1) (fdOf (obOf (kfOf Challenge.cw_uy0008_01_holds.heap_198 P) x.2))) plainList:=fun P=>by
   unfold plainList
   iterate 9 refine AllL.cons (binds_all (names:=_) (dv:=[]) (ds:=[]) (kwo:=[]) (Nat.zero_le _) rfl (by kernel_rfl) (by kernel_rfl) .nil (by kernel_rfl) (plain0 fun S=>by (repeat intro _);change _=_;kernel_rfl) (fun _ _ _ _ z=>nomatch z)) ?_
   exact AllL.nil
  have bB:∀ P,AllL (fun x:Str×Addr=>BindOk kc (kfOf Challenge.cw_uy0008_01_holds.heap_198 P) (fnD pw x.1) (fdOf (obOf (kfOf Challenge.cw_uy0008_01_holds.heap_198 P) x.2))) bisList:=fun P=>by
   unfold bisList
   refine AllL.cons (binds_all (names:=bisN) (dv:=[.int 0 296,.none]) (ds:=[.int 0,.none]) (kwo:=[("key":Str)]) (by decide) (by kernel_rfl) (by kernel_rfl) (by kernel_rfl) (.cons (.int 0 296) (.cons .none .nil)) (by kernel_rfl) (bis0 fun S=>⟨fun v1 v2=>by (change _=_;kernel_rfl),fun v1 v2 v3=>by (change _=_;kernel_rfl),fun v1 v2 v3 v4=>by (change _=_;kernel_rfl)⟩) (bis1 fun S v=>⟨fun v1 v2=>by (change _=_;kernel_rfl),fun v1 v2 v3=>by (change _=_;kernel_rfl),fun v1 v2 v3 v4=>by (change _=_;kernel_rfl)⟩)) ?_
   refine AllL.cons (binds_all (names:=bisN) (dv:=[.int 0 309,.none]) (ds:=[.int 0,.none]) (kwo:=[("key":Str)]) (by decide) (by kernel_rfl) (by kernel_rfl) (by kernel_rfl) (.cons (.int 0 309) (.cons .none .nil)) (by kernel_rfl) (bis0 fun S=>⟨fun v1 v2=>by (change _=_;kernel_rfl),fun v1 v2 v3=>by (change _=_;kernel_rfl),fun v1 v2 v3 v4=>by (change _=_;kernel_rfl)⟩) (bis1 fun S v=>⟨fun v1 v2=>by (change _=_;kernel_rfl),fun v1 v2 v3=>by (change _=_;kernel_rfl),fun v1 v2 v3 v4=>by (change _=_;kernel_rfl)⟩)) ?_
   refine AllL.cons (binds_all (names:=bisN) (dv:=[.int 0 323,.none]) (ds:=[.int 0,.none]) (kwo:=[("key":Str)]) (by decide) (by kernel_rfl) (by kernel_rfl) (by kernel_rfl) (.cons (.int 0 323) (.cons .none .nil)) (by kernel_rfl) (bis0 fun S=>⟨fun v1 v2=>by (change _=_;kernel_rfl),fun v1 v2 v3=>by (change _=_;kernel_rfl),fun v1 v2 v3 v4=>by (change _=_;kernel_rfl)⟩) (bis1 fun S v=>⟨fun v1 v2=>by (change _=_;kernel_rfl),fun v1 v2 v3=>by (change _=_;kernel_rfl),fun v1 v2 v3 v4=>by (change _=_;kernel_rfl)⟩)) ?_
   refine AllL.cons (binds_all (names:=bisN) (dv:=[.int 0 336,.none]) (ds:=[.int 0,.none]) (kwo:=[("key":Str)]) (by decide) (by kernel_rfl) (by kernel_rfl) (by kernel_rfl) (.cons (.int 0 336) (.cons .none .nil)) (by kernel_rfl) (bis0 fun S=>⟨fun v1 v2=>by (change _=_;kernel_rfl),fun v1 v2 v3=>by (change _=_;kernel_rfl),fun v1 v2 v3 v4=>by (change _=_;kernel_rfl)⟩) (bis1 fun S v=>⟨fun v1 v2=>by (change _=_;kernel_rfl),fun v1 v2 v3=>by (change _=_;kernel_rfl),fun v1 v2 v3 v4=>by (change _=_;kernel_rfl)⟩)) ?_
   exact AllL.nil
  have fnPlain:∀ (P:Params) (f:Str) (a:Addr),(f,a)∈plainList→FnAt kc (kfOf Challenge.cw_uy0008_01_holds.heap_198 P).In (nsOf (kfOf Challenge.cw_uy0008_01_holds.heap_198 P) mainGlobals) f (fnD pw f) a (obOf (kfOf Challenge.cw_uy0008_01_holds.heap_198 P) a) (fdOf (obOf (kfOf Challenge.cw_uy0008_01_holds.heap_198 P) a)):=fun P f a h=>fnAt_of (headOk P) (fnh P _ (List.mem_append_right bisList h)) ((bP P).mem h)
  have fnBis:∀ (P:Params) (f:Str) (a:Addr),(f,a)∈bisList→FnAt kc (kfOf Challenge.cw_uy0008_01_holds.heap_198 P).In (nsOf (kfOf Challenge.cw_uy0008_01_holds.heap_198 P) mainGlobals) f (fnD pw f) a (obOf (kfOf Challenge.cw_uy0008_01_holds.heap_198 P) a) (fdOf (obOf (kfOf Challenge.cw_uy0008_01_holds.heap_198 P) a)):=fun P f a h=>fnAt_of (headOk P) (fnh P _ (List.mem_append_left plainList h)) ((bB P).mem h)
  have strTop:∀ (P:Params) {G:Prop},(∀ f e0 e1 e2 e3 e4 e5 pa pb pt p0 p1 p2 p3 p4 p5 kt kk gsc te,StrTop kc (kfOf Challenge.cw_uy0008_01_holds.heap_198 P).In (kfOf Challenge.cw_uy0008_01_holds.heap_198 P) (nsOf (kfOf Challenge.cw_uy0008_01_holds.heap_198 P) mainGlobals) f (obOf (kfOf Challenge.cw_uy0008_01_holds.heap_198 P) f) (fdOf (obOf (kfOf Challenge.cw_uy0008_01_holds.heap_198 P) f)) (strBody e0 e1 e2 e3 e4 e5 pa pb pt p0 p1 p2 p3 p4 p5 kt kk gsc) gsc te→(e1.endLine==e5.line)=true→(p3.endLine==p4.line)=true→G)→G:=by
   intro P G j
   exact j 75 _ _ _ _ _ _ _ _ _ _ _ _ _ _ _ _ _ _ 196 ⟨by kernel_rfl,by kernel_rfl,methOk_of (by kernel_rfl) (by kernel_rfl) (by kernel_rfl) rfl (by kernel_rfl) (by kernel_rfl) (by kernel_rfl) (by kernel_rfl) (by kernel_rfl) (by kernel_rfl) (by kernel_rfl) (by kernel_rfl) (by kernel_rfl) (by kernel_rfl) (by kernel_rfl) (by decide) (by kernel_rfl) (by kernel_rfl),by kernel_rfl,⟨(74,70),by simp [kc,kcodes],by kernel_rfl⟩,
     ⟨rfl,rfl,by kernel_rfl,by kernel_rfl,by kernel_rfl,by decide,by decide⟩,by kernel_rfl,by kernel_rfl,by kernel_rfl⟩ (by kernel_rfl) (by kernel_rfl)
  have popFn:∀ P,FnAt kc (kfOf Challenge.cw_uy0008_01_holds.heap_198 P).In (fun _=>some (.ref 53)) "pop_from" (methD pw "pop_from") 53 (obOf (kfOf Challenge.cw_uy0008_01_holds.heap_198 P) 53) (fdOf (obOf (kfOf Challenge.cw_uy0008_01_holds.heap_198 P) 53)):=fun P=>fnAt_of (headOk P) ⟨by kernel_rfl,rfl,by kernel_rfl,by kernel_rfl,by kernel_rfl,by kernel_rfl,by kernel_rfl,by kernel_rfl,by kernel_rfl,by kernel_rfl,by kernel_rfl,by kernel_rfl,by kernel_rfl⟩
   (binds_all (names:=[("self":Str),("i":Str)]) (dv:=[.int 0 229]) (ds:=[.int 0]) (kwo:=[]) (by decide) (by kernel_rfl) (by kernel_rfl) (by kernel_rfl) (.cons (.int 0 229) .nil) (by kernel_rfl) (up1 fun S=>⟨fun v1=>by (change _=_;kernel_rfl),fun v1 v2=>by (change _=_;kernel_rfl)⟩) (fun _ _ _ _ z=>nomatch z))
  have HK:HF (kfOf Challenge.cw_uy0008_01_holds.heap_198):=
   ⟨headOk,fun P=>⟨headOk P,accAll P,lenTop P,genTop P,by kernel_rfl,by kernel_rfl,methsAll ⟨by kernel_rfl,by kernel_rfl,popFn P⟩,strTop P,fnsAll _ fnPlain fnBis P⟩,fun P=>fnPlain P "law" 205 (by simp [plainList])⟩
  have htab:∀ (P:Params),AllL (fun t=>(Challenge.cw_uy0008_01_holds.heap_198 P).lookup t=some (Mine.Internal.tabObj #[])) kc.tabs:=fun P=>by
   dsimp only [kc,kcodes,List.map_cons,List.map_nil]
   iterate 13 refine AllL.cons (by kernel_rfl) ?_
   exact AllL.nil
  clear headOk fnh bP bB supTop accTop supCls newTop lenTop accAll genTop fnPlain fnBis strTop popFn
  k_fill
  intro w s₀ s₁ mg mb G y fa o pm cd doc dV kV ho hd hcd hD hmg hg args vals as L hpre hlay hrd hwl hlo
  z_open y L KX ZH ZN ZT
  refine Ground.open G ?_
  intro T B D TE TW
  wrow_args hpre hlay hrd hwl hlo
  obtain ⟨hat,hsz⟩:=script_at L
  have htk:=script_toks L ZT
  rw [ZN] at hat hsz
  subst hat
  x_fa T KX hmg
  all_lens
  rename_i ns hs' h1 h2 h3 h4 a1 a2 vs a3 ra hr hc1 hc2 hL w1 r0 hi hb
  have hol:=script_obj L hL
  refine run_law1 HK w.params (l:=206) (ns:=ns) (items:=vs.toArray) (by omega) (kfOf_in KX) (fun t ht=>KX t _ ((htab w.params).mem ht)) (by rw [hsz];decide) hol hi hg fun s' o1 o2 o3=>?_
  exact ⟨.inl ⟨.bool true,.bool true,[],rfl,fun _=>rfl,.bool true,by kernel_rfl,fun _=>⟨.nil,fun a h=>(List.not_mem_nil h).elim⟩⟩,o1,o2,o3⟩
 case hl=>intro w;kernel_rfl
end
