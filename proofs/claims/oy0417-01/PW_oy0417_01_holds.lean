import PyProof.Rows.All
import Wide.All
import OpenK.AllK
import Wide.FinOn
import KE.BytesMake
import KE.KxDecode
import OpenK.KOwn
import KE.KLam
import KE.KNestM
import PySem.Challenge.RW_oy0417_01
set_option Elab.async false
set_option maxRecDepth 100000
set_option linter.all false
set_option genInjectivity false
set_option genSizeOfSpec false
set_option bootstrap.genMatcherCode false
set_option genSizeOf false
set_option genCtorIdx false
set_option tactic.hygienic false
set_option backward.match.sparseCases false
set_option compiler.extract_closed false
section
open PySem PySem.Calls PySem.Spec PyProof.Rows
namespace Internal
def NN:=@wpAny_bind
def NO:=@List.length_map
def NP:=@List.length_append
def NQ:=@wpAny_pure
def NR:=@List.length_cons
def NS:=@Heap.get?_push_of_some
def NT:=@Nat.le_trans
def NU:=@List.mem_cons
def NV:=@of_decide_eq_true
def NW:=@Option.some.inj
def NX:=@List.mem_singleton
def NY:=@if_neg
def NZ:=@Heap.get?_push_size
def N0:=@decide_eq_true
def N1:=@if_pos
def N2:=@congrArg
def N3:=@List.mem_cons_self
def N4:=@List.size_toArray
def N6:=@List.append_nil
def N7:=@Array.length_toList
def N8:=@Option.map_eq_some_iff
def N9:=@Nat.mul_le_mul_right
def N':=@Bool.false_ne_true
def Oa:=@List.mem_cons_of_mem
def Ob:=@List.all_eq_true
def Oc:=@Nat.zero_le
def Oe:=@Nat.le_refl
def Of:=@builtinLookup_eq_fast
def Og:=@List.getElem?_eq_some_iff
def Oh:=@Option.bind_eq_some_iff
def Oi:=@List.append_assoc
def Oj:=@List.mem_map
def Ol:=@beq_iff_eq
def Om:=@wpAny_holding
def On:=@Bool.or_eq_true_iff
def Oo:=@wpAny_of_eq
def Oq:=@Bool.and_eq_true_iff
def Os:=@decide_eq_false
def Ot:=@List.mem_append
def Ou:=@List.not_mem_nil
def Ov:=@List.filter_cons
def Ow:=@List.getElem?_append_left
def Ox:=@typeLookup_type
def Oy:=@Int.natCast_nonneg
def Oz:=@List.getElem?_eq_getElem
def OA:=@List.getD_eq_getElem?_getD
def OB:=@List.exists_cons_of_ne_nil
def OC:=@Nat.lt_of_lt_of_le
def OD:=@List.flatMap_cons
def OE:=@List.nodup_cons
def OF:=@List.map_cons
def OG:=@beq_false_of_ne
def OH:=@wpAny_mono
def OI:=@List.map_append
def OJ:=@List.mem_range
def OK:=@List.length_filter_le
def OL:=@List.length_range
def OM:=@Nat.zero_add
def ON:=@wpAny_standAt
def OO:=@Array.toList_append
end Internal
end
section
namespace Internal
@[elab_as_elim] theorem NJ.{u}{α:Sort u}{a:α}{P:α→Prop}{b:α}(h:a=b)(k:P b):P a:=h▸k
set_option compiler.extract_closed false in
def Cw:Lean.Syntax:=Lean.Unhygienic.run `(Lean.Parser.Tactic.tacticSeq| first | (simp +arith only;done) | (simp +arith;done))
set_option compiler.extract_closed false in
def CJ:Lean.Syntax:=Lean.Unhygienic.run `(Lean.Parser.Tactic.tacticSeq| kernel_rfl)
set_option compiler.extract_closed false in
def MY:Lean.Syntax:=Lean.Unhygienic.run `(Lean.Parser.Tactic.tacticSeq| intros;kernel_rfl)
set_option compiler.extract_closed false in
def Ni:Lean.Syntax:=Lean.Unhygienic.run `(Lean.Parser.Tactic.tacticSeq| exact Nat.ble_eq_true_of_le (by simp))
set_option compiler.extract_closed false in
def FE:Lean.Syntax:=Lean.Unhygienic.run `(Lean.Parser.Tactic.tacticSeq| exact rfl)
def kR{α:Sort _}{a b:α}(h:autoParam (a=b) Internal.CJ):a=b:=h
def kU{α:Sort _}{a b:α}(h:autoParam (a=b) Internal.FE):a=b:=h
def kD{p:Prop}[Decidable p](h:autoParam (decide p=true) Internal.FE):p:=NV h
def kE{p:Prop}[Decidable p](h:autoParam (decide p=true) Internal.CJ):p:=NV h
def eQ{a b:Nat}(H:autoParam (a≤b) Internal.Cw):a≤b:=H
def a8{a b c d:Nat}(h:c≤d)(H:autoParam (d+a≤c+b) Internal.Cw):a≤b:=Nat.le_of_add_le_add_left (NT H (Nat.add_le_add_right h b))
def bu{a b c d e f:Nat}(h:c≤d)(i:e≤f)(H:autoParam (d+f+a≤c+e+b) Internal.Cw):a≤b:=a8 (Nat.add_le_add h i) H
def ph{a b c d e f g k:Nat}(h:c≤d)(i:e≤f)(j:g≤k)(H:autoParam (d+f+k+a≤c+e+g+b) Internal.Cw):a≤b:=bu (Nat.add_le_add h i) j H
def Hj{a b c d e f g k m n:Nat}(h:c≤d)(i:e≤f)(j:g≤k)(l:m≤n)(H:autoParam (d+f+k+n+a≤c+e+g+m+b) Internal.Cw):a≤b:=ph (Nat.add_le_add h i) j l H
def dG{a b:Nat}(H:autoParam (a=b) Internal.Cw):a=b:=H
def lr{a b c d:Nat}(h:c=d)(H:autoParam (d+a=c+b) Internal.Cw):a=b:=Nat.add_left_cancel (H.trans (N2 (·+b) h))
def yD{a b c d e f:Nat}(h:c=d)(i:e=f)(H:autoParam (d+f+a=c+e+b) Internal.Cw):a=b:=lr (congr (N2 _ h) i) H
def JJ{c d:Nat}(h:c≤d)(H:autoParam (d+1≤c) Internal.Cw):False:=Nat.lt_irrefl _ (OC H h)
def JU{c d e f:Nat}(h:c≤d)(i:e≤f)(H:autoParam (d+f+1≤c+e) Internal.Cw):False:=JJ (Nat.add_le_add h i) H
def MG{c d e f g k:Nat}(h:c≤d)(i:e≤f)(j:g≤k)(H:autoParam (d+f+k+1≤c+e+g) Internal.Cw):False:=JU (Nat.add_le_add h i) j H
def aq{a b:Nat}(h:a=b):a≤b:=h▸Oe _
def ap{a b:Nat}(h:a=b):b≤a:=h▸Oe _
def al{a b:Nat}(h:¬a<b):b≤a:=Nat.not_lt.1 h
def am{a b:Nat}(h:¬a≤b):b<a:=Nat.not_le.1 h
def an{a b:Nat}(h:b≤a):¬a<b:=Nat.not_lt.2 h
def ao{a b:Nat}(h:b<a):¬a≤b:=Nat.not_le.2 h
def av{a b:Nat}(h:a<b):a≠b:=Nat.ne_of_lt h
def aw{a b:Nat}(h:b<a):a≠b:=Nat.ne_of_gt h
def aa{a b:Nat}(h:a≤b)(i:b≤a):a=b:=Nat.le_antisymm h i
def az{a b c:Nat}(h:a≤b)(H:autoParam (Nat.ble b c=true) Internal.FE):a≤c:=NT h (Nat.le_of_ble_eq_true H)
def ax{a b:Nat}(H:autoParam (Nat.ble a b=true) Internal.FE):a≤b:=Nat.le_of_ble_eq_true H
def ac{a b:Nat}(h:b≤a):a-b+b=a:=Nat.sub_add_cancel h
def ad{a b:Nat}(h:a≤b):a-b=0:=Nat.sub_eq_zero_of_le h
@[elab_as_elim] theorem qv{α:Type u}{P:List α→Prop}{l:List α}(h:l.length=1)(k:∀a,P [a]):P l:=by
 cases l with
 |nil=>exact nomatch h
 |cons a l=>cases l with
  |nil=>exact k a
  |cons b l=>exact absurd (Nat.succ.inj h) (Nat.succ_ne_zero _)
@[elab_as_elim] theorem uh{α:Type u}{P:List α→Prop}{l:List α}(h:l.length=2)(k:∀a b,P [a,b]):P l:=by
 cases l with
 |nil=>exact nomatch h
 |cons a l=>exact qv (P:=λl=>P (a::l)) (Nat.succ.inj h) (k a)
@[elab_as_elim] theorem g4{α:Type u}{P:List α→Prop}{l:List α}(h:l.length=3)(k:∀a b c,P [a,b,c]):P l:=by
 cases l with
 |nil=>exact nomatch h
 |cons a l=>exact uh (P:=λl=>P (a::l)) (Nat.succ.inj h) (k a)
def ye{P:Nat→Prop}:∀k,k<0→P k:=λk h=>absurd h (Nat.not_lt_zero k)
def cH{P:Nat→Prop}{n:Nat}(h:∀k,k<n→P k)(hn:P n)(k:Nat)(hk:k<n+1):P k:=(Nat.lt_or_eq_of_le (Nat.le_of_lt_succ hk)).elim (h k) λe=>e▸hn
section
variable{α:Sort u0}{β:Sort u1}{γ:Sort u2}{δ:Sort u3}{ε:Sort u4}{ζ:Sort u5}{G:Prop}{A1 A2 A3 A4 A5 A6 A7:Prop}{B1 B2 B3 B4 B5 B6 B7:α→Prop}{C1 C2 C3 C4 C5 C6 C7:α→β→Prop}{D1 D2 D3 D4 D5 D6 D7:α→β→γ→Prop}{E1 E2 E3 E4 E5 E6 E7:α→β→γ→δ→Prop}{F1 F2 F3 F4 F5 F6 F7:α→β→γ→δ→ε→Prop}{K1 K2 K3 K4 K5 K6 K7:α→β→γ→δ→ε→ζ→Prop}
def ak(x)(a1:B1 x)(r:B2 x):∃x,B1 x∧B2 x:=⟨x,a1,r⟩
def ay(h:∃x,B1 x∧B2 x)(k:∀x,B1 x→B2 x→G):G:=h.elim λx hx=>k x hx.1 hx.2
def aU(h:A1∧A2)(k:A1→A2→G):G:=k h.1 h.2
def aG(x)(y)(r:C1 x y):∃x y,C1 x y:=⟨x,y,r⟩
def a9(h:∃x,B1 x)(k:∀x,B1 x→G):G:=h.elim λx hx=>k x hx
def aP(h:∃x y,C1 x y∧C2 x y)(k:∀x y,C1 x y→C2 x y→G):G:=h.elim λx hx=>hx.elim λy hy=>k x y hy.1 hy.2
def aS(a1:A1)(a2:A2)(a3:A3)(r:A4):A1∧A2∧A3∧A4:=⟨a1,a2,a3,r⟩
def aV(x)(a1:B1 x)(a2:B2 x)(r:B3 x):∃x,B1 x∧B2 x∧B3 x:=⟨x,a1,a2,r⟩
def aN(x)(y)(a1:C1 x y)(a2:C2 x y)(r:C3 x y):∃x y,C1 x y∧C2 x y∧C3 x y:=⟨x,y,a1,a2,r⟩
def bV(h:A1∧A2∧A3)(k:A1→A2→A3→G):G:=k h.1 h.2.1 h.2.2
def ce(h:∃x y,C1 x y)(k:∀x y,C1 x y→G):G:=h.elim λx hx=>hx.elim λy hy=>k x y hy
def aH(x)(y)(z)(a1:D1 x y z)(a2:D2 x y z)(a3:D3 x y z)(r:D4 x y z):∃x y z,D1 x y z∧D2 x y z∧D3 x y z∧D4 x y z:=⟨x,y,z,a1,a2,a3,r⟩
def aJ(x)(y)(a1:C1 x y)(a2:C2 x y)(a3:C3 x y)(a4:C4 x y)(r:C5 x y):∃x y,C1 x y∧C2 x y∧C3 x y∧C4 x y∧C5 x y:=⟨x,y,a1,a2,a3,a4,r⟩
def a5(h:∃x y z,D1 x y z∧D2 x y z)(k:∀x y z,D1 x y z→D2 x y z→G):G:=h.elim λx hx=>hx.elim λy hy=>hy.elim λz hz=>k x y z hz.1 hz.2
def bD(h:A1∧A2∧A3∧A4)(k:A1→A2→A3→A4→G):G:=k h.1 h.2.1 h.2.2.1 h.2.2.2
def bh(h:∃x y z u,E1 x y z u)(k:∀x y z u,E1 x y z u→G):G:=h.elim λx hx=>hx.elim λy hy=>hy.elim λz hz=>hz.elim λu hu=>k x y z u hu
def bl(h:∃x y z u,E1 x y z u∧E2 x y z u)(k:∀x y z u,E1 x y z u→E2 x y z u→G):G:=h.elim λx hx=>hx.elim λy hy=>hy.elim λz hz=>hz.elim λu hu=>k x y z u hu.1 hu.2
def bS(x)(a1:B1 x)(a2:B2 x)(y)(r:C1 x y):∃x,B1 x∧B2 x∧∃y,C1 x y:=⟨x,a1,a2,y,r⟩
def bY(a1:A1)(a2:A2)(a3:A3)(a4:A4)(r:A5):A1∧A2∧A3∧A4∧A5:=⟨a1,a2,a3,a4,r⟩
def cb(x)(a1:B1 x)(a2:B2 x)(a3:B3 x)(r:B4 x):∃x,B1 x∧B2 x∧B3 x∧B4 x:=⟨x,a1,a2,a3,r⟩
def cA(h:∃x y,C1 x y∧C2 x y∧C3 x y)(k:∀x y,C1 x y→C2 x y→C3 x y→G):G:=h.elim λx hx=>hx.elim λy hy=>k x y hy.1 hy.2.1 hy.2.2
def c9(h:∃x,B1 x∧B2 x∧B3 x)(k:∀x,B1 x→B2 x→B3 x→G):G:=h.elim λx hx=>k x hx.1 hx.2.1 hx.2.2
def bL(x)(y)(a1:C1 x y)(a2:C2 x y)(a3:C3 x y)(r:C4 x y):∃x y,C1 x y∧C2 x y∧C3 x y∧C4 x y:=⟨x,y,a1,a2,a3,r⟩
def dC(a1:A1)(x)(a2:B1 x)(r:B2 x):A1∧∃x,B1 x∧B2 x:=⟨a1,x,a2,r⟩
def dK(a1:A1)(a2:A2)(x)(a3:B1 x)(r:B2 x):A1∧A2∧∃x,B1 x∧B2 x:=⟨a1,a2,x,a3,r⟩
def fw(x)(y)(a1:C1 x y)(r:C2 x y):∃x y,C1 x y∧C2 x y:=⟨x,y,a1,r⟩
def cT(h:A1∧A2∧∃x y,C1 x y∧C2 x y)(k:A1→A2→∀x y,C1 x y→C2 x y→G):G:=h.2.2.elim λx hx=>hx.elim λy hy=>k h.1 h.2.1 x y hy.1 hy.2
def dO(h:A1∧A2∧A3∧A4∧A5)(k:A1→A2→A3→A4→A5→G):G:=k h.1 h.2.1 h.2.2.1 h.2.2.2.1 h.2.2.2.2
def cD(h:∃x y z,D1 x y z∧D2 x y z∧D3 x y z∧D4 x y z)(k:∀x y z,D1 x y z→D2 x y z→D3 x y z→D4 x y z→G):G:=h.elim λx hx=>hx.elim λy hy=>hy.elim λz hz=>k x y z hz.1 hz.2.1 hz.2.2.1 hz.2.2.2
def dp(a1:A1)(a2:A2)(x)(y)(a3:C1 x y)(r:C2 x y):A1∧A2∧∃x y,C1 x y∧C2 x y:=⟨a1,a2,x,y,a3,r⟩
def fN(h:A1∧A2∧∃x,B1 x∧B2 x)(k:A1→A2→∀x,B1 x→B2 x→G):G:=h.2.2.elim λx hx=>k h.1 h.2.1 x hx.1 hx.2
def j7(h:A1∧∃x,B1 x∧B2 x)(k:A1→∀x,B1 x→B2 x→G):G:=h.2.elim λx hx=>k h.1 x hx.1 hx.2
end
def dv{k q r:Nat}(h:r<k):(q*k+r)/k=q:=by
 rw[Nat.mul_comm,Nat.mul_add_div (Nat.zero_lt_of_lt h),Nat.div_eq_of_lt h,Nat.add_zero]
def mv{k q r:Nat}(h:r<k):(q*k+r)%k=r:=by
 rw[Nat.mul_comm,Nat.mul_add_mod,Nat.mod_eq_of_lt h]
def GB{N k u v r:Nat}(h:N=(u*64+v)*k+r)(hr:r<k)(hv:v<64):N/k%64=v:=by
 rw[h,dv hr,mv hv]
def qU{n k m:Nat}(h:n<k*m):n/k<m:=Nat.div_lt_of_lt_mul h
def I4{a b c:Nat}(ha:a<256)(hb:b<256)(hc:c<256):a/4<64∧a%4*16+b/16<64∧b%16*4+c/64<64∧c%64<64:=
 ⟨qU ha,(by
  have h1:a%4≤3:=Nat.le_of_lt_succ (Nat.mod_lt a kD);have h2:b/16≤15:=Nat.le_of_lt_succ (qU hb);exact Nat.lt_succ_of_le (Nat.add_le_add (N9 16 h1) h2)),(by
  have h1:b%16≤15:=Nat.le_of_lt_succ (Nat.mod_lt b kD);have h2:c/64≤3:=Nat.le_of_lt_succ (qU hc);exact Nat.lt_succ_of_le (Nat.add_le_add (N9 4 h1) h2)),Nat.mod_lt c kD⟩
def Mz{a b c d e f:Nat}(h2:b<4)(h3:c<16)(h4:d<16)(h5:e<4)(h6:f<64)(i1:a<64)(i2:b*16+c<64)(i3:d*4+e<64):
  (((a*4+b)*65536+(c*16+d)*256+(e*64+f))/262144%64=a∧((a*4+b)*65536+(c*16+d)*256+(e*64+f))/4096%64=b*16+c∧((a*4+b)*65536+(c*16+d)*256+(e*64+f))/64%64=d*4+e∧((a*4+b)*65536+(c*16+d)*256+(e*64+f))/1%64=f) ∧
  ((a*4+b)/4%64=a∧((a*4+b)*256+(c*16+d))/16%64=b*16+c∧((c*16+d)*256+(e*64+f))/64%64=d*4+e∧((c*16+d)*256+(e*64+f))/1%64=f) ∧
  a*4+(b*16+c)/16=a*4+b∧(b*16+c)%16*16+(d*4+e)/4=c*16+d∧(d*4+e)%4*64+f=e*64+f:=by
 have k1:(c*16+d)*256+(e*64+f)<65536:=Hj (N9 4096 h3) (N9 256 h4) (N9 64 h5) h6;have k2:b*65536+((c*16+d)*256+(e*64+f))<262144:=bu (N9 65536 h2) k1;have k3:d*256+(e*64+f)<4096:=ph (N9 256 h4) (N9 64 h5) h6;refine⟨⟨GB (u:=0) (r:=b*65536+((c*16+d)*256+(e*64+f))) dG k2 i1,GB (u:=a) (r:=d*256+(e*64+f)) dG k3 i2,GB (u:=a*64+b*16+c) dG h6 i3,GB (u:=a*4096+b*1024+c*64+d*4+e) (r:=0) dG kD h6⟩,⟨GB (u:=0) dG h2 i1,GB (u:=a) dG h4 i2,GB (u:=c) dG h6 i3,GB (u:=c*64+d*4+e) (r:=0) dG kD h6⟩,?_,?_,?_⟩
 ·rw[dv h3]
 ·rw[mv h3,dv h5]
 ·rw[mv h5]
def Mt{a b c:Nat}(ha:a<256)(hb:b<256)(hc:c<256):
  ((a*65536+b*256+c)/262144%64=a/4∧(a*65536+b*256+c)/4096%64=a%4*16+b/16∧(a*65536+b*256+c)/64%64=b%16*4+c/64∧(a*65536+b*256+c)/1%64=c%64) ∧
  (a/4%64=a/4∧(a*256+b)/16%64=a%4*16+b/16∧(b*256+c)/64%64=b%16*4+c/64∧(b*256+c)/1%64=c%64) ∧
  a/4*4+(a%4*16+b/16)/16=a∧(a%4*16+b/16)%16*16+(b%16*4+c/64)/4=b∧(b%16*4+c/64)%4*64+c%64=c:=by
 have l:=I4 ha hb hc;have h:=Mz (Nat.mod_lt a kD) (qU (k:=16) hb) (Nat.mod_lt b kD) (qU (k:=64) hc) (Nat.mod_lt c kD) l.1 l.2.1 l.2.2.1;rw[Nat.div_add_mod' a 4,Nat.div_add_mod' b 16,Nat.div_add_mod' c 64] at h;exact h
theorem IU(n:Nat):((-1:Int)+((n+1:Nat):Int)).toNat=n:=by lia
def JB(n k:Nat):((n+k:Nat):Int)-(k:Int)=n:=Int.add_sub_cancel (n:Int) k
def M1{a b c:Nat}(ha:a<256)(hb:b<256)(hc:c<256):(0*256+a)%65536=a∧(a*256+b)%65536=a*256+b∧((a*256+b)*256+c)%65536=b*256+c:=
 have h (x y:Nat) (hx:x<256) (hy:y<256):x*256+y<65536:=bu (N9 256 hx) hy
 ⟨mv (q:=0) (k:=65536) (OC ha kD),Nat.mod_eq_of_lt (h a b ha hb),(N2 (· % 65536) (dG:(a*256+b)*256+c=a*65536+(b*256+c))).trans (mv (h b c hb hc))⟩
end Internal
end
section
open PySem PySem.W PyProof.Rows
namespace Internal
noncomputable def q:Program:=view PySem.Challenge.pw_oy0417_01 [0,1,3,4,5,6,7,8,9,10,11,12,14,15,17,18,19,20,21,22,29,30,31,32,33,35,36,37,38,39,40,41,42,43,44,45,46]
noncomputable def loose:List Str:=[Str.ofString "_twin_re_7",Str.ofString "HEADER_TOKEN_RE",Str.ofString "HEADER_QUOTED_VALUE_RE",Str.ofString "HEADER_VALUE_RE",Str.ofString "HEADER_ESCAPE_RE",Str.ofString "HEADER_JOIN_TOKEN_RE",Str.ofString "HEADER_JOIN_ESCAPE_RE",Str.ofString "bytes_types",Str.ofString "a2b_base64",Str.ofString "b2a_base64",Str.ofString "b64encode",Str.ofString "b64decode",Str.ofString "_NodeInfo"]
end Internal
end
section
open PySem PySem.W PyProof.Rows
set_option maxHeartbeats 0
namespace Internal
def GO:PySem.Challenge.rw_oy0417_01.wellSaid=true:=kR
def G2(h:PySem.Challenge.rw_oy0417_01.row.Holds):PySem.Challenge.rw_oy0417_01.Holds:=by
 w_on
 exact holds_law GO λ_=>h
end Internal
end
section
open PySem PySem.W PyProof.Rows
set_option maxHeartbeats 0
namespace Internal
noncomputable abbrev pT:Program:=PySem.Challenge.pw_oy0417_01
noncomputable def ends(w:World):Option Shared:=
 ((PySem.W.Fast.tw10274390034422433532 PySem.W.Fast.tw14364793385576792824 (opening pT) w 5336 (PySem.W.Fast.tw1435165496053646825 (opening pT)).1 (PySem.W.Fast.tw1435165496053646825 (opening pT)).2).bind (PySem.W.Fast.tw14289696077712309145 pT)).bind λO5=>
  match O5.heap.isNs mainGlobals&&O5.gens.size==0 with
 |true=>(PySem.W.Fast.tw14082659384304107361 PySem.W.Fast.tw14364793385576792824 pT w O5.heap.objs.size (O5.heap.nsMap mainGlobals "__annotations__") 5336 O5 (topStub pT)).bind λOP=>match staticsOk (importedModules pT.main.body) O5.heap OP.heap&&namesBound pT OP.heap&&gensDone OP&&laidKept O5.heap OP.heap with
   |true=>some OP
   |false=>none
 |false=>none
def Dl(w:World):openEnds treeTable PySem.Challenge.pw_oy0417_01 w 5336=ends w:=by
 unfold openEnds ends fencedOpening topFrom pT;rw[PySem.W.Fast.te10274390034422433532,PySem.W.Fast.te14364793385576792824,PySem.W.Fast.te1435165496053646825,PySem.W.Fast.te14289696077712309145,PySem.W.Fast.te14082659384304107361];rfl
noncomputable def qT:Program:=view pT [0,1,3,4,5,6,7,8,9,10,11,12,14,15,17,18,19,20,21,22,29,30,31,32,33,35,36,37,38,39,40,41,42,43,44,45,46]
def MU:q=qT:=rfl
noncomputable abbrev xt(q:Program):Shared→Bool:=λs=>xlAt q [] s&&recOk (RowW.records PySem.Challenge.rw_oy0417_01.row.toRowW) s
def left{α:Type}{Yf:Shared→α}{Ya:World→α}(h:∀w,(ends w).map (λs=>(PySem.W.Fast.tw4187177175401517315 qT loose (importedModules pT.main.body) (xt qT) true s,Yf s))=some (openGood qT loose,Ya w)):
  LeftO PySem.Challenge.rw_oy0417_01.row.prog q loose (xt q) Yf Ya 5336:=by
 intro w;have h:=h w;rw[← Dl w,← PySem.W.Fast.te4187177175401517315,← MU] at h;exact h
def JM{H:Hook}{d:DefRec}{Xr:List (Str×Expr)}(hw:PySem.Challenge.rw_oy0417_01.row.promised)(hc:WalkO q loose (XL q []) H.says PySem.Challenge.rw_oy0417_01.row.toRowW d Xr λf vs=>call f vs)(h:autoParam (∀w,(ends w).map (λs=>(PySem.W.Fast.tw4187177175401517315 qT loose (importedModules pT.main.body) (xt qT) true s,H.obs s))=some (openGood qT loose,H.val w)) MY)(h1:autoParam (defOf q PySem.Challenge.rw_oy0417_01.row.name=some (d,Xr)) FE)(h2:autoParam (PySem.Challenge.rw_oy0417_01.row.prog.theDef PySem.Challenge.rw_oy0417_01.row.name=some (d.params,d.body,d.scope)) FE)(h3:autoParam (kwWritten? d.params.kwonlyargs d.params.kw_defaults=some Xr) FE):PySem.Challenge.rw_oy0417_01.row.Holds:=
 W.holds_open (left h) H.of H.keeps (λs e=>xl_of s (Oq.mp e).1) XL.keeps h1 h2 h3 (λs e=>recFacts_of (Oq.mp e).2) (by rfl) (row_said GO) kE ⟨rfl,rfl,rfl,rfl,rfl,kE⟩ hw hc
end Internal
local macro_rules | `(tactic| o_head $H)=>`(tactic| refine Internal.JM (H:=$H) ?hw ?hc)
local macro_rules | `(tactic| o_law)=>`(tactic| refine Internal.G2 ?_)
namespace Internal
open_top hd for PySem.Challenge.rw_oy0417_01
end Internal
end
local macro_rules
 | `(tactic| rewrite [$r:term]) => `(tactic| first | refine Internal.NJ ($r ..) ?_ | rewrite +offsetCnstrs [$r:term])
 | `(tactic| rewrite [$x, $y,*]) => `(tactic| rewrite [$x] <;> rewrite [$y,*])
section
open PySem
noncomputable section
namespace Internal.Rx
open Sre (M)
noncomputable def it:Nat→M→M
 |0,m=>m
 |n+1,m=>it n m.step
def q9{m:M}(h:m.outcome.isSome=true):m.step=m:=by unfold M.step;rw[N1 h]
def qk{m:M}(h:m.outcome.isSome=true):∀n,it n m=m:=by
 intro n;induction n with
 |zero=>
  exact rfl
 |succ n ihr=>
  show it n m.step=m;rw[q9 h];exact ihr
theorem m7(m:M):∀a b,it (a+b) m=it b (it a m)
 |0,b=>by rw[OM];rfl
 |a+1,b=>by rw[Nat.succ_add];exact m7 m.step a b
def xM:∀(n:Nat)(m:M),m.runFor n=it n m:=by
 intro n;induction n with
 |zero=>
  exact λ_=>rfl
 |succ n ihr=>
  intro m;show(if m.outcome.isSome then m else M.runFor n m.step)=it n m.step;by_cases h:m.outcome.isSome=true
  ·rw[N1 h,q9 h,qk h n]
  ·rw[NY h];exact ihr _
def Ru(b:Nat)(m:M)(Φ:M→Prop):Prop:=∃k,k≤b∧Φ (it k m)
def Ru.done{m:M}{Φ:M→Prop}(h:Φ m)(b:Nat):Ru b m Φ:=ak 0 (Oc _) h
theorem Ru.step{b:Nat}{m m':M}{Φ:M→Prop}(e:m.step=m')(h:Ru b m' Φ):Ru (b+1) m Φ:=h.imp' (·+1) λk q=>⟨Nat.succ_le_succ q.1,by show Φ (it k m.step);rw[e];exact q.2⟩
theorem Ru.le{a b:Nat}{m:M}{Φ:M→Prop}(h:Ru a m Φ)(le:a≤b):Ru b m Φ:=h.imp λk q=>⟨NT q.1 le,q.2⟩
structure Cf where
 C:Array Nat
 T:Array Nat
 L:Nat
 ls:Nat
 wh:Bool
structure Mk where
 ms:Array (Option Nat)
 lm:Int:=-1
 li:Int:=-1
 lo:Array Sre.Loop:=#[]
 inn:Option Nat:=none
noncomputable abbrev Cf.m(c:Cf)(st:Nat)(mu:Bool)(pc pos hd:Nat)(om:Bool)(k:Mk)(fr:List Sre.Frame)(w:Nat)(an:Option Bool)(se:Sre.Seen)(out:Option Sre.Outcome:=none):M:=
 ⟨c.C,c.T,c.L,st,c.ls,c.wh,mu,pc,pos,hd,om,k.ms,k.lm,k.li,k.lo,k.inn,fr,w,an,se,out⟩
section
variable{c:Cf}{st pc pos hd w b n:Nat}{mu om:Bool}{k:Mk}{fr:List Sre.Frame}{se Qj:Sre.Seen}{Φ:M→Prop}
def dR(P9:pc<c.C.size){m':M}(e:(c.m st mu pc pos hd om k fr w none se).exec=m')(h:Ru b m' Φ):Ru (b+1) (c.m st mu pc pos hd om k fr w none se) Φ:=
 .step (by show(if pc<c.C.size then(c.m st mu pc pos hd om k fr w none se).exec else _)=_;rw[N1 P9];exact e) h
def cH{a b:Nat}(h:Nat.ble (a+1) b=true):a<b:=Nat.le_of_ble_eq_true h
def dZ{a b:Nat}(h:Nat.ble a b=true):a≤b:=Nat.le_of_ble_eq_true h
def m5(P9:Nat.ble (pc+1) c.C.size=true)(e:(c.m st mu pc 0 hd om k fr w none se).exec=c.m st mu (pc+2) 0 hd om k fr w none ((se.add 6).add 43))(h:∀se,Ru b (c.m st mu (pc+2) 0 hd om k fr w none se) Φ):Ru (b+1) (c.m st mu pc 0 hd om k fr w none se) Φ:=dR (cH P9) e (h _)
def dN(k':Mk)(P9:Nat.ble (pc+1) c.C.size=true)(e:(c.m st mu pc pos hd om k fr w none se).exec=c.m st mu (pc+2) pos hd om k' fr w none (se.add 17))(h:∀se,Ru b (c.m st mu (pc+2) pos hd om k' fr w none se) Φ):Ru (b+1) (c.m st mu pc pos hd om k fr w none se) Φ:=dR (cH P9) e (h _)
def AZ{Ro:M}(P9:Nat.ble (pc+1) c.C.size=true)(e:(c.m st mu pc pos hd om k fr w none se).exec=if(pos==0)=true then Ro else c.m st mu pc pos hd om k fr w (some false) ((se.add 6).add 43))(h0:pos≠0)(h:∀se,Ru b (c.m st mu pc pos hd om k fr w (some false) se) Φ):Ru (b+1) (c.m st mu pc pos hd om k fr w none se) Φ:=
 dR (cH P9) (e.trans (NY λq=>h0 (Ol.mp q))) (h _)
noncomputable def Be(n:Nat)(m:M):M:=if m.pos≥m.lim then m.say false else match Sre.accepts m.code m.pc (m.text.getD m.pos 0) m.seen with
 |.error why=>m.stick why
 |.ok (false,seen)=>{m with seen}.say false
 |.ok (true,seen)=>{m with seen,pc:=m.pc+n,pos:=m.pos+1}
def Acc(C:Array Nat)(i:Nat)(f:Nat→Bool):Prop:=∀x se,∃Qj,Sre.accepts C i x se=.ok (f x,Qj)
def Fc{C T:Array Nat}{i:Nat}{f:Nat→Bool}(hA:Acc C i f):∀(k n p P7:Nat)(se:Sre.Seen),k≤n→(∀j,j<k→f (T.getD (p+j) 0)=true)→(k<n→f (T.getD (p+k) 0)=false)→∃Qj,Sre.run C T i n p P7 se=.ok (P7+k,Qj):=by
 intro k;induction k with
 |zero=>
  intro n p P7 se _ _ h;cases n with
  |zero=>exact⟨se,rfl⟩
  |succ n=>
   refine(hA (T.getD p 0) se).elim λQj e=>⟨Qj,?_⟩;have h:=h (Nat.succ_pos n);rw[Nat.add_zero] at h;rw[h] at e;show(Sre.accepts C i (T.getD p 0) se>>=λx=>_)=_;rw[e];rfl
 |succ k ih=>
  intro n p P7 se hk ha hn;cases n with
  |zero=>exact absurd hk (Nat.not_succ_le_zero k)
  |succ n=>
   refine(hA (T.getD p 0) se).elim λQj e=>?_;have h0:=ha 0 (Nat.succ_pos k);rw[Nat.add_zero] at h0;rw[h0] at e;refine(ih n (p+1) (P7+1) Qj (Nat.le_of_succ_le_succ hk) (λj hj=>by rw[Nat.add_assoc,Nat.add_comm 1 j];exact ha (j+1) (Nat.succ_lt_succ hj)) λSg=>by rw[Nat.add_assoc,Nat.add_comm 1 k];exact hn (Nat.succ_lt_succ Sg)).imp λWe e2=>?_;show(Sre.accepts C i (T.getD p 0) se>>=λx=>_)=_;rw[e];show Sre.run C T i n (p+1) (P7+1) Qj=_;rw[e2,Nat.add_assoc,Nat.add_comm 1 k]
def fP{f:Nat→Bool}(n o:Nat)(hA:Acc c.C pc f)(P9:Nat.ble (pc+1) c.C.size=true)(e:(c.m st mu pc pos hd om k fr w none se).exec=Be n (c.m st mu pc pos hd om k fr w none (se.add o)))(hl:pos<c.L)(ht:f (c.T.getD pos 0)=true)(h:∀se,Ru b (c.m st mu (pc+n) (pos+1) hd om k fr w none se) Φ):Ru (b+1) (c.m st mu pc pos hd om k fr w none se) Φ:=by
 refine a9 (hA (c.T.getD pos 0) (se.add o)) λWe e2=>?_;rw[ht] at e2;refine dR (cH P9) (e.trans ?_) (h We);unfold Be;rw[NY (Nat.not_le.mpr hl),e2]
def eZ{f:Nat→Bool}(n o:Nat)(hA:Acc c.C pc f)(P9:Nat.ble (pc+1) c.C.size=true)(e:(c.m st mu pc pos hd om k fr w none se).exec=Be n (c.m st mu pc pos hd om k fr w none (se.add o)))(ht:pos<c.L→f (c.T.getD pos 0)=false)(h:∀se,Ru b (c.m st mu pc pos hd om k fr w (some false) se) Φ):Ru (b+1) (c.m st mu pc pos hd om k fr w none se) Φ:=by
 by_cases hl:c.L≤pos
 ·refine dR (cH P9) (e.trans ?_) (h (se.add o));unfold Be;rw[N1 hl];rfl
 ·refine a9 (hA (c.T.getD pos 0) (se.add o)) λWe e2=>?_;rw[ht (Nat.not_le.mp hl)] at e2;refine dR (cH P9) (e.trans ?_) (h We);unfold Be;rw[NY hl,e2];rfl
noncomputable def iX(least:Nat)(m:M)(se:Sre.Seen):M:=if(least:Int)>(m.lim:Int)-m.pos then m.say false else match Sre.run m.code m.text (m.pc+4) (min 4294967295 ((m.lim:Int)-m.pos).toNat) m.pos 0 se with
 |.error why=>m.stick why
 |.ok (n,seen)=>if n<least then{m with seen}.say false else{m with seen,pos:=m.pos+n}.afterRun .giveBack n (m.keep m.inner.isSome)
noncomputable def kp(k:Mk)(wh:Bool):Sre.Kept:={lastmark:=k.lm,lastindex:=k.li,whole:=wh,marks:=if wh then k.ms.extract 0 (k.lm+1).toNat else #[]}
noncomputable abbrev gb(pc pos:Nat)(om:Bool)(n:Nat)(k:Mk):Sre.Frame:={wait:=.giveBack,pc:=pc,pos:=pos,outermost:=om,count:=n,kept:=kp k k.inn.isSome}
theorem w6{f:Nat→Bool}{n:Nat}(hA:Acc c.C (pc+4) f)(hL:pos+n≤c.L)(hb:c.L≤4294967295)(ha:∀j,j<n→f (c.T.getD (pos+j) 0)=true)(hn:pos+n<c.L→f (c.T.getD (pos+n) 0)=false)(se:Sre.Seen):
  ∃Qj,Sre.run c.C c.T (pc+4) (min 4294967295 ((c.L:Int)-pos).toNat) pos 0 se=.ok (n,Qj):=by
 rw[Int.toNat_sub,Nat.min_eq_right (NT (Nat.sub_le _ _) hb)];refine a9 (Fc (T:=c.T) hA n (c.L-pos) pos 0 se (bu hL (ap (ac (b:=pos) (a:=c.L) (a8 hL)))) ha λPo=>hn (bu Po (aq (ac (b:=pos) (a:=c.L) (a8 hL))))) λQj e=>?_;rw[OM] at e;exact⟨Qj,e⟩
def acm{f:Nat→Bool}{n sk least:Nat}(hA:Acc c.C (pc+4) f)(P9:Nat.ble (pc+1) c.C.size=true)(e:(c.m st mu pc pos hd om k fr w none se).exec=iX least (c.m st mu pc pos hd om k fr w none (se.add 24)) ((se.add 24).add (c.C.getD (pc+4) 0)))(h1:c.C.getD (pc+1) 0=sk)(hL:pos+n≤c.L)(hb:c.L≤4294967295)(ha:∀j,j<n→f (c.T.getD (pos+j) 0)=true)(hn:pos+n<c.L→f (c.T.getD (pos+n) 0)=false)(Q3:least≤n)(hw:w+1+(kp k k.inn.isSome).marks.size≤16777216)(h:∀se,Ru b (c.m st mu (pc+1+sk) (pos+n) (pos+n) om k (gb pc (pos+n) om n k::fr) (w+1+(kp k k.inn.isSome).marks.size) none se) Φ):Ru (b+1) (c.m st mu pc pos hd om k fr w none se) Φ:=by
 refine a9 (w6 hA hL hb ha hn ((se.add 24).add (c.C.getD (pc+4) 0))) λQj e2=>?_;subst h1;refine dR (cH P9) (e.trans ?_) (h Qj);unfold iX;rw[NY (show ¬(least:Int)>(c.L:Int)-pos from Int.not_lt.mpr (Int.le_sub_right_of_add_le (Int.ofNat_le.mpr (bu Q3 hL:least+pos≤c.L)))),e2];exact(NY (Nat.not_lt.mpr Q3)).trans (NY (Nat.not_lt.mpr hw))
def vz(h:k.inn.isSome=false):(kp k k.inn.isSome).marks.size=0:=by rw[h];rfl
def cJ{f:Nat→Bool}{n sk least:Nat}(hA:Acc c.C (pc+4) f)(P9:Nat.ble (pc+1) c.C.size=true)(e:(c.m st mu pc pos hd om k fr w none se).exec=iX least (c.m st mu pc pos hd om k fr w none (se.add 24)) ((se.add 24).add (c.C.getD (pc+4) 0)))(h1:c.C.getD (pc+1) 0=sk)(hL:pos+n≤c.L)(hb:c.L≤4294967295)(ha:∀j,j<n→f (c.T.getD (pos+j) 0)=true)(hn:pos+n<c.L→f (c.T.getD (pos+n) 0)=false)(Q3:least≤n)(hk:k.inn.isSome=false)(hw:Nat.ble (w+1) 1000=true)(h:∀se,Ru b (c.m st mu (pc+1+sk) (pos+n) (pos+n) om k (gb pc (pos+n) om n k::fr) (w+1) none se) Φ):Ru (b+1) (c.m st mu pc pos hd om k fr w none se) Φ:=
 acm hA P9 e h1 hL hb ha hn Q3 (by rw[vz hk];have:=dZ hw;exact az this) λse=>by rw[vz hk];exact h se
def pB{f:Nat→Bool}{n least:Nat}(hA:Acc c.C (pc+4) f)(P9:Nat.ble (pc+1) c.C.size=true)(e:(c.m st mu pc pos hd om k fr w none se).exec=iX least (c.m st mu pc pos hd om k fr w none (se.add 24)) ((se.add 24).add (c.C.getD (pc+4) 0)))(hL:pos+n≤c.L)(hb:c.L≤4294967295)(ha:∀j,j<n→f (c.T.getD (pos+j) 0)=true)(hn:pos+n<c.L→f (c.T.getD (pos+n) 0)=false)(Q3:n<least)(h:∀se,Ru b (c.m st mu pc pos hd om k fr w (some false) se) Φ):Ru (b+1) (c.m st mu pc pos hd om k fr w none se) Φ:=by
 by_cases hr:(least:Int)>(c.L:Int)-pos
 ·exact dR (cH P9) (e.trans (N1 hr)) (h (se.add 24))
 refine a9 (w6 hA hL hb ha hn ((se.add 24).add (c.C.getD (pc+4) 0))) λQj e2=>dR (cH P9) (e.trans ?_) (h Qj);unfold iX;rw[NY hr,e2];exact N1 Q3
noncomputable def Lz(m:M):M:=if(m.outermost&&((m.wholeText&&m.pos !=m.lim)||(m.mustAdvance&&m.pos==m.start)))=true then m.say false else{m with handed:=m.pos}.say true
def dw(P9:Nat.ble (pc+1) c.C.size=true)(e:(c.m st mu pc pos hd om k fr w none se).exec=Lz (c.m st mu pc pos hd om k fr w none (se.add 1)))(Xl:c.wh=false∨pos=c.L)(W2:mu=false∨pos≠st)(h:∀se,Ru b (c.m st mu pc pos pos om k fr w (some true) se) Φ):Ru (b+1) (c.m st mu pc pos hd om k fr w none se) Φ:=by
 refine dR (cH P9) (e.trans (NY λx=>?_)) (h (se.add 1));have x:=Oq.mp x;rcases On.mp x.2 with y | y
 ·have y:=Oq.mp y;rcases Xl with e | e
  ·exact absurd (e.symm.trans y.1) N'
  ·exact bne_iff_ne.mp y.2 e
 ·have y:=Oq.mp y;rcases W2 with e | e
  ·exact absurd (e.symm.trans y.1) N'
  ·exact e (Ol.mp y.2)
def je(P9:Nat.ble (pc+1) c.C.size=true)(e:(c.m st mu pc pos hd om k fr w none se).exec=Lz (c.m st mu pc pos hd om k fr w none (se.add 1)))(Xl:c.wh=true)(hp:pos≠c.L)(hom:om=true)(h:∀se,Ru b (c.m st mu pc pos hd om k fr w (some false) se) Φ):Ru (b+1) (c.m st mu pc pos hd om k fr w none se) Φ:=
 dR (cH P9) (e.trans (N1 (Oq.mpr ⟨hom,On.mpr (.inl (Oq.mpr ⟨Xl,bne_iff_ne.mpr hp⟩))⟩))) (h (se.add 1))
noncomputable abbrev ns(pc s:Nat)(om:Bool):Sre.Frame:={wait:=.nextStart,pc:=pc,pos:=s,outermost:=om}
def Ej(f:Sre.Frame):Prop:=f.wait=.nextStart∨f.wait=.giveBack∨f.wait=.closeLoop∨f.wait=.maxMore∨f.wait=.maxTail
noncomputable def sU:List Sre.Frame→Prop
 |[]=>True
 |f::r=>Ej f∧sU r
structure Fin(st hd:Nat)(ms:Array (Option Nat))(lm li:Int)(m:M):Prop where
 out:m.outcome=some .matched
 st:m.start=st
 hd:m.handed=hd
 ms:m.marks=ms
 lm:m.lastmark=lm
 li:m.lastindex=li
def gF:∀{fr:List Sre.Frame}{pc pos w:Nat}{mu om:Bool}{k:Mk},sU fr→Ru (fr.length+1) (c.m st mu pc pos hd om k fr w (some true) se) (Fin st hd k.ms k.lm k.li):=by
 intro fr;induction fr with
 |nil=>
  intro _ _ _ _ _ _ _;exact .step rfl (.done ⟨rfl,rfl,rfl,rfl,rfl,rfl⟩ 0)
 |cons f fr ihr=>
  intro _ _ _ _ _ _ h;obtain⟨wait,Pc,PJ,Pz,count,kept,loop,began⟩:=f;have r:=λ{pc pos w mu om k}=>ihr (pc:=pc) (pos:=pos) (w:=w) (mu:=mu) (om:=om) (k:=k) h.2;rcases h.1 with q | q | q | q | q<;>cases q
  ·exact .step rfl r
  ·exact .step rfl r
  ·exact .step rfl (r (k:=⟨_,_,_,_,_⟩))
  ·exact .step rfl (r (k:=⟨_,_,_,_,_⟩))
  ·exact .step rfl (r (k:=⟨_,_,_,_,_⟩))
def pS{pc pos n:Nat}{om:Bool}{k:Mk}(h:k.inn=none):gb pc pos om n k={wait:=.giveBack,pc:=pc,pos:=pos,outermost:=om,count:=n,kept:={lastmark:=k.lm,lastindex:=k.li,whole:=false,marks:=#[]}}:=by unfold gb;rw[h];rfl
def d9{Pc PJ n:Nat}{Pz:Bool}{PT:Mk}(hn:c.C.getD (Pc+2) 0=n)(h0:PT.inn=none)(h:Ru b (c.m st mu Pc PJ hd Pz {k with lm:=PT.lm,li:=PT.li} fr (w-1) (some false) se) Φ):
  Ru (b+1) (c.m st mu pc pos hd om k (gb Pc PJ Pz n PT::fr) w (some false) se) Φ:=by
 subst hn;rw[pS h0];exact .step (N1 (show((c.C.getD (Pc+2) 0:Nat):Int)-1<((c.C.getD (Pc+2) 0:Nat):Int) from Int.sub_lt_self _ kD)) h
def F0{Pc PJ n sk:Nat}{Pz:Bool}{PT:Mk}(hn:c.C.getD (Pc+2) 0≤n)(hs:c.C.getD (Pc+1) 0=sk)(h0:PT.inn=none)(hw:w≤16777216)(Y6:1≤w)(h:Ru b (c.m st mu (Pc+1+sk) (PJ-1) (PJ-1) Pz {k with lm:=PT.lm,li:=PT.li} (gb Pc (PJ-1) Pz n PT::fr) w none se) Φ):
  Ru (b+1) (c.m st mu pc pos hd om k (gb Pc PJ Pz (n+1) PT::fr) w (some false) se) Φ:=by
 subst hs;rw[pS h0] at h;rw[pS h0];have e:Ru b (c.m st mu (Pc+1+c.C.getD (Pc+1) 0) (PJ-1) (PJ-1) Pz {k with lm:=PT.lm,li:=PT.li} ({wait:=.giveBack,pc:=Pc,pos:=PJ-1,outermost:=Pz,count:=((n+1:Nat):Int)-1,kept:={lastmark:=PT.lm,lastindex:=PT.li,whole:=false,marks:=#[]}}::fr) (w-1+1+0) none se) Φ:=by
  rw[show((n+1:Nat):Int)-1=(n:Int) from JB n 1,show w-1+1+0=w by exact ac Y6];exact h
 exact .step ((NY (show ¬((n+1:Nat):Int)-1<((c.C.getD (Pc+2) 0:Nat):Int) by rw[show((n+1:Nat):Int)-1=(n:Int) from JB n 1];exact Int.not_lt.mpr (Int.ofNat_le.mpr hn))).trans (NY (show ¬w-1+1+0>16777216 by exact an (bu hw (aq (ac Y6)))))) e
noncomputable def Mk.fresh(k:Mk):Mk:={k with lm:=-1,li:=-1}
def qE{s:Nat}{Pz:Bool}(hs:s<c.ls)(hf:(c.m st mu pc pos hd om k [] 0 none se).hasFirstSet=false)(h:Ru b (c.m (s+1) false Pc (s+1) (s+1) false k.fresh [ns Pc (s+1) false] 1 none se) Φ):Ru (b+1) (c.m st mu pc pos hd om k [ns Pc s Pz] 1 (some false) se) Φ:=by
 refine .step ((N1 hs).trans ?_) h;show(if(!M.hasFirstSet _)=true then _ else _)=_;exact N1 (show(!(c.m st mu pc pos hd om k [] 0 none se).hasFirstSet)=true by rw[hf];rfl)
def wW{s:Nat}{Pz:Bool}(hs:¬s<c.ls)(h:∀m',m'.outcome=some .failed→Φ m'):Ru 2 (c.m st mu pc pos hd om k [ns Pc s Pz] 1 (some false) se) Φ:=
 .step (NY hs) (.step rfl (.done (h _ rfl) 0))
end
end Internal.Rx
end
end
section
open PySem
noncomputable section
namespace Internal.Rx
open Sre (M)
noncomputable abbrev eU:Array Nat:=#[14,4,0,1,4294967295,6,0,24,9,0,4294967295,13,4,8,12,0,1,17,0,24,19,1,4294967295,13,14,21,9,0,671092736,0,0,0,0,0,0,8,12,0,1,17,1,1]
noncomputable abbrev bA:Array Nat:=#[14,4,0,3,4294967295,6,0,24,9,0,4294967295,13,4,8,12,0,1,16,61,24,9,0,4294967295,13,4,8,12,0,1,16,34,17,0,24,12,0,4294967295,13,7,21,16,34,16,92,0,1,23,19,0,4294967295,16,92,2,24,12,0,4294967295,13,7,21,16,34,16,92,0,1,18,17,1,16,34,1]
noncomputable abbrev eG:Array Nat:=#[14,4,0,1,4294967295,6,0,24,9,0,4294967295,13,4,8,12,0,1,16,61,24,9,0,4294967295,13,4,8,12,0,1,17,0,24,14,0,4294967295,13,9,21,8,12,16,59,16,44,0,1,17,1,1]
noncomputable abbrev gT:Array Nat:=#[14,8,1,2,2,1,1,92,0,16,92,17,0,2,17,1,1]
noncomputable abbrev fu:Array Nat:=#[14,4,0,0,4294967295,6,0,24,13,0,4294967295,13,8,16,61,8,12,16,59,0,1,1]
noncomputable abbrev uK:Array Nat:=#[14,4,0,1,4294967295,24,16,1,4294967295,13,11,9,0,67071226,3355443198,1476395007,0,0,0,0,0,1,1]
noncomputable abbrev lR:Array Nat:=#[14,9,4,1,1,16,34,16,92,0,17,0,13,6,16,34,16,92,0,17,1,1]
noncomputable def sp(x:Nat):Bool:=Unicode.isSpace x
def HA(x:Nat):Sre.category 12 x=.ok (sp x):=by
 show Except.map (λy=>y !=false) (.ok (sp x))=_;cases sp x<;>rfl
section
variable{C:Array Nat}{x n i a:Nat}{y r:Bool}{se:Sre.Seen}
def nG(C:Array Nat)(x n i:Nat)(y r:Bool):Prop:=∀se,∃Qj,Sre.inSet C x n i y se=.ok (r,Qj)
def cC(h:∀se,Sre.inSet C x n i y se=.ok (!y,se.add 0)):nG C x n i y (!y):=λse=>⟨_,h se⟩
def jN(e:∀se,Sre.inSet C x (n+1) i y se=Sre.inSet C x n (i+1) (!y) (se.add 21))(h:nG C x n (i+1) (!y) r):nG C x (n+1) i y r:=λse=>by rw[e];exact h _
def cN(a:Nat)(e:∀se,Sre.inSet C x (n+1) i y se=if(x==a)=true then .ok (y,se.add 16) else Sre.inSet C x n (i+2) y (se.add 16))(h:nG C x n (i+2) y r):nG C x (n+1) i y (bif x==a then y else r):=λse=>by
 rw[e];by_cases q:(x==a)=true
 ·rw[N1 q,q];exact⟨_,rfl⟩
 ·rw[NY q,Bool.eq_false_iff.mpr q];exact h _
def rV(p:Bool){j:Nat}(e:∀se,Sre.inSet C x (n+1) i y se=if p=true then .ok (y,se.add 9) else Sre.inSet C x n j y (se.add 9))(h:nG C x n j y r):nG C x (n+1) i y (bif p then y else r):=λse=>by
 rw[e];by_cases q:p=true
 ·rw[N1 q,q];exact⟨_,rfl⟩
 ·rw[NY q,Bool.eq_false_iff.mpr q];exact h _
def er(e:∀se,Sre.inSet C x (n+1) i y se=Sre.category 12 x>>=λb=>if b=true then .ok (y,(se.add 8).add 67) else Sre.inSet C x n (i+2) y ((se.add 8).add 67))(h:nG C x n (i+2) y r):nG C x (n+1) i y (bif sp x then y else r):=λse=>by
 rw[e,HA];show ∃Qj,(if sp x=true then _ else _)=_;by_cases q:sp x=true
 ·rw[N1 q,q];exact⟨_,rfl⟩
 ·rw[NY q,Bool.eq_false_iff.mpr q];exact h _
def eH{f:Nat→Bool}(e:∀x se,Sre.accepts C i x se=Sre.inSet C x C.size (i+2) true se)(h:∀x,nG C x C.size (i+2) true (f x)):Acc C i f:=λx se=>by rw[e];exact h x se
end
noncomputable def yE(C:Array Nat)(i x:Nat):Bool:=decide (x<256)&&(C.getD (i+(1+x/32)) 0).testBit (x%32)
noncomputable def i8(x:Nat):Bool:=bif sp x then true else !true
noncomputable def iV(x:Nat):Bool:=bif yE eU 26 x then !true else(bif sp x then !true else !!true)
noncomputable def ri(x:Nat):Bool:=bif x==34 then !true else(bif x==92 then !true else !!true)
noncomputable def ow(x:Nat):Bool:=bif sp x then !true else(bif x==59 then !true else(bif x==44 then !true else !!true))
noncomputable def jA(x:Nat):Bool:=bif x==61 then true else(bif sp x then true else(bif x==59 then true else !true))
def md:Acc eU 11 i8:=eH (λ_ _=>rfl) λx=>er (λ_=>rfl) (cC λ_=>rfl)
def wV:Acc eU 23 iV:=eH (λ_ _=>rfl) λx=>jN (λ_=>rfl) (rV (yE eU 26 x) (λ_=>rfl) (er (λ_=>rfl) (cC λ_=>rfl)))
def nR:Acc bA 11 i8:=eH (λ_ _=>rfl) λx=>er (λ_=>rfl) (cC λ_=>rfl)
def lg:Acc bA 23 i8:=eH (λ_ _=>rfl) λx=>er (λ_=>rfl) (cC λ_=>rfl)
def Fg:Acc bA 37 ri:=eH (λ_ _=>rfl) λx=>jN (λ_=>rfl) (cN 34 (λ_=>rfl) (cN 92 (λ_=>rfl) (cC λ_=>rfl)))
def Cu:Acc bA 57 ri:=eH (λ_ _=>rfl) λx=>jN (λ_=>rfl) (cN 34 (λ_=>rfl) (cN 92 (λ_=>rfl) (cC λ_=>rfl)))
def ng:Acc eG 11 i8:=eH (λ_ _=>rfl) λx=>er (λ_=>rfl) (cC λ_=>rfl)
def te:Acc eG 23 i8:=eH (λ_ _=>rfl) λx=>er (λ_=>rfl) (cC λ_=>rfl)
def Fp:Acc eG 35 ow:=eH (λ_ _=>rfl) λx=>jN (λ_=>rfl) (er (λ_=>rfl) (cN 59 (λ_=>rfl) (cN 44 (λ_=>rfl) (cC λ_=>rfl))))
def AG:Acc fu 11 jA:=eH (λ_ _=>rfl) λx=>cN 61 (λ_=>rfl) (er (λ_=>rfl) (cN 59 (λ_=>rfl) (cC λ_=>rfl)))
noncomputable def IE(x:Nat):Bool:=bif yE uK 11 x then true else !true
def u9:Acc uK 9 IE:=eH (λ_ _=>rfl) λx=>rV (yE uK 11 x) (λ_=>rfl) (cC λ_=>rfl)
noncomputable def jv(x:Nat):Bool:=bif x==34 then true else(bif x==92 then true else !true)
def IP:Acc lR 12 jv:=eH (λ_ _=>rfl) λx=>cN 34 (λ_=>rfl) (cN 92 (λ_=>rfl) (cC λ_=>rfl))
def E0(x:Nat):nG lR x lR.size 5 true (jv x):=cN 34 (λ_=>rfl) (cN 92 (λ_=>rfl) (cC λ_=>rfl))
def iP{C:Array Nat}{i:Nat}(a:Nat)(e:∀x se,Sre.accepts C i x se=.ok (x==a,se)):Acc C i (λx=>x==a):=λx se=>⟨_,e x se⟩
def v9{C:Array Nat}{i:Nat}(e:∀x se,Sre.accepts C i x se=.ok (x !=10,se)):Acc C i (λx=>x !=10):=λx se=>⟨_,e x se⟩
section
variable{c:Cf}{st hd w b:Nat}{mu om:Bool}{k:Mk}{se:Sre.Seen}{Φ:M→Prop}
noncomputable abbrev k0(n:Nat):Mk:={ms:=Array.replicate n none}
def oM(T:Array Nat)(L ls st pos hd w:Nat)(mu om wh:Bool)(k:Mk)(fr:List Sre.Frame)(se:Sre.Seen):((Cf.mk eU T L ls wh).m st mu 7 pos hd om k fr w none se).exec=iX 0 ((Cf.mk eU T L ls wh).m st mu 7 pos hd om k fr w none (se.add 24)) ((se.add 24).add (eU.getD (7+4) 0)):=kR
def l6(T:Array Nat)(L ls st pos hd w:Nat)(mu om wh:Bool)(k:Mk)(fr:List Sre.Frame)(se:Sre.Seen):((Cf.mk eU T L ls wh).m st mu 19 pos hd om k fr w none se).exec=iX 1 ((Cf.mk eU T L ls wh).m st mu 19 pos hd om k fr w none (se.add 24)) ((se.add 24).add (eU.getD (19+4) 0)):=kR
def o5(T:Array Nat)(L ls st pos hd w:Nat)(mu om wh:Bool)(k:Mk)(fr:List Sre.Frame)(se:Sre.Seen):((Cf.mk bA T L ls wh).m st mu 7 pos hd om k fr w none se).exec=iX 0 ((Cf.mk bA T L ls wh).m st mu 7 pos hd om k fr w none (se.add 24)) ((se.add 24).add (bA.getD (7+4) 0)):=kR
def m8(T:Array Nat)(L ls st pos hd w:Nat)(mu om wh:Bool)(k:Mk)(fr:List Sre.Frame)(se:Sre.Seen):((Cf.mk bA T L ls wh).m st mu 19 pos hd om k fr w none se).exec=iX 0 ((Cf.mk bA T L ls wh).m st mu 19 pos hd om k fr w none (se.add 24)) ((se.add 24).add (bA.getD (19+4) 0)):=kR
def ui(T:Array Nat)(L ls st pos hd w:Nat)(mu om wh:Bool)(k:Mk)(fr:List Sre.Frame)(se:Sre.Seen):((Cf.mk bA T L ls wh).m st mu 33 pos hd om k fr w none se).exec=iX 0 ((Cf.mk bA T L ls wh).m st mu 33 pos hd om k fr w none (se.add 24)) ((se.add 24).add (bA.getD (33+4) 0)):=kR
def ub(T:Array Nat)(L ls st pos hd w:Nat)(mu om wh:Bool)(k:Mk)(fr:List Sre.Frame)(se:Sre.Seen):((Cf.mk bA T L ls wh).m st mu 53 pos hd om k fr w none se).exec=iX 0 ((Cf.mk bA T L ls wh).m st mu 53 pos hd om k fr w none (se.add 24)) ((se.add 24).add (bA.getD (53+4) 0)):=kR
def pF(T:Array Nat)(L ls st pos hd w:Nat)(mu om wh:Bool)(k:Mk)(fr:List Sre.Frame)(se:Sre.Seen):((Cf.mk eG T L ls wh).m st mu 7 pos hd om k fr w none se).exec=iX 0 ((Cf.mk eG T L ls wh).m st mu 7 pos hd om k fr w none (se.add 24)) ((se.add 24).add (eG.getD (7+4) 0)):=kR
def ue(T:Array Nat)(L ls st pos hd w:Nat)(mu om wh:Bool)(k:Mk)(fr:List Sre.Frame)(se:Sre.Seen):((Cf.mk eG T L ls wh).m st mu 19 pos hd om k fr w none se).exec=iX 0 ((Cf.mk eG T L ls wh).m st mu 19 pos hd om k fr w none (se.add 24)) ((se.add 24).add (eG.getD (19+4) 0)):=kR
def uY(T:Array Nat)(L ls st pos hd w:Nat)(mu om wh:Bool)(k:Mk)(fr:List Sre.Frame)(se:Sre.Seen):((Cf.mk eG T L ls wh).m st mu 31 pos hd om k fr w none se).exec=iX 0 ((Cf.mk eG T L ls wh).m st mu 31 pos hd om k fr w none (se.add 24)) ((se.add 24).add (eG.getD (31+4) 0)):=kR
def un(T:Array Nat)(L ls st pos hd w:Nat)(mu om wh:Bool)(k:Mk)(fr:List Sre.Frame)(se:Sre.Seen):((Cf.mk fu T L ls wh).m st mu 7 pos hd om k fr w none se).exec=iX 0 ((Cf.mk fu T L ls wh).m st mu 7 pos hd om k fr w none (se.add 24)) ((se.add 24).add (fu.getD (7+4) 0)):=kR
def mY(T:Array Nat)(L ls st pos hd w:Nat)(mu om wh:Bool)(k:Mk)(fr:List Sre.Frame)(se:Sre.Seen):((Cf.mk uK T L ls wh).m st mu 5 pos hd om k fr w none se).exec=iX 1 ((Cf.mk uK T L ls wh).m st mu 5 pos hd om k fr w none (se.add 24)) ((se.add 24).add (uK.getD (5+4) 0)):=kR
theorem Fr{T:Array Nat}{L ls a n:Nat}(hL:a+n≤L)(hb:L≤4294967295)(hn:1≤n)(h1:∀j,j<a→i8 (T.getD (0+j) 0)=true)(h2:i8 (T.getD (0+a) 0)=false)(h3:∀j,j<n→iV (T.getD (0+a+j) 0)=true)(h4:0+a+n<L→iV (T.getD (0+a+n) 0)=false)(mu:Bool):
  Ru 20 ((Cf.mk eU T L ls false).m 0 mu 5 0 0 true (k0 2) [ns 5 0 true] 1 none se) (Fin 0 (0+a+n) #[some (0+a),some (0+a+n)] 1 1):=by
 have PH:0+a+n≠0:=aw (a8 hn);have ha:0+a≤L:=a8 hL;have ZM:0+a+n≤L:=a8 hL;exact m5 rfl rfl λ_=>cJ (n:=a) (sk:=9) md rfl (oM ..) rfl ha hb h1 (λ_=>h2) (Oc _) rfl rfl λ_=>dN ⟨#[some (0+a),none],0,-1,#[],none⟩ rfl rfl λ_=>cJ (n:=n) (sk:=19) wV rfl (l6 ..) rfl ZM hb h3 h4 hn rfl rfl λ_=>dN ⟨#[some (0+a),some (0+a+n)],1,1,#[],none⟩ rfl kR λ_=>dw rfl rfl (.inl rfl) (.inr PH) λ_=>.le (gF (aS (.inr (.inl rfl)) (.inr (.inl rfl)) (.inl rfl) trivial)) (dZ rfl)
def wU(c:Cf)(Pc s:Nat):Prop:=∀(b hd:Nat)(om mu:Bool)(k:Mk)(fr:List Sre.Frame)(se:Sre.Seen)(Φ:M→Prop),(∀se,Ru b (c.m s mu Pc s hd om k fr 1 (some false) se) Φ)→Ru (b+1) (c.m s mu Pc s hd om k fr 1 none se) Φ
def Mr{Pc e:Nat}(hf:∀st mu pc pos hd om k se,(c.m st mu pc pos hd om k [] 0 none se).hasFirstSet=false)(he:e≤c.ls)(h:∀k' se,k'.lo=k.lo→k'.inn=k.inn→k'.lm=-1→k'.li=-1→k'.ms=k.ms→Ru b (c.m e false Pc e e false k' [ns Pc e false] 1 none se) Φ):∀(d s:Nat){pc pos hd:Nat}{om mu Pz:Bool}{OQ:Mk}{se:Sre.Seen},s+d+1=e→OQ.lo=k.lo→OQ.inn=k.inn→OQ.ms=k.ms→(∀j,s<j→j<e→wU c Pc j)→Ru (b+1+2*d) (c.m s mu pc pos hd om OQ [ns Pc s Pz] 1 (some false) se) Φ:=by
 intro d;induction d with
 |zero=>
  exact λs _ _ _ _ _ _ OQ _ hd h1 h2 h3 hF=>qE (bu (aq hd) he) (hf ..) (by subst hd;exact h _ _ h1 h2 rfl rfl h3)
 |succ d ihr=>
  exact λs _ _ _ _ _ _ OQ _ hd h1 h2 h3 hF=>qE (b:=b+1+2*d+1) (bu (aq hd) he) (hf ..) (hF (s+1) eQ (a8 (aq hd)) _ _ _ _ _ _ _ _ λse=>ihr (s+1) (lr hd) h1 h2 h3 λj h1 h2=>hF j (a8 h1) h2)
def jB{Pc:Nat}(hf:∀st mu pc pos hd om k se,(c.m st mu pc pos hd om k [] 0 none se).hasFirstSet=false)(h:∀m',m'.outcome=some .failed→Φ m'):∀(d s:Nat){pc pos hd:Nat}{om mu Pz:Bool}{OQ:Mk}{se:Sre.Seen},c.ls≤s+d→(∀j,s<j→j≤c.ls→wU c Pc j)→Ru (2+2*d) (c.m s mu pc pos hd om OQ [ns Pc s Pz] 1 (some false) se) Φ:=by
 intro d;induction d with
 |zero=>
  exact λs _ _ _ _ _ _ _ _ hd hF=>wW (an hd) h
 |succ d ihr=>
  intro s _ _ _ _ _ _ _ _ hd hF;by_cases q:s<c.ls
  ·exact qE (b:=2+2*d+1) q (hf ..) (hF (s+1) eQ q _ _ _ _ _ _ _ _ λse=>ihr (s+1) (a8 hd) λj h1 h2=>hF j (a8 h1) h2)
  ·exact .le (wW q h) ax
end
end Internal.Rx
end
end
section
open PySem
noncomputable section
namespace Internal.Rx
open Sre (M)
def Found(m:M)(st hd:Nat)(ms:Array (Option Nat))(lm li:Int):Prop:=Ru (2^40) m (Fin st hd ms lm li)
def iW(m:M):Prop:=Ru (2^40) m λm=>m.outcome=some .failed
section
variable{T:Array Nat}{n a:Nat}
noncomputable abbrev cf(C T:Array Nat)(ls:Nat):Cf:=⟨C,T,T.size,ls,false⟩
def Ir{a b:Nat}(h:b≤4294967295)(ha:a≤100):a+2*b≤2^40:=ph ha h h
def iE{C:Array Nat}{ls s:Nat}(P9:Nat.ble 6 C.size=true)(hs:0<s)(e:∀(b hd:Nat)(om mu:Bool)(k:Mk)(fr:List Sre.Frame)(se:Sre.Seen),∃Ro,((cf C T ls).m s mu 5 s hd om k fr 1 none se).exec=if(s==0)=true then Ro else(cf C T ls).m s mu 5 s hd om k fr 1 (some false) ((se.add 6).add 43)):wU (cf C T ls) 5 s:=
 λb hd om mu k fr se Φ h=>(e b hd om mu k fr se).elim λRo e=>AZ P9 e (aw hs) h
def orF{p q:Prop}[Decidable p][Decidable q](h1:¬p)(h2:¬q):¬(decide p||decide q)=true:=λx=>(On.mp x).elim (λx=>h1 (NV x)) λx=>h2 (NV x)
def orT{p q:Prop}[Decidable p][Decidable q](h:q):(decide p||decide q)=true:=On.mpr (.inr (N0 h))
theorem By(h:1≤T.size):Sre.forSearch eU T 1 0 T.size false=(cf eU T T.size).m 0 false 5 0 0 true (k0 2) [ns 5 0 true] 1 none (({}:Sre.Seen).add 14):=by
 refine(NY (orF (Nat.not_lt_zero _) (show ¬T.size-0<1 by exact an (bu h (ap (ac (b:=0) (a:=T.size) eQ)))))).trans ?_;kernel_rfl
def Ez(h:T.size<1):iW (Sre.forSearch eU T 1 0 T.size false):=by
 have e:Sre.forSearch eU T 1 0 T.size false=(cf eU T 0).m 0 false 5 0 0 true (k0 2) [] 0 (some false) (({}:Sre.Seen).add 14):=by
  refine(N1 (orT (show T.size-0<1 by exact h))).trans ?_;kernel_rfl
 rw[e];exact ak 1 (dZ rfl) rfl
def yq(hL:a+n≤T.size)(hb:T.size≤4294967295)(hn:1≤n)(h1:∀j,j<a→i8 (T.getD (0+j) 0)=true)(h2:i8 (T.getD (0+a) 0)=false)(h3:∀j,j<n→iV (T.getD (0+a+j) 0)=true)(h4:0+a+n<T.size→iV (T.getD (0+a+n) 0)=false):
  Found (Sre.forSearch eU T 1 0 T.size false) 0 (0+a+n) #[some (0+a),some (0+a+n)] 1 1:=by
 rw[By (by exact bu hn hL)];exact .le (Fr hL hb hn h1 h2 h3 h4 false) (dZ rfl)
def CP(hb:T.size≤4294967295)(h1:i8 (T.getD (0+0) 0)=false)(h2:iV (T.getD (0+0+0) 0)=false):iW (Sre.forSearch eU T 1 0 T.size false):=by
 by_cases h:T.size<1
 ·exact Ez h
 rw[By (by exact al h)];exact Ru.le (a:=2+2*T.size+5) (m5 rfl rfl λ_=>cJ (n:=0) (sk:=9) md rfl (oM ..) rfl (Oc _) hb (λ_ h=>absurd h (Nat.not_lt_zero _)) (λ_=>h1) (Oc _) rfl rfl λ_=>dN ⟨#[some (0+0),none],0,-1,#[],none⟩ rfl rfl λ_=>pB (n:=0) wV rfl (l6 ..) (Oc _) hb (λ_ h=>absurd h (Nat.not_lt_zero _)) (λ_=>h2) kD λ_=>d9 rfl rfl (jB (λ_ _ _ _ _ _ _ _=>rfl) (λ_ h=>h) T.size 0 (show T.size≤0+T.size by exact eQ) λj hj _=>iE rfl hj λ_ _ _ _ _ _ _=>⟨_,rfl⟩)) (by have:=Ir hb (a:=7) kD;exact bu hb hb)
end
end Internal.Rx
end
end
section
open PySem
noncomputable section
namespace Internal.Rx
open Sre (M)
section
variable{T:Array Nat}{ls:Nat}{st hd w b p s:Nat}{mu om:Bool}{fr:List Sre.Frame}{se:Sre.Seen}{Φ:M→Prop}
def n8{c:Cf}{k:Mk}{pc pos:Nat}{an:Option Bool}{Zf VP QP w':Nat}{Zc:Bool}{k':Mk}{YC:List Sre.Frame}{Yx:Option Bool}{Qj:Sre.Seen}(e:(c.m st mu pc pos hd om k fr w an se).step=c.m st mu Zf VP QP Zc k' YC w' Yx Qj)(h:Ru b (c.m st mu Zf VP QP Zc k' YC w' Yx Qj) Φ):Ru (b+1) (c.m st mu pc pos hd om k fr w an se) Φ:=.step e h
noncomputable abbrev pA(s:Nat)(lo:Array Sre.Loop)(inn:Option Nat):Mk:=⟨#[some s,none],0,-1,lo,inn⟩
noncomputable abbrev clF(p:Nat)(om:Bool):Sre.Frame:={wait:=.closeLoop,pc:=46,pos:=p,outermost:=om,loop:=0}
noncomputable abbrev HT(p s:Nat)(om:Bool)(n:Int)(bg:Option Nat):Sre.Frame:={wait:=.maxMore,pc:=67,pos:=p,outermost:=om,count:=n,kept:={lastmark:=0,lastindex:=-1,whole:=true,marks:=#[some s]},loop:=0,began:=bg}
noncomputable abbrev JE(p:Nat)(om:Bool)(n:Int):Sre.Frame:={wait:=.maxTail,pc:=67,pos:=p,outermost:=om,count:=n,kept:={lastmark:=0,lastindex:=-1},loop:=0}
def jn(T:Array Nat)(ls:Nat):Acc (cf bA T ls).C 50 (λx=>x==92):=iP 92 λ_ _=>rfl
def uU(T:Array Nat)(ls:Nat):Acc (cf bA T ls).C 69 (λx=>x==34):=iP 34 λ_ _=>rfl
def nH(T:Array Nat)(ls:Nat):Acc (cf bA T ls).C 29 (λx=>x==34):=iP 34 λ_ _=>rfl
def jo(T:Array Nat)(ls:Nat):Acc (cf bA T ls).C 17 (λx=>x==61):=iP 61 λ_ _=>rfl
def uT(T:Array Nat)(ls:Nat):Acc (cf bA T ls).C 52 (λx=>x !=10):=v9 λ_ _=>rfl
def wu{lo:Array Sre.Loop}(hp:p<T.size)(Rh:T.getD p 0=34)(Qi:p+1≠st)(hg:sU fr):
  Ru (fr.length+4) ((cf bA T ls).m st mu 67 p hd om (pA s lo none) fr w none se) (Fin st (p+1) #[some s,some p] 1 1):=by
 exact dN ⟨#[some s,some p],1,1,lo,none⟩ rfl kR λ_=>fP 2 16 (uU T ls) rfl rfl hp (by rw[show(cf bA T ls).T.getD p 0=34 from Rh];rfl) λ_=>dw rfl rfl (.inl rfl) (.inr Qi) λ_=>gF hg
def vE:((cf bA T ls).m st mu 66 p hd om (pA s #[⟨46,-1,none,none⟩] (some 0)) fr 5 none se).step=(cf bA T ls).m st mu 50 p p om (pA s #[⟨46,0,some p,none⟩] (some 0)) (HT p s om 0 none::fr) 7 none (se.add 18):=kR
def z8{pc pos:Nat}:((cf bA T ls).m st mu pc pos hd om (pA s #[⟨46,0,some p,none⟩] (some 0)) (HT p s om 0 none::fr) 7 (some false) se).step=(cf bA T ls).m st mu 67 p p om (pA s #[⟨46,-1,none,none⟩] none) (JE p om 0::fr) 6 none se:=kR
def FG{q:Nat}(h:p≠q):((cf bA T ls).m st mu 66 q hd om (pA s #[⟨46,0,some p,none⟩] (some 0)) fr 9 none se).step=(cf bA T ls).m st mu 50 q q om (pA s #[⟨46,1,some q,none⟩] (some 0)) (HT q s om 1 (some p)::fr) 11 none (se.add 18):=by
 have e:((cf bA T ls).m st mu 66 q hd om (pA s #[⟨46,0,some p,none⟩] (some 0)) fr 9 none se).step=if(true&&(some p !=some q))=true then(cf bA T ls).m st mu 50 q q om (pA s #[⟨46,1,some q,none⟩] (some 0)) (HT q s om 1 (some p)::fr) 11 none (se.add 18) else M.afterLoop ((cf bA T ls).m st mu 67 q hd om (pA s #[⟨46,0,some p,none⟩] (some 0)) fr 9 none (se.add 18)) .maxTail 0 1 λ_=>false:=kR;rw[e];exact N1 (by simp[h])
def xZ{q pc pos:Nat}:((cf bA T ls).m st mu pc pos hd om (pA s #[⟨46,1,some q,none⟩] (some 0)) (HT q s om 1 (some p)::fr) 11 (some false) se).step=(cf bA T ls).m st mu 67 q q om (pA s #[⟨46,0,some p,none⟩] none) (JE q om 1::fr) 10 none se:=kR
def nE:((cf bA T ls).m st mu 46 p hd om (pA s #[] none) fr 4 none se).step=(cf bA T ls).m st mu 66 p p om (pA s #[⟨46,-1,none,none⟩] (some 0)) (clF p om::fr) 5 none (se.add 23):=kR
def wO{n:Int}:Ej (JE p om n):=.inr (.inr (.inr (.inr rfl)))
def DG{n:Int}{bg:Option Nat}:Ej (HT p s om n bg):=.inr (.inr (.inr (.inl rfl)))
def w4:Ej (clF p om):=.inr (.inr (.inl rfl))
def xS(hp:p<T.size)(Rh:T.getD p 0=34)(Qi:p+1≠st)(hg:sU fr):Ru (fr.length+10) ((cf bA T ls).m st mu 46 p hd om (pA s #[] none) fr 4 none se) (Fin st (p+1) #[some s,some p] 1 1):=by
 exact n8 nE (n8 vE (eZ 2 16 (jn T ls) rfl rfl (λ_=>by rw[show(cf bA T ls).T.getD p 0=34 from Rh];rfl) λ_=>n8 z8 (wu (fr:=JE p om 0::clF p om::fr) hp Rh Qi ⟨wO,w4,hg⟩)))
def yA{n:Nat}(hb:T.size≤4294967295)(hp:p+2+n<T.size)(WH:T.getD p 0=92)(Tn:T.getD (p+1) 0≠10)(hq:∀j,j<n→ri (T.getD (p+1+1+j) 0)=true)(Rh:T.getD (p+1+1+n) 0=34)(Qi:p+1+1+n+1≠st)(hg:sU fr):
  Ru (fr.length+16) ((cf bA T ls).m st mu 46 p hd om (pA s #[] none) fr 4 none se) (Fin st (p+1+1+n+1) #[some s,some (p+1+1+n)] 1 1):=by
 exact n8 nE (n8 vE (fP 2 16 (jn T ls) rfl rfl (show p<T.size by exact a8 hp) (by rw[show(cf bA T ls).T.getD p 0=92 from WH];rfl) λ_=>fP 1 2 (uT T ls) rfl rfl (show p+1<T.size by exact a8 hp) (bne_iff_ne.mpr Tn) λ_=>acm (n:=n) (sk:=12) (w:=7) Cu rfl (ub ..) rfl (show p+1+1+n≤T.size by exact a8 hp) hb hq (λ_=>by rw[show(cf bA T ls).T.getD (p+1+1+n) 0=34 from Rh];rfl) (Oc _) (by show 7+1+1≤16777216;decide) λ_=>n8 (FG (av eQ)) (eZ 2 16 (jn T ls) rfl rfl (λ_=>by rw[show(cf bA T ls).T.getD (p+1+1+n) 0=34 from Rh];rfl) λ_=>n8 xZ (wu (fr:=JE _ om 1::gb _ _ om n _::HT p s om 0 none::clF p om::fr) hp Rh Qi (bY wO (.inr (.inl rfl)) DG w4 hg)))))
theorem Bk(h:3≤T.size):Sre.forSearch bA T 1 0 T.size false=(cf bA T (max 0 (T.size-(3-1)))).m 0 false 5 0 0 true (k0 2) [ns 5 0 true] 1 none (({}:Sre.Seen).add 14):=by
 refine(NY (orF (Nat.not_lt_zero _) (show ¬T.size-0<3 by exact an (bu h (ap (ac (b:=0) (a:=T.size) eQ)))))).trans ?_;kernel_rfl
def DD(h:T.size<3):iW (Sre.forSearch bA T 1 0 T.size false):=by
 have e:Sre.forSearch bA T 1 0 T.size false=(cf bA T 0).m 0 false 5 0 0 true (k0 2) [] 0 (some false) (({}:Sre.Seen).add 14):=by
  refine(N1 (orT (show T.size-0<3 by exact h))).trans ?_;kernel_rfl
 rw[e];exact ak 1 (dZ rfl) rfl
def g3{f:Nat→Prop}:∀j,j<0→f j:=λ_ h=>absurd h (Nat.not_lt_zero _)
def B8(hb:T.size≤4294967295)(h0:i8 (T.getD (0+0) 0)=false)(h:T.getD (0+0) 0≠61∨(i8 (T.getD (0+0+1+0) 0)=false∧T.getD (0+0+1+0) 0≠34)):iW (Sre.forSearch bA T 1 0 T.size false):=by
 by_cases hs:T.size<3
 ·exact DD hs
 rw[Bk (by exact al hs)];have tl:∀{pc pos hd:Nat}{om:Bool}{k:Mk}{se:Sre.Seen},Ru (2+2*T.size) ((cf bA T (max 0 (T.size-(3-1)))).m 0 false pc pos hd om k [ns 5 0 true] 1 (some false) se) λm=>m.outcome=some .failed:=
  jB (λ_ _ _ _ _ _ _ _=>rfl) (λ_ h=>h) T.size 0 (Nat.max_le.mpr ⟨Oc _,NT (Nat.sub_le ..) eQ⟩) λj hj _=>iE rfl hj λ_ _ _ _ _ _ _=>⟨_,rfl⟩
 refine Ru.le (a:=2+2*T.size+7) (m5 rfl rfl λ_=>cJ (n:=0) (sk:=9) nR rfl (o5 ..) rfl (Oc _) hb g3 (λ_=>h0) (Oc _) rfl rfl λ_=>?_) (by have:=Ir hb (a:=9) kD;exact bu hb hb);by_cases h1:T.getD (0+0) 0=61
 ·have h:=h.resolve_left λq=>q h1;exact fP 2 16 (jo T _) rfl rfl (show 0<T.size by exact a8 (al hs)) (Ol.mpr h1) λ_=>cJ (n:=0) (sk:=9) lg rfl (m8 ..) rfl (show 1≤T.size by exact a8 (al hs)) hb g3 (λ_=>h.1) (Oc _) rfl rfl λ_=>eZ 2 16 (nH T _) rfl rfl (λ_=>OG h.2) λ_=>d9 rfl rfl (d9 rfl rfl tl)
 ·exact eZ 2 16 (jo T _) rfl rfl (λ_=>OG h1) λ_=>.le (d9 rfl rfl tl) (by exact eQ)
theorem oV{n m:Nat}(hb:T.size≤4294967295)(h0:T.getD (0+0) 0=61)(h1:T.getD (0+0+1+0) 0=34)(hq:∀j,j<n→ri (T.getD (0+0+1+0+1+j) 0)=true)(e:Nat)(h:(e=0+0+1+0+1+n∨(e=0+0+1+0+1+n+1+1+m∧T.getD (0+0+1+0+1+n) 0=92∧T.getD (0+0+1+0+1+n+1) 0≠10∧∀j,j<m→ri (T.getD (0+0+1+0+1+n+1+1+j) 0)=true)))(he:e<T.size)(Rh:T.getD e 0=34):
  Found (Sre.forSearch bA T 1 0 T.size false) 0 (e+1) #[some (0+0+1+0+1),some e] 1 1:=by
 have ge:0+0+1+0+1+n≤e:=h.elim (λh=>ap h) λh=>a8 (ap h.1);rw[Bk (by exact bu ge he)];have XD:i8 61=false:=kE;have s34:i8 34=false:=kE;refine Ru.le (a:=4+16+7) (m5 rfl rfl λ_=>cJ (n:=0) (sk:=9) nR rfl (o5 ..) rfl (Oc _) hb g3 (λ_=>h0▸XD) (Oc _) rfl rfl λ_=>fP 2 16 (jo T _) rfl rfl (show 0<T.size by exact a8 he) (Ol.mpr h0) λ_=>cJ (n:=0) (sk:=9) lg rfl (m8 ..) rfl (show 1≤T.size by exact a8 he) hb g3 (λ_=>h1▸s34) (Oc _) rfl rfl λ_=>fP 2 16 (nH T _) rfl rfl (show 0+0+1+0<T.size by exact bu ge he) (Ol.mpr h1) λ_=>dN (pA (0+0+1+0+1) #[] none) rfl rfl λ_=>?_) (dZ rfl);have hn:ri (T.getD (0+0+1+0+1+n) 0)=false:=by
  rcases h with h | h
  ·rw[h.symm,Rh];rfl
  ·rw[h.2.1];rfl
 refine cJ (n:=n) (sk:=12) Fg rfl (ui ..) rfl (show 0+0+1+0+1+n≤T.size by exact bu ge he) hb hq (λ_=>hn) (Oc _) rfl rfl λ_=>?_;rcases h with rfl | ⟨rfl,WH,Tn,hm⟩
 ·exact .le (xS (fr:=gb _ _ true n _::gb _ _ true 0 _::gb _ _ true 0 _::[ns 5 0 true]) he Rh (aw eQ) (bY (.inr (.inl rfl)) (.inr (.inl rfl)) (.inr (.inl rfl)) (.inl rfl) trivial)) (dZ rfl)
 ·exact .le (yA (fr:=gb _ _ true n _::gb _ _ true 0 _::gb _ _ true 0 _::[ns 5 0 true]) hb he WH Tn hm Rh (aw eQ) (bY (.inr (.inl rfl)) (.inr (.inl rfl)) (.inr (.inl rfl)) (.inl rfl) trivial)) (dZ rfl)
end
end Internal.Rx
end
end
section
open PySem
noncomputable section
namespace Internal.Rx
open Sre (M)
section
variable{T:Array Nat}{n:Nat}
theorem AS(h:1≤T.size):Sre.forSearch eG T 1 0 T.size false=(cf eG T T.size).m 0 false 5 0 0 true (k0 2) [ns 5 0 true] 1 none (({}:Sre.Seen).add 14):=by
 refine(NY (orF (Nat.not_lt_zero _) (show ¬T.size-0<1 by exact an (bu h (ap (ac (b:=0) (a:=T.size) eQ)))))).trans ?_;kernel_rfl
def DL(h:T.size<1):iW (Sre.forSearch eG T 1 0 T.size false):=by
 have e:Sre.forSearch eG T 1 0 T.size false=(cf eG T 0).m 0 false 5 0 0 true (k0 2) [] 0 (some false) (({}:Sre.Seen).add 14):=by
  refine(N1 (orT (show T.size-0<1 by exact h))).trans ?_;kernel_rfl
 rw[e];exact ak 1 (dZ rfl) rfl
def ol(T:Array Nat)(ls:Nat):Acc (cf eG T ls).C 17 (λx=>x==61):=iP 61 λ_ _=>rfl
theorem xW(hb:T.size≤4294967295)(hL:1+n≤T.size)(h0:T.getD (0+0) 0=61)(h1:i8 (T.getD (0+0+1+0) 0)=false)(h3:∀j,j<n→ow (T.getD (0+0+1+0+j) 0)=true)(h4:0+0+1+0+n<T.size→ow (T.getD (0+0+1+0+n) 0)=false):
  Found (Sre.forSearch eG T 1 0 T.size false) 0 (0+0+1+0+n) #[some (0+0+1+0),some (0+0+1+0+n)] 1 1:=by
 have XD:i8 61=false:=kE;rw[AS (by exact a8 hL)];exact Ru.le (a:=7+4+4) (m5 rfl rfl λ_=>cJ (n:=0) (sk:=9) ng rfl (pF ..) rfl (Oc _) hb g3 (λ_=>h0▸XD) (Oc _) rfl rfl λ_=>fP 2 16 (ol T _) rfl rfl (show 0<T.size by exact a8 hL) (Ol.mpr h0) λ_=>cJ (n:=0) (sk:=9) te rfl (ue ..) rfl (show 1≤T.size by exact a8 hL) hb g3 (λ_=>h1) (Oc _) rfl rfl λ_=>dN (pA (0+0+1+0) #[] none) rfl rfl λ_=>cJ (n:=n) (sk:=14) Fp rfl (uY ..) rfl (show 0+0+1+0+n≤T.size by exact hL) hb h3 h4 (Oc _) rfl rfl λ_=>dN ⟨#[some (0+0+1+0),some (0+0+1+0+n)],1,1,#[],none⟩ rfl kR λ_=>dw rfl rfl (.inl rfl) (.inr (by exact aw eQ)) λ_=>.le (gF (fr:=[gb _ _ true n _,gb _ _ true 0 _,gb _ _ true 0 _,ns 5 0 true]) (bY (.inr (.inl rfl)) (.inr (.inl rfl)) (.inr (.inl rfl)) (.inl rfl) trivial)) (dZ rfl)) (dZ rfl)
def AW(hb:T.size≤4294967295)(h0:i8 (T.getD (0+0) 0)=false)(h:T.getD (0+0) 0≠61):iW (Sre.forSearch eG T 1 0 T.size false):=by
 by_cases hs:T.size<1
 ·exact DL hs
 rw[AS (by exact al hs)];exact Ru.le (a:=2+2*T.size+4) (m5 rfl rfl λ_=>cJ (n:=0) (sk:=9) ng rfl (pF ..) rfl (Oc _) hb g3 (λ_=>h0) (Oc _) rfl rfl λ_=>eZ 2 16 (ol T _) rfl rfl (λ_=>OG h) λ_=>d9 rfl rfl (jB (λ_ _ _ _ _ _ _ _=>rfl) (λ_ h=>h) T.size 0 (show T.size≤0+T.size by exact eQ) λj hj _=>iE rfl hj λ_ _ _ _ _ _ _=>⟨_,rfl⟩)) (by have:=Ir hb (a:=6) kD;exact bu hb hb)
def wd{p:Nat}(h:p≤T.size):Sre.forSearch fu T 0 p T.size false=(cf fu T T.size).m p false 5 p p true (k0 0) [ns 5 p true] 1 none (({}:Sre.Seen).add 14):=by
 refine(NY (orF (show ¬p>T.size by exact an h) (show ¬T.size-p<0 by exact an eQ))).trans ?_;kernel_rfl
theorem uR(hb:T.size≤4294967295)(hL:n≤T.size)(hn:1≤n)(h3:∀j,j<n→jA (T.getD (0+j) 0)=true)(h4:0+n<T.size→jA (T.getD (0+n) 0)=false):
  Found (Sre.forSearch fu T 0 0 T.size false) 0 (0+n) #[] (-1) (-1):=by
 rw[wd (Oc _)];exact Ru.le (a:=3+3) (m5 rfl rfl λ_=>cJ (n:=n) (sk:=13) AG rfl (un ..) rfl (show 0+n≤T.size by exact a8 hL) hb h3 h4 (Oc _) rfl rfl λ_=>dw rfl rfl (.inl rfl) (.inr (aw (a8 hn))) λ_=>.le (gF (fr:=[gb _ _ true n _,ns 5 0 true]) ⟨.inr (.inl rfl),.inl rfl,trivial⟩) (dZ rfl)) (dZ rfl)
def xD{p:Nat}(hb:T.size≤4294967295)(hL:p≤T.size)(hp:0<p):iW (Sre.forSearch fu T 0 p T.size false):=by
 rw[wd hL];exact Ru.le (a:=2+2*T.size+1) (iE (C:=fu) (ls:=T.size) rfl hp (λ_ _ _ _ _ _ _=>⟨_,rfl⟩) _ _ _ _ _ _ _ _ λse=>jB (λ_ _ _ _ _ _ _ _=>rfl) (λ_ h=>h) T.size p (show T.size≤p+T.size by exact eQ) λj hj _=>iE rfl (by exact a8 hj) λ_ _ _ _ _ _ _=>⟨_,rfl⟩) (by have:=Ir hb (a:=3) kD;exact bu hb hb)
theorem AA{p:Nat}(h:p+2≤T.size):Sre.forSearch gT T 1 p T.size false=(cf gT T T.size).m p false 9 p p true (k0 2) [ns 9 p true] 1 none (({}:Sre.Seen).add 14):=by
 refine(NY (orF (show ¬p>T.size by exact an (a8 h)) (show ¬T.size-p<2 by exact an (bu h (ap (ac (b:=p) (a:=T.size) (a8 h))))))).trans ?_;kernel_rfl
def E8{p:Nat}(h:T.size-p<2):iW (Sre.forSearch gT T 1 p T.size false):=by
 have e:Sre.forSearch gT T 1 p T.size false=(cf gT T 0).m p false 9 p p true (k0 2) [] 0 (some false) (({}:Sre.Seen).add 14):=by
  refine(N1 (orT h)).trans ?_;kernel_rfl
 rw[e];exact ak 1 (dZ rfl) rfl
def oH(T:Array Nat)(ls:Nat):Acc (cf gT T ls).C 9 (λx=>x==92):=iP 92 λ_ _=>rfl
def tJ(T:Array Nat)(ls:Nat):Acc (cf gT T ls).C 13 (λx=>x !=10):=v9 λ_ _=>rfl
def iN{s:Nat}(h:s<T.size→T.getD s 0≠92):wU (cf gT T T.size) 9 s:=λb hd om mu k fr se Φ g=>
 eZ 2 16 (oH T _) rfl rfl (λhs=>OG (h hs)) g
def AK{p:Nat}(hb:T.size≤4294967295)(h:∀s,p≤s→s<T.size→T.getD s 0≠92):iW (Sre.forSearch gT T 1 p T.size false):=by
 by_cases hs:T.size-p<2
 ·exact E8 hs
 rw[AA (a8 (Nat.add_lt_of_lt_sub (a:=1) (al hs)))];exact Ru.le (a:=2+2*T.size+1) (iN (h p (Oe _)) _ _ _ _ _ _ _ _ λse=>jB (λ_ _ _ _ _ _ _ _=>rfl) (λ_ h=>h) T.size p (show T.size≤p+T.size by exact eQ) λj hj _=>iN (h j (by exact a8 hj))) (by have:=Ir hb (a:=3) kD;exact bu hb hb)
theorem xw{p e:Nat}(hb:T.size≤4294967295)(hp:p≤e)(he:e+2≤T.size)(h:∀s,p≤s→s<e→T.getD s 0≠92)(h1:T.getD e 0=92)(h2:T.getD (e+1) 0≠10):
  Found (Sre.forSearch gT T 1 p T.size false) e (e+1+1) #[some (e+1),some (e+1+1)] 1 1:=by
 rw[AA (by exact bu he hp)];have tl:∀{om:Bool}{se:Sre.Seen},Ru 8 ((cf gT T T.size).m e false 9 e e om (k0 2) [ns 9 e om] 1 none se) (Fin e (e+1+1) #[some (e+1),some (e+1+1)] 1 1):=λ{om se}=>by
  exact fP 2 16 (oH T _) rfl rfl (show e<T.size by exact a8 he) (Ol.mpr h1) λ_=>dN (pA (e+1) #[] none) rfl rfl λ_=>fP 1 2 (tJ T _) rfl rfl (show e+1<T.size by exact he) (bne_iff_ne.mpr h2) λ_=>dN ⟨#[some (e+1),some (e+1+1)],1,1,#[],none⟩ rfl kR λ_=>dw rfl rfl (.inl rfl) (.inl rfl) λ_=>.le (gF (fr:=[ns 9 e om]) ⟨.inl rfl,trivial⟩) (dZ rfl)
 rcases Nat.lt_or_eq_of_le hp with Po | rfl
 ·exact Ru.le (a:=8+1+2*(e-p-1)+1) (iN (h p (Oe _)∘λ_=>Po) _ _ _ _ _ _ _ _ λse=>Mr (k:=k0 2) (λ_ _ _ _ _ _ _ _=>rfl) (show e≤T.size by exact a8 he) (λk' se h1 h2 h3 h4 h5=>by obtain⟨_,_,_,_,_⟩:=k';cases h1;cases h2;cases h3;cases h4;cases h5;exact tl) (e-p-1) p (yD (ac (Nat.sub_pos_of_lt Po)) (ac hp)) rfl rfl rfl λj h1 h2=>iN λ_=>h j (by exact a8 h1) h2) (NT (have k:e-p-1≤T.size:=NT (Nat.sub_le ..) (NT (Nat.sub_le ..) (a8 he));bu k k) (Ir hb (a:=10) kD))
 ·exact .le tl (dZ rfl)
end
end Internal.Rx
end
end
section
open PySem
noncomputable section
namespace Internal.Rx
open Sre (M)
section
variable{T:Array Nat}{n:Nat}
noncomputable abbrev cw(T:Array Nat):Cf:=⟨uK,T,T.size,0,true⟩
theorem Gg(h:1≤T.size):Sre.forMatch uK T 0 0 T.size true false=(cw T).m 0 false 5 0 0 true (k0 0) [] 0 none (({}:Sre.Seen).add 14):=by
 refine(NY (λx=>?_)).trans kR;have:=NV (Oq.mp x).2;have this:T.size-0<1:=this;exact MG this h (ap (ac (b:=0) (a:=T.size) eQ))
def Bh(h:T.size<1):iW (Sre.forMatch uK T 0 0 T.size true false):=by
 have e:Sre.forMatch uK T 0 0 T.size true false=(cw T).m 0 false 5 0 0 true (k0 0) [] 0 (some false) (({}:Sre.Seen).add 14):=by
  exact(N1 (Oq.mpr ⟨rfl,N0 (show T.size-0<1 by exact h)⟩)).trans kR
 rw[e];exact ak 1 (dZ rfl) rfl
theorem BI(hb:T.size≤4294967295)(h0:1≤T.size)(h:∀j,j<T.size→IE (T.getD (0+j) 0)=true):Found (Sre.forMatch uK T 0 0 T.size true false) 0 (0+T.size) #[] (-1) (-1):=by
 rw[Gg h0];exact Ru.le (a:=2+2) (cJ (n:=T.size) (sk:=16) u9 rfl (mY ..) rfl (show 0+T.size≤T.size by exact eQ) hb h (λh=>absurd h (by show ¬0+T.size<T.size;exact an eQ)) h0 rfl rfl λ_=>dw rfl rfl (.inr (OM _)) (.inr (by exact aw (a8 h0))) λ_=>.le (gF (fr:=[gb _ _ true T.size _]) ⟨.inr (.inl rfl),trivial⟩) (dZ rfl)) (dZ rfl)
def F9:∀(m:Nat){pc pos hd:Nat}{k:Mk}{se:Sre.Seen},m+1<T.size→Ru (2+2*m) ((cw T).m 0 false pc pos hd true k [gb 5 (m+1) true (m+1) (k0 0)] 1 (some false) se) λm=>m.outcome=some .failed:=by
 intro m;induction m with
 |zero=>
  intro _ _ _ _ _ h;exact d9 (b:=1) (PT:=k0 0) rfl rfl (ak 1 (Oe _) rfl)
 |succ m ihr=>
  intro _ _ _ _ _ h;exact F0 (b:=2+2*m+1) (sk:=16) (PT:=k0 0) (show 1≤m+1 by exact ax) rfl rfl kD (Oe _) (je rfl rfl rfl (show m+1+1-1≠T.size by exact av (bu h (Nat.sub_le (m+1+1) 1))) rfl λ_=>ihr (by exact a8 h))
def Dr(hb:T.size≤4294967295)(hn:n<T.size)(h:∀j,j<n→IE (T.getD (0+j) 0)=true)(h1:IE (T.getD (0+n) 0)=false):iW (Sre.forMatch uK T 0 0 T.size true false):=by
 by_cases hs:T.size<1
 ·exact Bh hs
 rw[Gg (by exact al hs)];cases n with
 |zero=>exact Ru.le (a:=2) (pB (n:=0) (least:=1) u9 rfl (mY ..) (Oc _) hb g3 (λ_=>h1) kD λ_=>ak 1 (Oe _) rfl) (dZ rfl)
 |succ n=>
  refine Ru.le (a:=2+2*n+1+1) (cJ (n:=n+1) (sk:=16) u9 rfl (mY ..) rfl (show 0+(n+1)≤T.size by exact a8 hn) hb h (λ_=>h1) (show 1≤n+1 by exact ax) rfl rfl λ_=>je rfl rfl rfl (show 0+(n+1)≠T.size by exact av (a8 hn)) rfl λ_=>?_) (by have:=Ir (a:=4) (b:=n) (by exact bu hn hb) kD;exact Hj hn hn hb hb);rw[OM];exact F9 n hn
theorem Ks{c:Cf}{st mu pc pos hd om k fr w an}(hC:c.C=lR){r:Option Nat}:∀(d s:Nat)(se:Sre.Seen),c.L<s+d →
  (match r with | none=>∀j,s≤j→j<c.L→jv (c.T.getD j 0)=false | some e=>s≤e∧e<c.L∧jv (c.T.getD e 0)=true∧∀j,s≤j→j<e→jv (c.T.getD j 0)=false) →
  ∀Q6,∃Qj,Sre.M.admitted (c.m st mu pc pos hd om k fr w an Q6) d s se=.ok (r,Qj):=by
 intro d;induction d with
 |zero=>
  intro s se h hr _;cases r with
  |none=>exact⟨se,rfl⟩
  |some e=>exact absurd hr.2.1 (Nat.not_lt.mpr (bu h hr.1))
 |succ d ihr=>
  intro s se h hr Q6;by_cases hs:s≥c.L
  ·cases r with
   |none=>exact⟨se,N1 hs⟩
   |some e=>exact absurd hr.2.1 (Nat.not_lt.mpr (bu hs hr.1))
  refine a9 (E0 (c.T.getD s 0) se) λQj e1=>?_;have e0:Sre.M.admitted (c.m st mu pc pos hd om k fr w an Q6) (d+1) s se=match Sre.inSet lR (c.T.getD s 0) lR.size 5 true se with
   |.ok (true,seen)=>.ok (some s,seen)
   |.ok (false,seen)=>Sre.M.admitted (c.m st mu pc pos hd om k fr w an Q6) d (s+1) seen
   |.error why=>.error why:=by rw[hC.symm];exact NY hs
  rw[e0,e1];cases q:jv (c.T.getD s 0) with
  |true=>
   cases r with
   |none=>exact absurd (hr s (Oe _) (am hs)) (by rw[q];decide)
   |some e=>
    refine bD hr λh1 h2 h3 h4=>?_;by_cases he:e=s
    ·subst he;exact⟨Qj,rfl⟩
    ·exact absurd (h4 s (Oe _) (Nat.lt_of_le_of_ne (by assumption) (Ne.symm he))) (by rw[q];decide)
  |false=>
   refine ihr (s+1) Qj (a8 h) ?_ Q6;cases r with
   |none=>exact λj h1 h2=>hr j (a8 h1) h2
   |some e=>
    refine bD hr λh1 h2 h3 h4=>aS ?_ h2 h3 (λj h1 h2=>h4 j (a8 h1) h2);by_cases he:e=s
    ·subst he;rw[q] at h3;cases h3
    ·exact Nat.lt_of_le_of_ne (by assumption) (Ne.symm he)
theorem GD{p:Nat}(h:p+1≤T.size){r:Option Nat}(hr:match r with | none=>∀j,p≤j→j<T.size→jv (T.getD j 0)=false | some e=>p≤e∧e<T.size∧jv (T.getD e 0)=true∧∀j,p≤j→j<e→jv (T.getD j 0)=false):
  ∃se,Sre.forSearch lR T 1 p T.size false=match r with | none=>(cf lR T T.size).m p false 10 p p true (k0 2) [] 0 (some false) se | some e=>(cf lR T T.size).m e false 10 e e true (k0 2) [ns 10 e true] 1 none se:=by
 refine a9 (Ks (c:=cf lR T T.size) (st:=p) (mu:=false) (pc:=10) (pos:=p) (hd:=p) (om:=true) (k:=k0 2) (fr:=[]) (w:=0) (an:=none) rfl (r:=r) (T.size+1-p) p (({}:Sre.Seen).add 14) (show T.size<p+(T.size+1-p) by exact a8 (ap (ac (b:=p) (a:=(T.size+1)) (a8 h)))) hr (({}:Sre.Seen).add 14)) λse e1=>⟨se,(NY (orF (show ¬p>T.size by exact an (a8 h)) (show ¬T.size-p<1 by exact an (bu h (ap (ac (b:=p) (a:=T.size) (a8 h))))))).trans ?_⟩;have e2:Sre.M.attemptFrom ((cf lR T T.size).m p false 10 p p true (k0 2) [] 0 none (({}:Sre.Seen).add 14)) p true=match Sre.M.admitted ((cf lR T T.size).m p false 10 p p true (k0 2) [] 0 none (({}:Sre.Seen).add 14)) (T.size+1-p) p (({}:Sre.Seen).add 14) with
  |.ok (some s,seen)=>M.attemptAt ((cf lR T T.size).m p false 10 p p true (k0 2) [] 0 none seen) s true
  |.ok (none,seen)=>(cf lR T T.size).m p false 10 p p true (k0 2) [] 0 (some false) seen
  |.error why=>M.stick ((cf lR T T.size).m p false 10 p p true (k0 2) [] 0 none (({}:Sre.Seen).add 14)) why:=kR
 rw[e1] at e2;refine Eq.trans ?_ (e2.trans ?_)
 ·kernel_rfl
 ·cases r<;>rfl
def wY{p:Nat}(h:∀j,p≤j→j<T.size→jv (T.getD j 0)=false):iW (Sre.forSearch lR T 1 p T.size false):=by
 by_cases hs:p+1≤T.size
 ·refine a9 (GD (r:=none) hs h) λse e=>?_;rw[e];exact ak 1 (dZ rfl) rfl
 ·have e:Sre.forSearch lR T 1 p T.size false=(cf lR T 0).m p false 10 p p true (k0 2) [] 0 (some false) (({}:Sre.Seen).add 14):=by
   refine(N1 (orT (show T.size-p<1 by rw[ad (Nat.le_of_lt_succ (am hs))];decide))).trans ?_;kernel_rfl
  rw[e];exact ak 1 (dZ rfl) rfl
theorem BU{p e:Nat}(hp:p≤e)(he:e<T.size)(h:∀s,p≤s→s<e→jv (T.getD s 0)=false)(h1:jv (T.getD e 0)=true):
  Found (Sre.forSearch lR T 1 p T.size false) e (e+1) #[some e,some (e+1)] 1 1:=by
 refine a9 (GD (r:=some e) (bu he hp) (aS hp he h1 h)) λse e1=>?_;rw[e1];exact Ru.le (a:=6) (dN (pA e #[] none) rfl rfl λ_=>fP 7 13 IP rfl rfl (show e<T.size from he) h1 λ_=>dN ⟨#[some e,some (e+1)],1,1,#[],none⟩ rfl kR λ_=>dw rfl rfl (.inl rfl) (.inl rfl) λ_=>.le (gF (fr:=[ns 10 e true]) ⟨.inl rfl,trivial⟩) (dZ rfl)) (dZ rfl)
end
end Internal.Rx
end
end
section
namespace Internal
noncomputable abbrev U(l a b:Nat):PySem.Pos:=⟨l,a,l,b⟩
end Internal
end
noncomputable section
open PySem PySem.Calls PySem.Spec PySem.W PyProof.Rows
namespace Internal
variable{h h' O4 hb Qb:Heap}{vs QD:List Value}{a I D Ca ca:Addr}{p q r pos ap p' nq cq:Pos}{tk n ep i j lc ln ar n' bits PF:Nat}{s s' s'' O0 OP OR O5:Shared}{u self f:Value}{y x sep:Str}{E Q E':Value→Shared→Prop}{ps:List PyData}{ob oI:Obj}{pl:Sem Bool}{ts:List Str}{G:Value→Prop}{Zn N:Addr→Prop}{fp:List Addr}{env:Env}{kw binds:List (Str×Value)}{lam:Expr}{cd:Option (Addr×Str)}{prog:Program}{RN fx:List Expr}{sc:Scope}{cap pre od qs rdy fin sn:List Nat}{gens:List Comprehension}{Pv:Nat→Value→Prop}{Sv:Nat→Heap→Prop}{cl:List (Str×Addr)}{use:Option (Value→Sem Unit)}{pa:Addr×Addr}{bd:List Stmt}{hs lm li way:Int}{B:Around}{b':Array UInt8}{Φ:Sre.M→Prop}{ms:Array (Option Nat)}{rep:Nat→Nat→Array (Option Nat)→Str→Prop}{wc:Bool}{np:Nat→Int}{su:Nat→List Nat}
section
set_option genCtorIdx true in
inductive PV where
 |none
 |bool (b:Bool)
 |int (i:Int)
 |str (x:Str)
 |bytes (b:Array UInt8)
 |typ (n:String)
 |tup (l:List PV)
 |lst (l:List PV)
 |mat (x:Str) (sp:List Int)
 |obj (i:Nat)
 |rng (n:Int)
 |vw (i:Nat)
structure Gh where
 Z:Addr→Prop
 W:Addr→Prop
 ad:List (Addr×Addr)
 sub:∀a,W a→Z a
noncomputable abbrev dX(vs:List Value)(n:Nat):Obj:={cls:=.type "tuple",data:=.seq vs.toArray n}
noncomputable abbrev cE(vs:List Value)(n:Nat):Obj:={cls:=.type "list",data:=.seq vs.toArray n}
noncomputable abbrev qx(x:Str)(t:Tok)(p po le li:Value)(b:Addr):Obj:={cls:=.type "re.Match",data:=.fields #[.str x t,p,po,le,li,.ref b]}
noncomputable abbrev Nr(d:Addr):Obj:={cls:=.type "dict_values",data:=.fields #[.ref d]}
noncomputable abbrev JW(n:Int)(t u v:Tok):Obj:={cls:=.type "range",data:=.fields #[.int 0 t,.int n u,.int 1 v]}
mutual
noncomputable def abb(g:Gh)(h:Heap):PV→Value→Prop
 |.none,v=>v=.none
 |.bool b,v=>v=.bool b
 |.int i,v=>∃t,v=.int i t
 |.str x,v=>∃t,v=.str x t
 |.bytes b,v=>∃t,v=.bytes b t
 |.typ n,v=>v=.type n
 |.tup ds,v=>∃a vs n,v=.ref a∧¬g.Z a∧h.get? a=some (dX vs n)∧aD g h ds vs
 |.lst ds,v=>∃a vs n,v=.ref a∧¬g.Z a∧h.get? a=some (cE vs n)∧aD g h ds vs
 |.mat x sp,v=>∃a b t p po le li n,v=.ref a∧¬g.Z a∧¬g.Z b∧h.get? a=some (qx x t p po le li b)∧h.get? b=some (dX (sp.map rawInt) n)
 |.obj i,v=>∃p,v=.ref p.1∧g.ad[i]?=some p
 |.rng n,v=>∃a t u w,v=.ref a∧¬g.Z a∧h.get? a=some (JW n t u w)
 |.vw i,v=>∃a p,v=.ref a∧¬g.Z a∧h.get? a=some (Nr p.1)∧g.ad[i]?=some p
noncomputable def aD(g:Gh)(h:Heap):List PV→List Value→Prop
 |[],vs=>vs=[]
 |d::ds,vs=>∃v r,vs=v::r∧abb g h d v∧aD g h ds r
end
structure aC(g g':Gh)(h h':Heap):Prop where
 obj:∀a o,¬g.Z a→h.get? a=some o→¬g'.Z a∧h'.get? a=some o
 ad:∀(i:Nat)(p:Addr×Addr),g.ad[i]?=some p→g'.ad[i]?=some p
def abb.over{g g':Gh}(o:aC g g' h h'):∀{d:PV}{v:Value},abb g h d v→abb g' h' d v:=by
 intro d;induction d using PV.rec (motive_2:=λds=>∀{vs:List Value},aD g h ds vs→aD g' h' ds vs) with
 |tup _ ih=>exact λr=>r.imp λ_=>.imp λ_=>.imp λ_ q=>aS q.1 ((o.obj _ _ q.2.1 q.2.2.1).1) ((o.obj _ _ q.2.1 q.2.2.1).2) (ih q.2.2.2)
 |lst _ ih=>exact λr=>r.imp λ_=>.imp λ_=>.imp λ_ q=>aS q.1 ((o.obj _ _ q.2.1 q.2.2.1).1) ((o.obj _ _ q.2.1 q.2.2.1).2) (ih q.2.2.2)
 |mat=>exact λr=>r.imp λ_=>.imp λ_=>.imp λ_=>.imp λ_=>.imp λ_=>.imp λ_=>.imp λ_=>.imp λ_ q=>bY q.1 ((o.obj _ _ q.2.1 q.2.2.2.1).1) ((o.obj _ _ q.2.2.1 q.2.2.2.2).1) ((o.obj _ _ q.2.1 q.2.2.2.1).2) ((o.obj _ _ q.2.2.1 q.2.2.2.2).2)
 |obj=>exact λr=>r.imp λ_ q=>⟨q.1,o.ad _ _ q.2⟩
 |rng=>exact λr=>r.imp λ_=>.imp λ_=>.imp λ_=>.imp λ_ q=>⟨q.1,(o.obj _ _ q.2.1 q.2.2).1,(o.obj _ _ q.2.1 q.2.2).2⟩
 |vw=>exact λr=>r.imp λ_=>.imp λ_ q=>aS q.1 ((o.obj _ _ q.2.1 q.2.2.1).1) ((o.obj _ _ q.2.1 q.2.2.1).2) (o.ad _ _ q.2.2.2)
 |cons _ _ h1 h2 r=>exact r.imp λ_=>.imp λ_ q=>⟨q.1,h1 q.2.1,h2 q.2.2⟩
 |nil r=>exact r
 |_=>exact λr=>r
theorem aD.over{g g':Gh}(o:aC g g' h h'):∀{ds:List PV}{vs:List Value},aD g h ds vs→aD g' h' ds vs:=by
 intro ds;induction ds with
 |nil=>exact λr=>r
 |cons _ _ ih=>exact λr=>r.imp λ_=>.imp λ_ q=>⟨q.1,q.2.1.over o,ih q.2.2⟩
section
variable{g:Gh}{v:Value}{ws:List Value}{d:PV}{ds es:List PV}
theorem aD.length:∀{ds:List PV}{vs:List Value},aD g h ds vs→vs.length=ds.length:=by
 intro ds;induction ds with
 |nil=>
  intro _ r;exact r▸rfl
 |cons _ _ ihr=>
  intro _ Sa;exact cA Sa λ_ _ e _ q=>e▸N2 Nat.succ (ihr q)
def aD.append(q:aD g h es ws):∀{ds:List PV}{vs:List Value},aD g h ds vs→aD g h (ds++es) (vs++ws):=by
 intro ds;induction ds with
 |nil=>
  intro _ r;exact r▸q
 |cons _ _ ihr=>
  intro _ Sa;exact cA Sa λv r e a p=>aN v (r++ws) (e▸rfl) a (ihr p)
def aD.one(r:abb g h d v):aD g h [d] [v]:=aN v [] rfl r rfl
def aD.get{d:PV}:∀{ds:List PV}{vs:List Value}{k:Nat},aD g h ds vs→ds[k]?=some d→∃v,vs[k]?=some v∧abb g h d v:=by
 intro ds;induction ds with
 |nil=>exact λ_ hk=>nomatch hk
 |cons x ds ih=>
  intro vs k r hk;refine r.elim λv r=>r.elim λr q=>?_;rw[q.1];cases k with
  |zero=>exact ak v rfl (NW hk▸q.2.1)
  |succ k=>exact ih (vs:=r) (k:=k) q.2.2 hk
theorem aD.at{v:Value}:∀{ds:List PV}{vs:List Value}{k:Nat},aD g h ds vs→vs[k]?=some v→∃d,ds[k]?=some d∧abb g h d v:=by
 intro ds;induction ds with
 |nil=>intro vs k r hk;rw[show vs=[] from r] at hk;cases hk
 |cons x ds ih=>
  intro vs k r hk;refine r.elim λv r=>r.elim λr q=>?_;rw[q.1] at hk;cases k with
  |zero=>exact ak x rfl (NW hk▸q.2.1)
  |succ k=>exact ih (vs:=r) (k:=k) q.2.2 hk
theorem aD.take:∀{ds:List PV}{vs:List Value}(n:Nat),aD g h ds vs→aD g h (ds.take n) (vs.take n):=by
 intro ds;induction ds with
 |nil=>intro vs n r;rw[show vs=[] from r,List.take_nil,List.take_nil];rfl
 |cons x ds ih=>
  intro vs n r;cases n with
  |zero=>exact rfl
  |succ n=>exact r.imp λv=>.imp' (List.take n) λr q=>⟨by rw[q.1];rfl,q.2.1,ih n q.2.2⟩
theorem aD.drop:∀{ds:List PV}{vs:List Value}(n:Nat),aD g h ds vs→aD g h (ds.drop n) (vs.drop n):=by
 intro ds;induction ds with
 |nil=>intro vs n r;rw[show vs=[] from r,List.drop_nil,List.drop_nil];rfl
 |cons x ds ih=>
  intro vs n r;cases n with
  |zero=>exact r
  |succ n=>exact r.elim λv r=>r.elim λr q=>by rw[q.1];exact ih n q.2.2
end
def Gh.abh(g:Gh)(h:Heap):Prop:=∀a,g.Z a→∃o,h.get? a=some o
def be(h:Heap):h.get? h.objs.size=none:=by
 cases e:h.get? h.objs.size with
 |none=>rfl
 |some o=>exact absurd (Heap.lt_size e) (Nat.lt_irrefl _)
def c8{P:Prop}(x:∃o,h.get? a=some o)(y:h.get? a=none):P:=by
 refine a9 x λo e=>?_;rw[y] at e;cases e
def Gh.abh.new{g:Gh}(x:g.abh h):¬g.Z h.objs.size:=λz=>c8 (x _ z) (be h)
def Apart(p q:Addr×Addr):Prop:=p.1≠q.1∧p.1≠q.2∧p.2≠q.1∧p.2≠q.2
theorem Apart.symm{p q:Addr×Addr}(a:Apart p q):Apart q p:=aS a.1.symm a.2.2.1.symm a.2.1.symm a.2.2.2.symm
structure Tb where
 P:Addr
 c:Addr
 pos:Pos
 qual:Str
def Tb.At(t:Tb)(g:Gh)(h:Heap):Prop:=∃ps:Array Value,h.get? t.P=some {cls:=.none,data:=.fields ps}∧TriplesOk ps.toList ∧
 (codeAmong t.pos ps.toList=none∨∃c oc vs u,codeAmong t.pos ps.toList=some (.ref c)∧¬g.Z c∧h.get? c=some oc∧oc.data=.fields vs∧vs[1]?=some (.str t.qual u))
structure Cx where
 prog:Program
 w:World
 base:Heap
 tabs:List Tb
noncomputable abbrev Cx.M(S:Cx):Model:=model S.prog S.w
def Cx.T(S:Cx)(b:Addr):Prop:=∃t∈S.tabs,t.P=b
def Cx.TI(S:Cx)(g:Gh)(h:Heap):Prop:=∀t∈S.tabs,t.At g h
def Tb.At.over{t:Tb}{g g':Gh}(x:t.At g h)(o:∀a o,¬g.Z a→h.get? a=some o→¬g'.Z a∧h'.get? a=some o)(k:∀o,h.get? t.P=some o→h'.get? t.P=some o):t.At g' h':=
 x.imp λ_ q=>⟨k _ q.1,q.2.1,q.2.2.imp id λr=>r.imp λ_=>.imp λ_=>.imp λ_=>.imp λ_ r=>aS r.1 ((o _ _ r.2.1 r.2.2.1).1) ((o _ _ r.2.1 r.2.2.1).2) r.2.2.2⟩
structure Kp0(S:Cx)(g:Gh)(s s':Shared):Prop where
 same:∃h tk,s'={s with heap:=h,toks:=tk}
 abc:∀b o,¬S.T b→s.heap.get? b=some o→s'.heap.get? b=some o
 ex:∀b,(∃o,s.heap.get? b=some o)→∃o,s'.heap.get? b=some o
 ti:S.TI g s.heap→S.TI g s'.heap
section
variable{S:Cx}{g:Gh}
def Kp0.trans(a:Kp0 S g s s')(b:Kp0 S g s' s''):Kp0 S g s s'':=by
 refine⟨ce a.same λh t Pt=>?_,λx o t e=>b.abc x o t (a.abc x o t e),λx e=>b.ex x (a.ex x e),λt=>b.ti (a.ti t)⟩;obtain rfl:=Pt;refine ce b.same λh' t' O8=>?_;obtain rfl:=O8;exact aG h' t' rfl
def Kp0.of(k:∀b o,s.heap.get? b=some o→h'.get? b=some o):Kp0 S g s {s with heap:=h',toks:=tk}:=
 ⟨aG h' tk rfl,λb o _ e=>k b o e,λ_ e=>e.imp λ_=>k _ _,λt x m=>(t x m).over (λa o z e=>⟨z,k a o e⟩) λ_=>k _ _⟩
def Kp0.refl:Kp0 S g s s:=Kp0.of (h':=s.heap) (tk:=s.toks) λ_ _ e=>e
theorem Kp0.toks{t:Nat}:Kp0 S g s {s with toks:=t}:=Kp0.of (h':=s.heap) λ_ _ e=>e
theorem Kp0.push{o:Obj}{t:Nat}:Kp0 S g s {s with heap:=s.heap.push o,toks:=t}:=Kp0.of λ_ _ e=>NS o e
def Kp0.abu{o:Obj}:Kp0 S g s {s with heap:=s.heap.push o}:=Kp0.of (tk:=s.toks) λ_ _ e=>NS o e
end
def aC.of{g:Gh}(k:∀b o,h.get? b=some o→h'.get? b=some o):aC g g h h':=⟨λ_ _ z e=>⟨z,k _ _ e⟩,λ_ _ e=>e⟩
theorem aC.push{g:Gh}{o:Obj}:aC g g h (h.push o):=.of λ_ _ e=>NS o e
def aC.trans{g g' Ud:Gh}{h'':Heap}(a:aC g g' h h')(b:aC g' Ud h' h''):aC g Ud h h'':=
 ⟨λx o z e=>have q:=a.obj x o z e;b.obj x o q.1 q.2,λi p e=>b.ad i p (a.ad i p e)⟩
section
variable{g:Gh}{ds:List PV}
def abb.newList(T:g.abh h)(r:aD g h ds vs)(n:Nat:=0):abb g (h.push (cE vs n)) (.lst ds) (.ref h.objs.size):=
 (aH _ vs n rfl T.new (NZ _ rfl) (r.over .push))
def abb.newTuple(T:g.abh h)(r:aD g h ds vs)(n:Nat:=0):abb g (h.push (dX vs n)) (.tup ds) (.ref h.objs.size):=
 (aH _ vs n rfl T.new (NZ _ rfl) (r.over .push))
end
end
end Internal
end
section
open PySem PySem.Calls PySem.W PyProof.Rows
noncomputable section
namespace Internal
theorem Runs.toks{M:Model}{Γ:Ctx}{p:Pos}{t:Sem Fin}{fs:List Frame}{s s':Shared}{e:End}(h:Runs M Γ p t fs s e s'):s.toks≤s'.toks:=by
 induction h<;>first | exact Oe _ | assumption | (exact NT (Nat.le_succ _) ‹_›) | (exact NT ‹_› ‹_›)
theorem Wakes.toks{M:Model}{Γ:Ctx}{p:Pos}{g:Nat}{r:Resume}{s s':Shared}{x:GenResult}(h:Wakes M Γ p g r s x s'):s.toks≤s'.toks:=by
 revert h;delta Wakes;have f:∀{OP},s'=OP→OP.toks≤s'.toks:=λe=>Nat.le_of_eq (N2 Shared.toks e.symm);cases s.gens[g]? with
 |none=>exact False.elim
 |some q=>
  cases q with
  |fresh c=>
   cases r with
   |send v=>
    cases v with
    |none=>exact λh=>h.elim λe h=>h.elim λOP h=>NT (m:=OP.toks) (show s.toks≤OP.toks from Runs.toks (s:=s.setGen g .running) h.1) (f (OP:=OP.setGen g e.genState) h.2.2.2)
    |_=>exact λh=>f h.2
   |throw x=>exact λh=>f (OP:=s.setGen g .finished) h.2
  |suspended _ _ _ _ _ _=>exact λh=>h.elim λe h=>h.elim λOP h=>NT (m:=OP.toks) (show s.toks≤OP.toks from Runs.toks (s:=s.setGen g .running) h.1) (f (OP:=OP.setGen g e.genState) h.2.2.2)
  |_=>exact λh=>f h.2
def Fv{α:Type}{M:Model}{Γ:Ctx}{n:Nat}(t:Sem α):∀{Q:α→Pos→Shared→Prop}{E:Value→Pos→Shared→Prop}{p:Pos}{s:Shared},n≤s.toks→Sem.wp M Γ t (λa p s'=>n≤s'.toks→Q a p s') E p s→Sem.wp M Γ t Q E p s:=by
 induction t with
 |pure a=>exact λh q=>q h
 |raise e=>exact λh q=>q
 |unsupported _=>exact λh q=>q
 |finish _=>exact λh q=>q
 |rule _ k ih=>exact λh q=>ih _ h q
 | «at» _ k ih=>exact λh q=>ih _ h q
 |load a _ k ih=>exact λh q=>q.imp λo q=>⟨q.1,ih _ h q.2⟩
 |update a _ f k ih=>exact λh q=>⟨q.1,ih _ h q.2⟩
 |alloc o k ih=>exact λh q=>ih _ h q
 |loadIfAlive a k ih=>exact λh q=>ih _ h q
 |point _ k ih=>exact λh q=>ih _ h q
 |register _ _=>exact λh q=>q
 |fresh k ih=>exact λh q=>ih _ (Nat.le_succ_of_le h) q
 |ask k ih=>exact λh q=>ih _ h q
 |choose _ _ k ih=>exact λh q=>⟨q.1,ih _ h q.2⟩
 |os _ _ k ih=>exact λh q=>ih _ h q
 |call c _ _ _ k ih=>exact λh q=>q.imp λr=>.imp λs' q=>⟨q.1,ih _ (NT h (Runs.toks q.1)) q.2⟩
 |handled _ k ih=>exact λh q=>ih _ h q
 |newGen c k ih=>exact λh q=>ih _ h q
 |genState g k ih=>exact λh q=>q.imp λo q=>⟨q.1,ih _ h q.2⟩
 |resume g r _ k ih=>exact λh q=>q.imp λr=>.imp λs' q=>⟨q.1,ih _ (NT h (Wakes.toks q.1)) q.2⟩
 |yield _ _ _ _=>exact λh q=>q
 |stack k ih=>exact λh q=>ih _ h q
 |fork _ _=>exact λh q=>q
 |thread k ih=>exact λh q=>ih _ h q
 |await _ _ _ _ _=>exact λh q=>q
def wpAny_toks{α:Type}{M:Model}{A:Around}{t:Sem α}{Q:α→Shared→Prop}{E:Value→Shared→Prop}{s:Shared}(h:wpAny M A t (λa s'=>s.toks≤s'.toks→Q a s') E s):wpAny M A t Q E s:=
 fun Γ p hΓ=>Fv t (Oe _) (h Γ p hΓ)
end Internal
end
end
noncomputable section
open PySem PySem.Calls PySem.Spec PySem.W PyProof.Rows
namespace Internal
variable{g g' Ud gh:Gh}{h h' O4 hb Qb:Heap}{d pd z:PV}{vs QD:List Value}{ds ws as ss O7 out us ys:List PV}{a I D Ca ca:Addr}{p q r pos ap p' nq cq:Pos}{tk n ep i j lc ln ar n' bits PF:Nat}{S:Cx}{s s' s'' O0 OP OR O5:Shared}{u self f:Value}{y x sep:Str}{E Q E':Value→Shared→Prop}{ps:List PyData}{ob oI:Obj}{pl:Sem Bool}{ts:List Str}{G:Value→Prop}{Zn N:Addr→Prop}{fp:List Addr}{env:Env}{fs:List (Str×PV)}{kw binds:List (Str×Value)}{lam:Expr}{cd:Option (Addr×Str)}{prog:Program}{RN fx:List Expr}{sc:Scope}{cap pre od qs rdy fin sn:List Nat}{gens:List Comprehension}{Pv:Nat→Value→Prop}{Sv:Nat→Heap→Prop}{Kf:List PV→Prop}{cl:List (Str×Addr)}{use:Option (Value→Sem Unit)}{pa:Addr×Addr}{bd:List Stmt}{RK:Str→List PV→PV→PV→Prop}{hs lm li way:Int}{B:Around}{b':Array UInt8}{Φ:Sre.M→Prop}{ms:Array (Option Nat)}{LP:Gh→Heap→Prop}{rep:Nat→Nat→Array (Option Nat)→Str→Prop}{wc:Bool}{np:Nat→Int}{su:Nat→List Nat}
section
set_option genCtorIdx true in
inductive tI where
 |add | sub | mul | mod | fdiv | pow | shl | shr | band | bor | bxor
noncomputable def tI.op:tI→Operator
 |.add=>.Add | .sub=>.Sub | .mul=>.Mult | .mod=>.Mod | .fdiv=>.FloorDiv | .pow=>.Pow | .shl=>.LShift | .shr=>.RShift | .band=>.BitAnd | .bor=>.BitOr | .bxor=>.BitXor
def aT{α:Type}{x:α}{P:Prop}(h:none=some x):P:=by cases h
def cG(b:Bool)(P:Prop):Prop:=match b with
 |true=>P
 |false=>False
def el{α:Type}(o:Option α)(K:α→Prop):Prop:=match o with
 |some d=>K d
 |none=>False
def bE{b:Bool}{P:Prop}(h:b=true)(p:P):cG b P:=by subst h;exact p
def bk{b:Bool}{P:Prop}(h:cG b P):b=true:=by cases b;exact h.elim;rfl
def aY{b:Bool}{P:Prop}(h:cG b P):P:=by cases b;exact h.elim;exact h
def aQ{α:Type}{o:Option α}{K:α→Prop}{d:α}(h:o=some d)(k:K d):el o K:=by subst h;exact k
def a6{α:Type}{o:Option α}{K:α→Prop}{P:Prop}(h:el o K)(f:∀d,o=some d→K d→P):P:=by
 cases o with
 |none=>exact h.elim
 |some d=>exact f d rfl h
def ai{a b:Bool}(h:(a&&b)=true):a=true:=(Oq.mp h).1
def ae{a b:Bool}(h:(a&&b)=true):b=true:=(Oq.mp h).2
noncomputable def aE(n:Nat):Bool:=Nat.ble n 1000000
def dq(h:aE n=true):n≤1000000:=Nat.le_of_ble_eq_true h
def aO(h:aE n=true):n≤sizeLine:=NT (dq h) kD
def au(h:n≤1000000):aE n=true:=Nat.ble_eq_true_of_le h
noncomputable def cY(a:Int):Bool:=decide (-(2^63)≤a)&&decide (a<2^63)
def lT{a:Int}(h:cY a=true):-(2^63)≤a:=NV (ai h)
def lG{a:Int}(h:cY a=true):a<2^63:=NV (ae h)
noncomputable def j4:Str:="\"%s\""
noncomputable def cB(y:Str):Str:=("\"":Str)++y++("\"":Str)
def KG(op:tI)(a b:Int)(K:Int→Prop):Prop:=match op with
 |.add=>K (a+b)
 |.sub=>K (a-b)
 |.mul=>cG (cY a||cY b) (K (a*b))
 |.mod=>cG (!decide (b=0)) (K (a.fmod b))
 |.fdiv=>cG (!decide (b=0)) (cG (decide (b.natAbs<1073741824)) (K (a.fdiv b)))
 |.pow=>cG (decide (0≤b)) (cG (decide (b≤1000)) (cG (cY a) (K (a^b.toNat))))
 |.shl=>cG (decide (0≤b)) (cG (decide (b≤1000)) (cG (cY a) (K (a*2^b.toNat))))
 |.shr=>cG (decide (0≤b)) (K (a.fdiv (2^b.toNat)))
 |.band=>K (Builtin.bitAnd a b)
 |.bor=>K (Builtin.bitOr a b)
 |.bxor=>K (Builtin.bitXor a b)
def KK(op:tI)(x:Str)(d:PV)(K:PV→Prop):Prop:=match op with
 |.add=>(match d with
  |.str y=>cG (aE (x.length+y.length)) (K (.str (x++y)))
  |_=>False)
 |.mod=>(match d with
  |.str y=>cG (decide (x=j4)) (cG (aE y.length) (K (.str (cB y))))
  |_=>False)
 |_=>False
def KZ(op:tI)(l:List PV)(d:PV)(K:PV→Prop):Prop:=match op with
 |.add=>(match d with
  |.lst m=>cG (aE (l.length+m.length)) (K (.lst (l++m)))
  |_=>False)
 |.mul=>(match d with
  |.int b=>cG (decide (0≤b)) (cG (decide (b≤1)) (cG (aE l.length) (K (.lst (if b=0 then[] else l)))))
  |_=>False)
 |_=>False
def fo(op:tI)(x y:PV)(K:PV→Prop):Prop:=match x with
 |.int a=>(match y with
  |.int b=>KG op a b λi=>K (.int i)
  |_=>False)
 |.str x=>KK op x y K
 |.lst l=>KZ op l y K
 |_=>False
section
variable{A:Around}{K:PV→Prop}
def jk{a:Int}(h:cY a=true):Builtin.Int.intBits a≤64:=intBits_le_64 (Int.lt_of_lt_of_le kD (lT h)) (Int.lt_trans (lG h) kD)
def zl{b:Int}(h:n≤64)(h0:0≤b)(h1:b≤1000):(n:Int)*b≤2^27:=by
 have h2:(n:Int)≤64:=by exact_mod_cast h
 exact Int.le_trans (Int.mul_le_mul h2 h1 h0 kD) kD
def w5{p:Prop}[Decidable p](h:(!decide p)=true):¬p:=by simpa using h
theorem t8{op:tI}{a b:Int}{t u:Tok}{K:Int→Prop}(hb:KG op a b K)(hs:∀i t k,K i→Q (.int i t) {s with toks:=k}):
  wpAny S.M A (binaryOp op.op (.int a t) (.int b u)) Q E s:=by
 cases op with
 |add=>exact PyProof.Rows.add_int (hs _ _ _ hb)
 |sub=>exact PyProof.Rows.sub_int (hs _ _ _ hb)
 |mul=>
  exact PyProof.Rows.mul_int (hs _ _ _ (aY hb)) ((On.mp (bk hb)).elim (λq=>IntMulOk.of_left (jk q)) λq=>IntMulOk.of_right (jk q))
 |mod=>exact PyProof.Rows.mod_int (w5 (bk hb)) (hs _ _ _ (aY hb))
 |fdiv=>exact PyProof.Rows.floordiv_int (w5 (bk hb)) (hs _ _ _ (aY (aY hb))) (.inl (PyProof.noPylong_small (NV (bk (aY hb)))))
 |pow=>exact PyProof.Rows.pow_int (NV (bk hb)) (zl (jk (bk (aY (aY hb)))) (NV (bk hb)) (NV (bk (aY hb)))) (hs _ _ _ (aY (aY (aY hb))))
 |shl=>
  have h0:=NV (bk hb);have h1:=NV (bk (aY hb));have h2:=bk (aY (aY hb));have:=lT h2;have:=lG h2;exact PyProof.Rows.lshift_int_small h0 (by lia) (by lia) (hs _ _ _ (aY (aY (aY hb))))
 |shr=>exact PyProof.Rows.rshift_int (NV (bk hb)) (hs _ _ _ (aY hb))
 |band=>exact PyProof.Rows.and_int (hs _ _ _ hb)
 |bor=>exact PyProof.Rows.or_int (hs _ _ _ hb)
 |bxor=>exact PyProof.Rows.xor_int (hs _ _ _ hb)
def xu{t u:Tok}(hy:aE y.length=true)(h:∀t' k,Q (.str (cB y) t') {s with toks:=k}):wpAny S.M A (binaryOp .Mod (.str j4 t) (.str y u)) Q E s:=by
 refine KPc.mod_str (X':=⟨#[34,37,115,34]⟩) (T:=cB) kE (dq hy) ?_ h
 kpc_run_s
theorem Ek{k:Nat}{x:Int}{u:Tok}(hl:s.heap.get? a=some (cE vs k))(h0:0≤x)(h1:x≤1)(QQ:vs.length≤1000000)(h:Q (.ref s.heap.objs.size) {s with heap:=s.heap.push (cE (if x=0 then[] else vs) 0)}):wpAny S.M A (binaryOp .Mult (.ref a) (.int x u)) Q E s:=by
 have Se:vs.length*x.toNat≤1000000:=NT (Nat.mul_le_mul_left _ (Int.toNat_le.mpr h1)) (a8 QQ);have hm:vs.toArray.size*x.toNat≤1000000:=by rw[N4];exact Se
 have he:List.foldl (λx1 x2=>x1++x2) (#[]:Array Value) (List.replicate (if vs.toArray.isEmpty=true then 0 else x.toNat) vs.toArray)=(if x=0 then[] else vs).toArray:=by
  rcases(by lia:x=0∨x=1) with rfl | rfl
  ·simp
  ·cases vs with
   |nil=>rfl
   |cons v vs=>simp
 exact wpAny_binaryOp_repeat_ref (T:="list") (U:="int") kD (ak _ hl rfl) (λs'=>typeIs_int s' x u) noFill_list_mul F.fills_int_mul F.slot_int_rmul repeat_list F.slot_int_index.lookup
  (call_meets F.slot_int_rmul (typeIs_int s x u) F.entry_int_rmul (F.args_int_rmul_2 _ _) (int___rmul___int_list x u a vs.toArray k)
   (aS hl rfl (ak _ hl rfl) (call_meets F.slot_list_mul (ak _ hl rfl) F.entry_list_mul (F.args_list_mul_2 _ _)
    (AutoListH.list___mul___list_int_3 a vs.toArray k x u (by simp[Builtin.List.listFitsIndex];exact⟨Int.le_trans kD h0,Int.lt_of_le_of_lt h1 kD⟩) (Nat.not_lt.mpr (NT hm kD)) (by simp[Builtin.List.listTooLong,sizeLine];exact az Se))
    ⟨hl,by rw[he];exact h⟩)))
def tG{op:tI}{y:PV}{t:Tok}(hb:KK op x y K)(r:abb g s.heap y u)(hs:∀z t k,K (.str z)→Q (.str z t) {s with toks:=k}):wpAny S.M A (binaryOp op.op (.str x t) u) Q E s:=by
 cases op<;>try exact hb.elim
 ·cases y<;>try exact hb.elim
  refine a9 r λtu Pt=>?_;obtain rfl:=Pt;exact PyProof.Rows.add_str (λt' tk=>hs _ _ _ (aY hb)) (aO (bk hb))
 ·cases y<;>try exact hb.elim
  refine a9 r λtu O8=>?_;obtain rfl:=O8;have hb:cG (decide (x=j4)) (cG (aE _) (K (.str (cB _)))):=hb;obtain rfl:=NV (bk hb);exact xu (bk (aY hb)) λt' k=>hs _ _ _ (aY (aY hb))
set_option tactic.hygienic true in
def t6{op:tI}{l:List PV}{y:PV}(T:g.abh s.heap)(hb:KZ op l y K)(e:s.heap.get? a=some (cE vs n))(q:aD g s.heap l vs)(r:abb g s.heap y u)(hQ:∀v s' d,K d→Kp0 S g s s'→abb g s'.heap d v→Q v s'):wpAny S.M A (binaryOp op.op (.ref a) u) Q E s:=by
 cases op<;>try exact hb.elim
 ·cases y<;>try exact hb.elim
  refine a5 r λWA QE Rp PA QW=>?_;obtain rfl:=PA;refine bV QW λ_ O2 Rs=>?_;refine concat_meets (ak _ e rfl) (ak _ O2 rfl) noFill_list_add seq_list_add PySem.F.slot_list_add PySem.F.entry_list_add (PySem.F.args_list_add_2 _ _)
   (list_addW a WA vs.toArray QE.toArray n Rp none none #[] #[] (by rw[N4,N4,q.length,Rs.length];exact aO (bk hb))) ⟨e,O2,?_⟩
  rw[show vs.toArray++QE.toArray=(vs++QE).toArray by simp];exact hQ _ _ _ (aY hb) Kp0.abu (abb.newList T (aD.append Rs q))
 ·cases y<;>try exact hb.elim
  rename_i x;refine a9 r λtu PI=>?_;obtain rfl:=PI;refine Ek e (NV (bk hb)) (NV (bk (aY hb))) (by rw[q.length];exact dq (bk (aY (aY hb)))) (hQ _ _ _ (aY (aY (aY hb))) Kp0.abu (abb.newList T ?_));split
  ·rfl
  ·exact q
def nj{op:tI}{x y:PV}{v:Value}(T:g.abh s.heap)(hb:fo op x y K)(OT:abb g s.heap x v)(OY:abb g s.heap y u)(hQ:∀v s' d,K d→Kp0 S g s s'→abb g s'.heap d v→Q v s'):
  wpAny S.M A (binaryOp op.op v u) Q E s:=by
 cases x<;>try exact hb.elim
 ·cases y<;>try exact hb.elim
  refine a9 OT λt P2=>?_;obtain rfl:=P2;refine a9 OY λt Qd=>?_;obtain rfl:=Qd;exact t8 (K:=λi=>K (.int i)) hb λi t k h=>hQ _ _ (.int i) h Kp0.toks ⟨t,rfl⟩
 ·refine a9 OT λt Qh=>?_;obtain rfl:=Qh;exact tG hb OY λz t k h=>hQ _ _ (.str z) h Kp0.toks ⟨t,rfl⟩
 ·refine a5 OT λa vs n Pm VY=>?_;obtain rfl:=Pm;exact bV VY λ_ e q=>t6 T hb e q OY hQ
end
end
section
set_option genCtorIdx true in
inductive AO where
 |lst (l:List PV)
 |dict (l:List (Str×PV)) (ep:Nat)
 |set (l:List Str)
 |inst (c:Addr) (fs:List (Str×PV)) (ss:List PV)
 |nxt (PK pos:Nat)
 |gone
abbrev AH:=List AO
noncomputable def cV(g:Gh)(h:Heap):List (Str×PV)→List (Str×Value)→Prop
 |[],es=>es=[]
 |d::ds,es=>∃v r,es=(d.1,v)::r∧abb g h d.2 v∧cV g h ds r
theorem cV.over(o:aC g g' h h'):∀{ds:List (Str×PV)}{es:List (Str×Value)},cV g h ds es→cV g' h' ds es:=by
 intro ds;induction ds with
 |nil=>
  intro _ r;exact r
 |cons _ _ ihr=>
  intro _ r;exact r.imp λ_=>.imp λ_ q=>⟨q.1,q.2.1.over o,ihr q.2.2⟩
noncomputable def eK(g:Gh)(h:Heap):List (Str×PV)→List DictEntry→Prop
 |[],es=>es=[]
 |d::ds,es=>∃e r,es=e::r∧(∃t,e.key=.str d.1 t)∧abb g h d.2 e.val∧eK g h ds r
theorem eK.over(o:aC g g' h h'):∀{ds:List (Str×PV)}{es:List DictEntry},eK g h ds es→eK g' h' ds es:=by
 intro ds;induction ds with
 |nil=>
  intro _ r;exact r
 |cons _ _ ihr=>
  intro _ r;exact r.imp λ_=>.imp λ_ q=>aS q.1 q.2.1 (q.2.2.1.over o) (ihr q.2.2.2)
noncomputable abbrev lj(c:Addr)(b:Addr)(vs:List Value):Obj:={cls:=.ref c,dict:=some b,data:=.plain,slots:=(vs.map some).toArray}
noncomputable abbrev gX(b:Addr):Obj:={cls:=.type "method-wrapper",data:=.fields #[.builtin "list_iterator.__next__",.ref b]}
noncomputable abbrev d6(l:Addr)(k:Nat):Obj:={cls:=.type "list_iterator",data:=.fields #[.ref l,.int k 0]}
def mG(S:Cx)(g:Gh)(h:Heap)(p:Addr×Addr):AO→Prop
 |.lst l=>g.W p.1∧p.2=p.1∧∃vs n,h.get? p.1=some (cE vs n)∧aD g h l vs
 |.dict l ep=>g.W p.1∧p.2=p.1∧(p.1==sysModules)=false∧∃es,h.DictAt (strKind S.prog S.w) p.1 es ep∧cV g h l es
 |.set l=>g.W p.1∧p.2=p.1∧∃n,n≤l.length∧h.SetOf (strKind S.prog S.w) p.1 (λk=>decide (k∈l)) n
 |.inst c fs ss=>g.W p.1∧g.W p.2∧p.1≠p.2∧∃es n vs,h.get? p.1=some (lj c p.2 vs)∧h.get? p.2=some (dictOf es n)∧eK g h fs es∧aD g h ss vs
 |.nxt PK pos=>g.W p.1∧g.W p.2∧p.1≠p.2∧∃l,h.get? p.1=some (gX p.2)∧h.get? p.2=some (d6 l.1 pos)∧g.ad[PK]?=some l
 |.gone=>g.W p.1∧g.W p.2
section
variable{p:Addr×Addr}
def mG.w:∀{o:AO},mG S g h p o→g.W p.1∧g.W p.2
 |.lst _,r=>⟨r.1,r.2.1▸r.1⟩
 |.dict _ _,r=>⟨r.1,r.2.1▸r.1⟩
 |.set _,r=>⟨r.1,r.2.1▸r.1⟩
 |.inst _ _ _,r=>⟨r.1,r.2.1⟩
 |.nxt _ _,r=>⟨r.1,r.2.1⟩
 |.gone,r=>r
def Ef{es:List (Str×Value)}(r:h.DictAt (strKind S.prog S.w) a es ep)(k:∀x,h.get? a=some x→h'.get? a=some x):h'.DictAt (strKind S.prog S.w) a es ep:=
 Exists.imp (λ_=>.imp λ_ q=>⟨k _ q.1,q.2⟩) r
def Hu{P:Str→Bool}(r:h.SetOf (strKind S.prog S.w) a P n)(k:∀x,h.get? a=some x→h'.get? a=some x):h'.SetOf (strKind S.prog S.w) a P n:=
 Exists.imp (λ_=>.imp λ_=>.imp λ_=>.imp λ_ q=>⟨k _ q.1,q.2⟩) r
theorem mG.over(O:aC g g' h h')(hw:∀a,g.W a→g'.W a)(ka:∀x,h.get? p.1=some x→h'.get? p.1=some x)(kb:∀x,h.get? p.2=some x→h'.get? p.2=some x):∀{o:AO},mG S g h p o→mG S g' h' p o
 |.lst _,r=>⟨hw _ r.1,r.2.1,r.2.2.imp λ_=>.imp λ_ q=>⟨ka _ q.1,q.2.over O⟩⟩
 |.dict _ _,r=>aS (hw _ r.1) r.2.1 r.2.2.1 (r.2.2.2.imp λ_ q=>⟨Ef q.1 ka,q.2.over O⟩)
 |.set _,r=>⟨hw _ r.1,r.2.1,r.2.2.imp λ_ q=>⟨q.1,Hu q.2 ka⟩⟩
 |.inst _ _ _,r=>aS (hw _ r.1) (hw _ r.2.1) r.2.2.1 (r.2.2.2.imp λ_=>.imp λ_=>.imp λ_ q=>aS (ka _ q.1) (kb _ q.2.1) (q.2.2.1.over O) (q.2.2.2.over O))
 |.nxt _ _,r=>aS (hw _ r.1) (hw _ r.2.1) r.2.2.1 (r.2.2.2.imp λ_ q=>⟨ka _ q.1,kb _ q.2.1,O.ad _ _ q.2.2⟩)
 |.gone,r=>⟨hw _ r.1,hw _ r.2⟩
end
structure bG(S:Cx)(g:Gh)(H:AH)(h:Heap):Prop where
 len:g.ad.length=H.length
 sep:∀(i j:Nat)(p q:Addr×Addr),i≠j→g.ad[i]?=some p→g.ad[j]?=some q→Apart p q
 at_:∀(i:Nat)(o:AO)(p:Addr×Addr),H[i]?=some o→g.ad[i]?=some p→mG S g h p o
section
variable{H:AH}
theorem bG.w(R:bG S g H h){p:Addr×Addr}(e:g.ad[i]?=some p):g.W p.1∧g.W p.2:=by
 have hi:i<g.ad.length:=(Og.mp e).1;rw[R.len] at hi;exact(R.at_ i _ p (Oz hi) e).w
theorem bG.over(R:bG S g H h)(O:aC g g' h h')(Vf:g'.ad=g.ad)(hw:∀a,g.W a→g'.W a)(k:∀c o,g.W c→h.get? c=some o→h'.get? c=some o):bG S g' H h':=
 ⟨by rw[Vf];exact R.len,by rw[Vf];exact R.sep,λi o p e f=>by
  rw[Vf] at f;exact(R.at_ i o p e f).over O hw (k p.1 · (R.w f).1) (k p.2 · (R.w f).2)⟩
end
noncomputable def listItems(H:AH):PV→Option (List PV)
 |.lst l=>some l
 |.obj i=>match H[i]? with
  |some (.lst l)=>some l
  |_=>none
 |_=>none
noncomputable def bf(H:AH):PV→Option (List (Str×PV))
 |.obj i=>match H[i]? with
  |some (.dict l _)=>some l
  |_=>none
 |_=>none
def items(H:AH):PV→Option (List PV)
 |.tup l=>some l
 |d=>listItems H d
section
variable{H:AH}{v:Value}
def cv{l:List PV}(hi:listItems H (.obj i)=some l):H[i]?=some (.lst l):=by
 have f:∀o:Option AO,(match o with | some (.lst l)=>some l | _=>none)=some l→o=some (.lst l):=λo h=>by
  cases o with
  |none=>exact aT h
  |some o=>cases o<;>first | exact aT h | exact N2 (λl=>some (AO.lst l)) (NW h)
 exact f _ hi
def jt{l:List PV}(e:H[i]?=some (.lst l)):listItems H (.obj i)=some l:=N2 (λo:Option AO=>match o with | some (.lst l)=>some l | _=>none) e
def EA{l:List (Str×PV)}(e:H[i]?=some (.dict l ep)):bf H (.obj i)=some l:=N2 (λo:Option AO=>match o with | some (.dict l _)=>some l | _=>none) e
set_option tactic.hygienic true in
def dk{l:List (Str×PV)}(hi:bf H d=some l):∃i ep,d=.obj i∧H[i]?=some (.dict l ep):=by
 cases d<;>try exact aT hi
 rename_i i;have f:∀o:Option AO,(match o with | some (.dict l _)=>some l | _=>none)=some l→∃ep,o=some (.dict l ep):=λo h=>by
  cases o with
  |none=>exact aT h
  |some o=>cases o<;>first | exact aT h | exact⟨_,N2 (λl=>some (AO.dict l _)) (NW h)⟩
 exact a9 (f _ hi) λep e=>fw i ep rfl e
set_option tactic.hygienic true in
def jM{l:List PV}(R:bG S g H h)(hi:listItems H d=some l)(r:abb g h d v):∃a vs n,v=.ref a∧h.get? a=some (cE vs n)∧aD g h l vs:=by
 cases d<;>try exact aT hi
 ·cases hi;exact r.imp λ_=>.imp λ_=>.imp λ_ q=>⟨q.1,q.2.2⟩
 ·rename_i i;exact ay r λp e hp=>⟨p.1,(R.at_ i _ p (cv hi) hp).2.2.imp λvs=>.imp λn q=>⟨e,q⟩⟩
def jV{l:List PV}(R:bG S g H h)(hi:items H d=some l)(r:abb g h d v):∃a vs n,v=.ref a∧(h.get? a=some (cE vs n)∨h.get? a=some (dX vs n))∧aD g h l vs:=by
 by_cases ht:∃t,d=.tup t
 ·refine a9 ht λt Pt=>?_;obtain rfl:=Pt;cases hi;exact r.imp λ_=>.imp λ_=>.imp λ_ q=>⟨q.1,.inr q.2.2.1,q.2.2.2⟩
 ·have hi:listItems H d=some l:=by
   cases d<;>try exact hi
   exact absurd ⟨_,rfl⟩ ht
  exact(jM R hi r).imp λ_=>.imp λ_=>.imp λ_ q=>⟨q.1,.inl q.2.1,q.2.2⟩
def wL{l:List (Str×PV)}(R:bG S g H h)(hi:bf H d=some l)(r:abb g h d v):∃a es,v=.ref a∧(a==sysModules)=false∧h.DictOf (strKind S.prog S.w) a es∧cV g h l es:=by
 refine aP (dk hi) λi ep Pq e=>?_;obtain rfl:=Pq;refine ay r λp ev hp=>?_;have q:=R.at_ i _ p e hp;exact q.2.2.2.elim λes y=>bL p.1 es ev q.2.2.1 y.1.dictOf y.2
theorem cV.length:∀{l:List (Str×PV)}{es:List (Str×Value)},cV g h l es→es.length=l.length:=by
 intro l;induction l with
 |nil=>
  intro _ r;exact r▸rfl
 |cons _ _ ihr=>
  intro _ r;refine aP r λv r PI R8=>?_;obtain rfl:=PI;exact aU R8 λ_ q=>N2 Nat.succ (ihr q)
noncomputable def aM{α:Type}(k:Str):List (Str × α)→Option α
 |[]=>none
 |d::r=>if d.1=k then some d.2 else aM k r
def ey{α:Type}{k:Str}{d:Str × α}{r:List (Str × α)}:aM k (d::r)=if d.1=k then some d.2 else aM k r:=rfl
noncomputable def b9(k:Str)(d:PV):List (Str×PV)→List (Str×PV)
 |[]=>[(k,d)]
 |x::r=>if x.1=k then(k,d)::r else x::b9 k d r
def lC{k:Str}{x:Str×PV}{r:List (Str×PV)}:b9 k d (x::r)=if x.1=k then(k,d)::r else x::b9 k d r:=rfl
def gq{k:Str}:∀(es:List (Str×Value)),valueAt es k=aM k es:=by
 intro es;induction es with
 |nil=>
  exact rfl
 |cons zx r ihr=>
  obtain⟨x,v⟩:=zx;unfold valueAt;rw[ey];rw[List.find?_cons];by_cases q:x=k
  ·simp[q]
  ·simp only[q,decide_false,if_false];exact ihr
def cV.look{k:Str}:∀{l:List (Str×PV)}{es:List (Str×Value)},cV g h l es→(∃v d,aM k es=some v∧aM k l=some d∧abb g h d v)∨aM k es=none∧aM k l=none:=by
 intro l;induction l with
 |nil=>
  intro _ r;exact r▸.inr ⟨rfl,rfl⟩
 |cons d l ihr=>
  intro _ r;refine aP r λv r Qd TC=>?_;obtain rfl:=Qd;refine aU TC λa q=>?_;rw[ey,ey];by_cases e:d.1=k
  ·exact .inl (aN v d.2 (N1 e) (N1 e) a)
  ·simp only[NY e];exact ihr q
end
end
variable{H H' Hs tl junk:AH}{R:AH→List PV→(PV→AH→Prop)→Prop}{Kn Ke Kh:AH→Prop}
section
mutual
noncomputable def PV.toD:PV→Option PyData
 |.none=>some .none
 |.bool b=>some (.bool b)
 |.int i=>some (.int i)
 |.str x=>some (.str x)
 |.tup l=>(PV.toDs l).map .tuple
 |.lst l=>(PV.toDs l).map .list
 |_=>Option.none
noncomputable def PV.toDs:List PV→Option (List PyData)
 |[]=>some []
 |d::ds=>(PV.toD d).bind λa=>(PV.toDs ds).map λb=>a::b
end
def abb.ack:∀(d:PV)(v:Value)(p:PyData),abb g h d v→d.toD=some p→∃as,Reads h v p as:=by
 intro d;induction d using PV.rec (motive_2:=λds=>∀(vs:List Value)(ps:List PyData),aD g h ds vs→PV.toDs ds=some ps→∃as,ReadsAll h vs ps as) with
 |none=>intro v p r e;rw[show v=.none from r,← NW e];exact⟨_,.none⟩
 |bool b=>intro v p r e;rw[show v=.bool b from r,← NW e];exact⟨_,.bool b⟩
 |int i=>intro v p r e;refine a9 r λt Pt=>?_;obtain rfl:=Pt;rw[← NW e];exact⟨_,.int i t⟩
 |str x=>intro v p r e;refine a9 r λt O8=>?_;obtain rfl:=O8;rw[← NW e];exact⟨_,.str x t⟩
 |tup ds ih=>
  refine λv p r e=>ay (N8.mp e) λl hd Pq=>?_;obtain rfl:=Pq;refine a5 r λa vs n PI R8=>?_;obtain rfl:=PI;exact bV R8 λ_ k r=>a9 (ih _ _ r hd) λas q=>⟨as,reads_tuple_at k rfl rfl (by simpa using q)⟩
 |lst ds ih=>
  refine λv p r e=>ay (N8.mp e) λl hd P2=>?_;obtain rfl:=P2;refine a5 r λa vs n Qh UP=>?_;obtain rfl:=Qh;exact bV UP λ_ k r=>a9 (ih _ _ r hd) λas q=>⟨_,reads_list_at k rfl rfl (by simpa using q)⟩
 |nil vs p r e=>rw[show vs=[] from r,← NW e];exact⟨_,.nil⟩
 |cons d ds h1 h2 vs p r e=>
  refine ay (Oh.mp e) λa ha e=>ay (N8.mp e) λb hb SZ=>?_;obtain rfl:=SZ;refine aP r λv r PY S0=>?_;obtain rfl:=PY;exact aU S0 λx q=>a9 (h1 _ _ x ha) λas x=>a9 (h2 _ _ q hb) λbs y=>⟨_,.cons x y⟩
 |_=>exact λ_ _ _ e=>aT e
def abb.reads{v:Value}{p:PyData}(r:abb g h d v)(e:d.toD=some p):∃as,Reads h v p as:=abb.ack d v p r e
def aD.reads:∀{ds:List PV}{vs:List Value}{ps:List PyData},aD g h ds vs→PV.toDs ds=some ps→∃as,ReadsAll h vs ps as:=by
 intro ds;induction ds with
 |nil=>intro vs p r e;rw[show vs=[] from r,← NW e];exact⟨_,.nil⟩
 |cons d ds ih=>
  intro vs p r e;refine ay (Oh.mp e) λa ha e=>ay (N8.mp e) λb hb Qm=>?_;obtain rfl:=Qm;refine aP r λv r QF UL=>?_;obtain rfl:=QF;exact aU UL λx q=>a9 (abb.ack d _ _ x ha) λas x=>a9 (ih q hb) λbs y=>⟨_,.cons x y⟩
def qV(H:AH):PV→Option PyData
 |.obj i=>(listItems H (.obj i)).bind λl=>(PV.toDs l).map .list
 |d=>d.toD
set_option genCtorIdx true in
inductive Dz where
 |eq | ne | lt | le | gt | ge | is | abC | isIn | abO
noncomputable def Dz.op:Dz→CmpOp
 |.eq=>.Eq | .ne=>.NotEq | .lt=>.Lt | .le=>.LtE | .gt=>.Gt | .ge=>.GtE | .is=>.Is | .abC=>.IsNot | .isIn=>.In | .abO=>.NotIn
def eqv(H:AH)(a b:PV):Option Bool:=(qV H a).bind λp=>(qV H b).bind λq=>if(SeqAt.shaped p&&SeqAt.shaped q)=true then some (PyData.eqv p q) else none
noncomputable def PV.isNone:PV→Option Bool
 |.none=>some true
 |.bytes _ | .rng _=>Option.none
 |_=>some false
def MK(a b:PV):Option Bool:=match b with
 |.none=>a.isNone
 |.typ n=>(match a with
  |.typ m=>some (decide (m=n))
  |_=>none)
 |_=>none
def AO.acv(y:Str):AO→Option Bool
 |.dict l _=>some (aM y l).isSome
 |.set l=>some (decide (y∈l))
 |_=>none
def Ml(H:AH)(x c:PV):Option Bool:=match c with
 |.str z=>(match x with
  |.str y=>some (Txt.contains z y)
  |_=>none)
 |.lst l=>x.toD.bind λp=>(PV.toDs l).bind λps=>if(SeqAt.shaped p&&SeqAt.shaped (.list ps))=true then some (ps.any λy=>PyData.eqv y p) else none
 |.obj i=>(match x with
  |.str y=>H[i]?.bind (AO.acv y)
  |_=>none)
 |_=>none
noncomputable def xo(p:Int→Int→Bool):PV→PV→Option Bool
 |.int a,d=>(match d with
  |.int b=>some (p a b)
  |_=>none)
 |_,_=>none
def dS(H:AH)(op:Dz)(a b:PV):Option Bool:=match op with
 |.eq=>eqv H a b
 |.ne=>(eqv H a b).map (!·)
 |.lt=>xo (λa b=>decide (a<b)) a b
 |.le=>xo (λa b=>decide (a≤b)) a b
 |.gt=>xo (λa b=>decide (b<a)) a b
 |.ge=>xo (λa b=>decide (b≤a)) a b
 |.is=>MK a b
 |.abC=>(MK a b).map (!·)
 |.isIn=>Ml H a b
 |.abO=>(Ml H a b).map (!·)
def yH{p:Int→Int→Bool}{x y:PV}{b:Bool}(h:xo p x y=some b):∃i j,x=.int i∧y=.int j∧b=p i j:=by
 cases x<;>try exact aT h
 cases y<;>try exact aT h
 exact aN _ _ rfl rfl ((NW h).symm)
section
variable{A:Around}{x y:PV}{v:Value}{b:Bool}
def bQ{α:Type}{c:Bool}{o:Option α}{b:α}(h:(if c=true then o else none)=some b):c=true∧o=some b:=by
 cases c
 ·exact aT h
 ·exact⟨rfl,h⟩
def nZ{p:PyData}(R:bG S g H s.heap)(e:qV H x=some p)(r:abb g s.heap x v):∃as,Reads s.heap v p as:=by
 cases x<;>try exact r.reads e
 refine ay (Oh.mp e) λl hl e=>ay (N8.mp e) λps hd Rw=>?_;obtain rfl:=Rw;refine a5 (jM R hl r) λa vs n QG RE=>?_;obtain rfl:=QG;exact aU RE λk q=>a9 (aD.reads q hd) λas q=>⟨_,reads_list_at k rfl rfl (by simpa using q)⟩
def oC(hu:A.units+100<cLine)(R:bG S g H s.heap)(hb:eqv H x y=some b)(OT:abb g s.heap x u)(OY:abb g s.heap y v):
  (Q (.bool b) s→wpAny S.M A (compareOp .Eq u v) Q E s)∧(Q (.bool (!b)) s→wpAny S.M A (compareOp .NotEq u v) Q E s):=by
 refine ay (Oh.mp hb) λp hp hb=>ay (Oh.mp hb) λq hq hb=>aU (bQ hb) λhs hb=>a9 (nZ R hp OT) λas rx=>a9 (nZ R hq OY) λbs ry=>?_;rw[← NW hb];exact⟨eq_dataH rx ry (ai hs) (ae hs) (a8 hu),ne_dataH rx ry (ai hs) (ae hs) (a8 hu)⟩
set_option tactic.hygienic true in
def oS(hb:MK x y=some b)(OT:abb g h x u)(OY:abb g h y v):plainIs u v=true∧(u==v)=b:=by
 cases y<;>try exact aT hb
 ·rw[show v=.none from OY];cases x<;>try exact aT hb
  all_goals rw[← NW hb]
  all_goals first
   |(rw[show u=_ from OT];exact⟨rfl,rfl⟩)
   |(obtain⟨_,rfl⟩:=OT;exact⟨rfl,rfl⟩)
   |(obtain⟨_,rfl,_⟩:=OT;exact⟨rfl,rfl⟩)
   |(obtain⟨_,_,rfl,_⟩:=OT;exact⟨rfl,rfl⟩)
   |(obtain⟨_,_,_,rfl,_⟩:=OT;exact⟨rfl,rfl⟩)
   |(refine bh OT λ_ _ _ _ UI=>bl UI λ_ _ _ _ SW _=>?_;obtain rfl:=SW;exact⟨rfl,rfl⟩)
 ·cases x<;>try exact aT hb
  rename_i n m;rw[show v=.type n from OY,show u=.type m from OT,← NW hb];refine⟨rfl,?_⟩;by_cases q:m=n
  ·subst q;simp
  ·simp[q]
def Hp{l:List PV}(hu:A.units+100<cLine)(hb:Ml H x (.lst l)=some b)(OT:abb g s.heap x u)(OY:abb g s.heap (.lst l) v)(hQ:∀k,Q (.bool b) {s with toks:=k}):wpAny S.M A (compareOp .In u v) Q E s:=by
 refine ay (Oh.mp hb) λp hp hb=>ay (Oh.mp hb) λps QX hb=>aU (bQ hb) λhs hb=>a9 (OT.reads hp) λas rx=>a9 (OY.reads (p:=.list ps) (by show(PV.toDs l).map _=_;rw[QX];rfl)) λbs rc=>?_;have d1:=SeqAt.depth_of_shaped (ai hs);exact SeqAt.in_list_reads rc rx (SeqAt.canLay_of_shaped (ae hs)) (SeqAt.canLay_of_shaped (ai hs)) (by have:=Nat.min_le_right (PyData.depthAll ps) p.depth;exact ph this d1 hu) (NW hb▸hQ s.toks)
def G3{p:Addr×Addr}{o:AO}{k:Str}{t:Tok}(R:bG S g H s.heap)(hp:g.ad[i]?=some p)(ho:H[i]?=some o)(hb:o.acv k=some b)(hQ:∀k,Q (.bool b) {s with toks:=k}):wpAny S.M A (compareOp .In (.str k t) (.ref p.1)) Q E s:=by
 cases o<;>try exact aT hb
 ·have q:=R.at_ i _ p ho hp;refine ay q.2.2.2 λes e q'=>wpAny_in_of (strKind_is S.prog S.w k t) q.2.2.1 e.dictOf.mapOf ?_;rw[gq];have hb:=NW hb;rcases q'.look (k:=k) with ⟨v,d,e1,e2,_⟩ | ⟨e1,e2⟩
  ·rw[e2] at hb;rw[e1];exact hb▸hQ _
  ·rw[e2] at hb;rw[e1];exact hb▸hQ _
 ·exact ay ((R.at_ i _ p ho hp).2.2) λn _ e=>wpAny_inSet_of (strKind_is S.prog S.w k t) rfl e (NW hb▸hQ _)
set_option tactic.hygienic true in
def rl(hu:A.units+100<cLine)(R:bG S g H s.heap)(hb:Ml H x y=some b)(OT:abb g s.heap x u)(OY:abb g s.heap y v)(hQ:∀k,Q (.bool b) {s with toks:=k}):wpAny S.M A (compareOp .In u v) Q E s:=by
 cases y<;>try exact aT hb
 ·cases x<;>try exact aT hb
  refine a9 OT λt QH=>?_;obtain rfl:=QH;refine a9 OY λt Rz=>?_;obtain rfl:=Rz;exact SB.contains (NW hb▸hQ s.toks)
 ·exact Hp hu hb OT OY hQ
 ·rename_i i;cases x<;>try exact aT hb
  rename_i k;refine a9 OT λt RA=>?_;obtain rfl:=RA;refine ay OY λp QU hp=>?_;obtain rfl:=QU;exact ay (Oh.mp hb) λo ho hb=>G3 R hp ho hb hQ
def rp(h:wpAny S.M A (compareOp .In u v) (λv s'=>∃c,v=.bool c∧Q (.bool (!c)) s') E s):wpAny S.M A (compareOp .NotIn u v) Q E s:=by
 intro Γ p hΓ;have:=h Γ p hΓ;change Sem.wp _ _ (contains v u>>=λc=>(pure (Value.bool c):Sem Value)) _ _ _ _ at this;show Sem.wp _ _ (contains v u>>=λc=>(pure (Value.bool (!c)):Sem Value)) _ _ _ _;rw[Sem.wp_bind'] at this ⊢;refine Sem.wp_mono _ _ _ (λa p' s' h'=>ay (h':∃c,Value.bool a=.bool c∧Q (.bool (!c)) s') λc e q=>?_) (λ_ _ _ h'=>h') _ _ this;cases e;exact q
def dy{op:Dz}(hu:A.units+100<cLine)(R:bG S g H s.heap)(hb:dS H op x y=some b)(OT:abb g s.heap x u)(OY:abb g s.heap y v)(hQ:∀k,Q (.bool b) {s with toks:=k}):wpAny S.M A (compareOp op.op u v) Q E s:=by
 have RH:∀{p:Int→Int→Bool}{o:CmpOp},(∀i j t t',Q (.bool (p i j)) s→wpAny S.M A (compareOp o (.int i t) (.int j t')) Q E s)→xo p x y=some b→wpAny S.M A (compareOp o u v) Q E s:=λ{p o} f hb=>by
  refine aP (yH hb) λi j SX Ta=>?_;obtain rfl:=SX;refine aU Ta λRC UB=>?_;obtain rfl:=RC;obtain rfl:=UB;refine a9 OT λt RD=>?_;obtain rfl:=RD;refine a9 OY λt' UC=>?_;obtain rfl:=UC;exact f _ _ _ _ (hQ s.toks)
 cases op
 ·exact(oC hu R hb OT OY).1 (hQ s.toks)
 ·refine ay (N8.mp hb) λc hc UD=>?_;obtain rfl:=UD;exact(oC hu R hc OT OY).2 (hQ s.toks)
 ·exact RH (λi j t t' h=>PyProof.Rows.lt_int h) hb
 ·exact RH (λi j t t' h=>PyProof.Rows.le_int h) hb
 ·exact RH (λi j t t' h=>PyProof.Rows.gt_int h) hb
 ·exact RH (λi j t t' h=>PyProof.Rows.ge_int h) hb
 ·refine aU (oS hb OT OY) λp XN=>?_;obtain rfl:=XN;exact wpAny_is_plain p (hQ s.toks)
 ·refine ay (N8.mp hb) λc hc UE=>?_;obtain rfl:=UE;refine aU (oS hc OT OY) λp XO=>?_;obtain rfl:=XO;exact wpAny_isNot_plain p (hQ s.toks)
 ·exact rl hu R hb OT OY hQ
 ·refine ay (N8.mp hb) λc hc SY=>?_;obtain rfl:=SY;exact rp (rl hu R hc OT OY λk=>ak _ rfl (hQ k))
end
end
section
def bB(H:AH)(d:PV):Option Bool:=match d with
 |.none=>some false
 |.bool b=>some b
 |.int i=>some (i !=0)
 |.str x=>if aE x.length=true then some (x.length !=0) else none
 |.mat _ _=>some true
 |d=>(items H d).bind λl=>if aE l.length=true then some (!l.isEmpty) else none
def j6:typeLookup (.type "re.Match") "__bool__"=pure none:=by rw[Ox,Of];kernel_rfl
def k7:typeLookup (.type "re.Match") "__len__"=pure none:=by rw[Ox,Of];kernel_rfl
noncomputable def fZ{α:Type}(l:List α)(k:Int):Option α:=if 0≤k then l[k.toNat]? else if -(l.length:Int)≤k then l[(k+l.length).toNat]? else none
def pI(H:AH)(x y:PV):Option PV:=match y with
 |.int k=>(match x with
  |.str x=>if(cY k&&(decide (-(x.length:Int)≤k)&&decide (k<x.length)))=true then some (.str (Txt.item x k)) else none
  |.bytes b=>if(decide (0≤k)&&(decide (k<b.size)&&aE b.size))=true then some (.int ((b.toList.getD k.toNat 0).toNat)) else none
  |o=>(items H o).bind λl=>if(cY k&&aE l.length)=true then fZ l k else none)
 |.str k=>(bf H x).bind λl=>aM k l
 |_=>none
def lK(H:AH)(x:PV)(k:Int):Option PV:=match x with
 |.str x=>if aE x.length=true then some (.str (Txt.slice x none (some k))) else none
 |o=>(listItems H o).bind λl=>if(decide (0≤k)&&aE l.length)=true then some (.lst (l.take k.toNat)) else none
def kJ(H:AH)(x:PV)(k:Int):Option PV:=match x with
 |.str x=>if aE x.length=true then some (.str (Txt.slice x (some k) none)) else none
 |o=>(listItems H o).bind λl=>if(decide (0≤k)&&(decide (k≤l.length)&&aE l.length))=true then some (.lst (l.drop k.toNat)) else none
section
variable{A:Around}
def qP{vs:Array Value}{Q:Bool→Shared→Prop}(e:s.heap.get? a=some {cls:=.type "re.Match",data:=.fields vs})(h:Q true s):wpAny S.M A (truthy (.ref a)) Q E s:=by
 have hT:s.TypeIs (.ref a) "re.Match":=ak _ e rfl;unfold truthy;first
  |refine NN (wpAny_callSpecial?_none (name:=Str.ofString "__bool__") hT j6 ?_)
  |refine NN (NQ (NN (wpAny_callSpecial?_none (name:=Str.ofString "__bool__") hT j6 ?_)))
 first
  |refine NN (wpAny_specialOf (name:=Str.ofString "__len__") hT k7 ?_)
  |refine NN (NQ (NN (wpAny_specialOf (name:=Str.ofString "__len__") hT k7 ?_)))
 exact NQ h
def jz(h:aE n=true):(n:Int)<2^63:=by
 exact Int.lt_of_le_of_lt (Int.ofNat_le.mpr (dq h)) kD
def zf{α β:Type}{l:List α}{m:List β}(h:l.length=m.length):m.isEmpty=l.isEmpty:=by cases l<;>cases m<;>first | rfl | exact Nat.noConfusion h
def Nv(n:Nat):((n:Int) !=0)=(n !=0):=by cases n<;>rfl
def uI{b:Bool}{v:Value}{Q:Bool→Shared→Prop}(R:bG S g H s.heap)(hb:(items H d).bind (λl=>if aE l.length=true then some (!l.isEmpty) else none)=some b)(r:abb g s.heap d v)(hQ:∀k,Q b {s with toks:=k}):wpAny S.M A (truthy v) Q E s:=by
 refine ay (Oh.mp hb) λl hl hb=>aU (bQ hb) λhf hb=>a5 (jV R hl r) λa vs n O8 Qe=>?_;obtain rfl:=O8;refine aU Qe λe q=>?_;have hs:(vs.toArray.size:Int)<2^63:=by rw[N4,q.length];exact jz hf
 have he:(!vs.toArray.isEmpty)=b:=by rw[← NW hb,zf q.length];exact N2 _ (List.isEmpty_toArray ..)
 subst he;exact e.elim (λe=>wpAny_truthy_list (items:=vs.toArray) (bS _ e rfl n rfl) hs (hQ _)) λe=>truthy_tuple (items:=vs.toArray) (bS _ e rfl n rfl) hs (hQ _)
def uF{x:Str}{sp:List Int}{v:Value}{Q:Bool→Shared→Prop}(r:abb g s.heap (.mat x sp) v)(h:Q true s):wpAny S.M A (truthy v) Q E s:=by
 refine bh r λa _ _ _ QI=>bl QI λ_ _ _ _ P2 QW=>?_;obtain rfl:=P2;exact bD QW λ_ _ e _=>qP e h
set_option tactic.hygienic true in
def dJ{b:Bool}{v:Value}{Q:Bool→Shared→Prop}(R:bG S g H s.heap)(hb:bB H d=some b)(r:abb g s.heap d v)(hQ:∀k,Q b {s with toks:=k}):wpAny S.M A (truthy v) Q E s:=by
 cases d<;>try exact uI R (by exact hb) r hQ
 ·rw[show v=.none from r];exact PyProof.Rows.truthy_none (NW hb▸hQ s.toks)
 ·rw[show v=.bool _ from r];exact wpAny_truthy_bool (NW hb▸hQ s.toks)
 ·refine a9 r λt Qd=>?_;obtain rfl:=Qd;exact PyProof.Rows.truthy_int (NW hb▸hQ s.toks)
 ·rename_i x;refine a9 r λt Qh=>?_;obtain rfl:=Qh;refine aU (bQ hb) λhf hb=>P.truthy_str (Int.not_le.mpr (jz hf)) ?_;rw[Nv x.length,NW hb];exact hQ _
 ·exact uF r (NW hb▸hQ s.toks)
variable{Qp slice:PySem.Expr}{o i:Value}{x y:PV}
set_option tactic.hygienic true in
def AE(slice:PySem.Expr)(o i:Value):∃ops,subscripted slice false o i=operate ops (getItem o i):=by
 cases slice<;>first | exact⟨_,rfl⟩ | (rename_i a b c d;cases c<;>exact⟨_,rfl⟩)
def fA{T id:String}(hT:s.TypeIs o T)(hl:typeLookup (.type T) "__getitem__"=pure (some (.builtin id)))(hg:wpAny S.M A (getItem o i) Q E s):wpAny S.M A (subscriptTail Qp slice o i) Q E s:=
 let ⟨_,h⟩:=AE slice o i
 tail_any hT hl hg h
def oj(h:ItemOn S.M A E o i Q s):wpAny S.M A (subscriptTail Qp slice o i) Q E s:=
 h.elim λ_ h=>h.elim λ_ h=>fA h.2.1 h.1 h.2.2
def qg{k:Int}(h0:0≤k)(h1:k.toNat<n):seqIndex? k n=some k.toNat:=by
 unfold seqIndex?;have:¬k<0:=Int.not_lt.mpr h0;simp only[this,if_false];rw[N1 (by simp;exact⟨h0,(Int.toNat_lt h0).mp h1⟩)]
theorem jI{k:Int}(h0:k<0)(h1:-(n:Int)≤k):seqIndex? k n=some (k+n).toNat:=by
 unfold seqIndex?;simp only[h0,if_true];rw[N1 (by simp;lia)]
def item_at{l:List PV}{k:Int}(r:aD g h l vs)(e:fZ l k=some d):
  ∃v,abb g h d v∧((0≤k∧vs[k.toNat]?=some v)∨(k<0∧-(vs.length:Int)≤k∧vs[(k+vs.length).toNat]?=some v)):=by
 unfold fZ at e;split at e
 ·rename_i h0;exact ay (r.get e) λv hv q=>ak v q (.inl ⟨h0,hv⟩)
 ·split at e
  ·rename_i h0 h1;refine ay (r.get e) λv hv q=>?_;rw[← r.length] at hv h1;exact ak v q (.inr ⟨Int.not_le.mp h0,h1,hv⟩)
  ·cases e
def FQ{k:Int}{u:Tok}{l:List PV}(e:s.heap.get? a=some (cE vs n)∨s.heap.get? a=some (dX vs n))(r:aD g s.heap l vs)(hk:cY k=true)(hd:fZ l k=some d)(hQ:∀v,abb g s.heap d v→Q v s):wpAny S.M A (subscriptTail Qp slice (.ref a) (.int k u)) Q E s:=by
 refine ay (item_at r hd) λv q c=>?_;have k1:=lT hk;have k2:=lG hk;rcases e with e | e
 ·have hl:s.heap.IsList a vs.toArray:=bS _ e rfl n rfl;refine fA hl.typeIs slot_list_getitem.lookup ?_;rcases c with ⟨h0,hv⟩ | ⟨h0,h1,hv⟩
  ·exact wpAny_getItem_list hl h0 k2 (by simpa using hv) (hQ _ q)
  ·exact wpAny_getItem_list_neg hl h0 (by simpa using h1) k1 (by simpa using hv) (hQ _ q)
 ·have ht:IsTup s.heap a vs.toArray:=bS _ e rfl n rfl;refine fA ht.typeIs slot_tuple_getitem.lookup ?_;rcases c with ⟨h0,hv⟩ | ⟨h0,h1,hv⟩
  ·exact getItem_tuple ht k1 k2 (by simpa using qg h0 (Og.mp hv).1) (by simpa using hv) (hQ _ q)
  ·exact getItem_tuple ht k1 k2 (by simpa using jI h0 h1) (by simpa using hv) (hQ _ q)
def DS{k:Int}{u:Tok}(R:bG S g H s.heap)(hb:(items H x).bind (λl=>if(cY k&&aE l.length)=true then fZ l k else none)=some d)(OT:abb g s.heap x o)(hQ:∀v k,abb g s.heap d v→Q v {s with toks:=k}):wpAny S.M A (subscriptTail Qp slice o (.int k u)) Q E s:=by
 refine ay (Oh.mp hb) λl hl hb=>aU (bQ hb) λhf hb=>a5 (jV R hl OT) λa vs n Pm VY=>?_;obtain rfl:=Pm;exact aU VY λe q=>FQ e q (ai hf) hb λv hv=>hQ v s.toks hv
def Bz{es:List (Str×Value)}{l:List (Str×PV)}{k:Str}{t:Tok}(e:s.heap.DictOf (strKind S.prog S.w) a es)(q:cV g s.heap l es)(hb:aM k l=some d)(hQ:∀v k,abb g s.heap d v→Q v {s with toks:=k}):wpAny S.M A (subscriptTail Qp slice (.ref a) (.str k t)) Q E s:=by
 rcases q.look (k:=k) with ⟨v,d',e1,e2,r⟩ | ⟨e1,e2⟩
 ·rw[e2] at hb;exact fA e.mapOf.typeIs slot_dict_getitem.lookup (wpAny_getItem_of (strKind_is S.prog S.w k t) e.mapOf (by rw[gq];exact e1) (hQ _ _ (NW hb▸r)))
 ·rw[e2] at hb;exact aT hb
set_option tactic.hygienic true in
def tP(R:bG S g H s.heap)(hb:pI H x y=some d)(OT:abb g s.heap x o)(OY:abb g s.heap y i)(hQ:∀v k,abb g s.heap d v→Q v {s with toks:=k}):wpAny S.M A (subscriptTail Qp slice o i) Q E s:=by
 cases y<;>try exact aT hb
 ·rename_i k;refine a9 OY λu PY=>?_;obtain rfl:=PY;cases x<;>try exact DS R (by exact hb) OT hQ
  ·rename_i x;refine a9 OT λt Qm=>?_;obtain rfl:=Qm;refine aU (bQ hb) λhf hb=>?_;have h1:=lT (ai hf);have h2:=lG (ai hf);exact fA (typeIs_str _ _ _) F.slot_str_getitem.lookup (SB.getItem (by unfold fitsSsize;simp;exact⟨h1,h2⟩) (charAt_isSome (NV (ai (ae hf))) (NV (ae (ae hf)))) (hQ _ _ (NW hb▸⟨_,rfl⟩)))
  ·rename_i b;refine a9 OT λt QS=>?_;obtain rfl:=QS;refine aU (bQ hb) λhf hb=>fA (typeIs_bytes s b t) FB.slot_bytes_getitem.lookup ?_;have:=dq (ae (ae hf));have h2:=NV (ai (ae hf));obtain⟨l⟩:=b;simp only[N4] at h2 this;exact getItem_bytes (l:=l) (az this) (NV (ai hf)) h2 (hQ _ _ (NW hb▸⟨_,rfl⟩))
 ·rename_i k;refine a9 OY λt QF=>?_;obtain rfl:=QF;refine ay (Oh.mp hb) λl hl hb=>aP (wL R hl OT) λa es SU S7=>?_;obtain rfl:=SU;exact bV S7 λz e q=>Bz e q hb hQ
def wa(h:Heap):KeptH (λh'=>∀b o,h.get? b=some o→h'.get? b=some o):=λ_ ob k b o e=>NS ob (k b o e)
theorem Db(xs:List Value){k:Int}(h0:0≤k):slicePick xs.toArray none (some k) none=(xs.take k.toNat).toArray:=by
 by_cases q:k.toNat≤xs.length
 ·have:=slicePick_upto xs.toArray k.toNat (by simpa using q);rw[Int.toNat_of_nonneg h0] at this;rw[this]
 ·have e:sliceBounds none (some k) none xs.toArray.size=sliceBounds none none none xs.toArray.size:=by
   simp only[sliceBounds,Option.getD_none];have h2:¬(k<0):=by lia
   simp only[h2,if_false,show(1:Int)>0 by decide,if_true,N4];congr 1;congr 1;have h:=Int.le_trans (Int.ofNat_le.mpr (Nat.le_of_lt (Nat.not_le.mp q))) (Int.le_of_eq (Int.toNat_of_nonneg h0));rw[Int.min_eq_right h,Int.max_eq_right (Oy _)]
  have:slicePick xs.toArray none (some k) none=slicePick xs.toArray none none none:=by unfold slicePick;rw[e]
  rw[this,slicePick_all,List.take_of_length_le (a8 (am q))]
def pick_from(xs:List Value){k:Int}(h0:0≤k)(h1:k≤xs.length):slicePick xs.toArray (some k) none none=(xs.drop k.toNat).toArray:=by
 have:=slicePick_from xs.toArray k.toNat (by simp;exact h1);rw[Int.toNat_of_nonneg h0] at this;rw[this]
def wm(T:g.abh s.heap)(q:aD g s.heap ds vs)(hQ:∀v s',Kp0 S g s s'→abb g s'.heap (.lst ds) v→Q v s'):
  Q (.ref (s.heap.push ob).objs.size) {s with heap:=(s.heap.push ob).push {cls:=.type "list",data:=.seq vs.toArray}}:=
 hQ _ _ (Kp0.of (tk:=s.toks) λb x e=>NS _ (NS _ e)) (abb.newList (λa z=>(T a z).imp λo e=>NS _ e) (q.over .push))
def oA{k:Int}{u:Tok}(T:g.abh s.heap)(R:bG S g H s.heap)(hb:lK H x k=some d)(r:abb g s.heap x o)(hQ:∀v s',Kp0 S g s s'→abb g s'.heap d v→Q v s'):
  wpAny S.M A (subscriptTail Qp slice o (.ref s.heap.objs.size)) Q E {s with heap:=s.heap.push {cls:=.type "slice",data:=.fields #[.none,.int k u,.none]}}:=by
 by_cases hx:∃z,x=.str z
 ·refine a9 hx λz QG=>?_;obtain rfl:=QG;refine a9 r λt SV=>?_;obtain rfl:=SV;refine aU (bQ hb |>.imp id NW) λhf Ry=>?_;obtain rfl:=Ry;exact oj (SBH.sliceItem_ns (wa s.heap) (λ_ _ e=>e) (λh' t' k' hk=>hQ _ _ (Kp0.of hk) ⟨_,rfl⟩) (aO hf))
 ·have hb:(listItems H x).bind (λl=>if(decide (0≤k)&&aE l.length)=true then some (PV.lst (l.take k.toNat)) else none)=some d:=by
   cases x<;>try exact hb
   exact absurd ⟨_,rfl⟩ hx
  refine ay (Oh.mp hb) λl hl hb=>aU (bQ hb |>.imp id NW) λhf QT=>?_;obtain rfl:=QT;refine a5 (jM R hl r) λa vs n QH S9=>?_;obtain rfl:=QH;refine aU S9 λe q=>?_;have hL:s.heap.IsList a vs.toArray:=bS _ e rfl n rfl;refine fA (Heap.IsList.typeIs (s:={s with heap:=s.heap.push {cls:=.type "slice",data:=.fields #[.none,.int k u,.none]}}) (hL.push _)) list_getitem_lookup
   (wpAny_getItem_list_slice (hL.push _) (Heap.IsSliceOf.new ..) .none (.int k u) .none (by simp) ?_ (by rw[N4,q.length];exact aO (ae hf)))
  rw[Db vs (NV (ai hf))];exact wm T (q.take _) hQ
def lv{k:Int}{u:Tok}(T:g.abh s.heap)(R:bG S g H s.heap)(hb:kJ H x k=some d)(r:abb g s.heap x o)(hQ:∀v s',Kp0 S g s s'→abb g s'.heap d v→Q v s'):
  wpAny S.M A (subscriptTail Qp slice o (.ref s.heap.objs.size)) Q E {s with heap:=s.heap.push {cls:=.type "slice",data:=.fields #[.int k u,.none,.none]}}:=by
 by_cases hx:∃z,x=.str z
 ·refine a9 hx λz Rz=>?_;obtain rfl:=Rz;refine a9 r λt RA=>?_;obtain rfl:=RA;refine aU (bQ hb |>.imp id NW) λhf Uz=>?_;obtain rfl:=Uz;exact oj (SBH.sliceItem_sn (wa s.heap) (λ_ _ e=>e) (λh' t' k' hk=>hQ _ _ (Kp0.of hk) ⟨_,rfl⟩) (aO hf))
 ·have hb:(listItems H x).bind (λl=>if(decide (0≤k)&&(decide (k≤l.length)&&aE l.length))=true then some (PV.lst (l.drop k.toNat)) else none)=some d:=by
   cases x<;>try exact hb
   exact absurd ⟨_,rfl⟩ hx
  refine ay (Oh.mp hb) λl hl hb=>aU (bQ hb |>.imp id NW) λhf QU=>?_;obtain rfl:=QU;refine a5 (jM R hl r) λa vs n SX Ta=>?_;obtain rfl:=SX;refine aU Ta λe q=>?_;have hL:s.heap.IsList a vs.toArray:=bS _ e rfl n rfl;refine fA (Heap.IsList.typeIs (s:={s with heap:=s.heap.push {cls:=.type "slice",data:=.fields #[.int k u,.none,.none]}}) (hL.push _)) list_getitem_lookup
   (wpAny_getItem_list_slice (hL.push _) (Heap.IsSliceOf.new ..) (.int k u) .none .none (by simp) ?_ (by rw[N4,q.length];exact aO (ae (ae hf))))
  rw[pick_from vs (NV (ai hf)) (by rw[q.length];exact NV (ai (ae hf)))];exact wm T (q.drop _) hQ
end
end
section
open Builtin
open Builtin._codecs
theorem x3{β:Type}{f:Nat→β→Sem (ForInStep β)}{a b:β}(h0:f 0 a=pure (.yield b))(h1:∀i,f i b=pure (.done b))(hn:0<n):forIn [:n] a f=(pure b:Sem β):=by
 rw[Std.Legacy.Range.forIn_eq_forIn_range'];show forIn (List.range' 0 ((n-0+1-1)/1)) a f=_;obtain⟨m,rfl⟩:∃m,n=m+1:=⟨n-1,(ac hn).symm⟩;rw[show(m+1-0+1-1)/1=m+1 by lia,List.range'_succ,List.forIn_cons,h0];cases m with
 |zero=>rfl
 |succ m=>
  show forIn (List.range' (0+1) (m+1)) b f=_;rw[List.range'_succ,List.forIn_cons,h1];rfl
def tF{β:Type}{f:Nat→β→Sem (ForInStep β)}{a:β}:forIn [:0] a f=(pure a:Sem β):=by
 rw[Std.Legacy.Range.forIn_eq_forIn_range'];rfl
def qI{l:Array Nat}{p:Nat→Bool}(h:∀c∈l.toList,p c=false):l.findIdx? p=none:=by
 rw[Array.findIdx?_eq_none_iff];exact λc hc=>h c (by simpa using hc)
def rN:∀(l:List Nat)(a:Array UInt8),l.foldl (λacc y=>acc++(asciiCodec.bytesOf y).toArray) a=a++(l.map λc=>c.toUInt8).toArray:=by
 intro l;induction l with
 |nil=>
  intro a;simp
 |cons c l ihr=>
  intro a;rw[List.foldl_cons,ihr];show a++[c.toUInt8].toArray++_=_;rw[OF,Array.append_assoc];congr 1;simp
def xv{id:String}{x:PySem.Str}(ha:Txt.isascii x=true)(hs:x.length≤sizeLine):encodeNarrow id asciiCodec none self x=pure (x.cps.toList.map λc=>c.toUInt8).toArray:=by
 have hb:∀c∈x.cps.toList,asciiCodec.bad c=false:=λc hc=>by
  have:c<128:=by
   have:=(Array.all_eq_true_iff_forall_mem (xs:=x.cps) (p:=λc=>decide (c<128))).mp ha c (by simpa using hc);exact NV this
  exact Os (Nat.not_le.mpr this)
 delta encodeNarrow;cases q:x.cps[0]? with
 |none=>
  have q0:x.cps.size=0:=by rw[Array.getElem?_eq_none_iff] at q;exact aa (a8 q) eQ
  have q1:x.cps.toList=[]:=by rw[List.length_eq_zero_iff.symm,N7];exact q0
  show(forIn [:x.cps.size] _ _>>=_)=_;rw[q0,q1,tF];rfl
 |some c=>
  have hc:c∈x.cps.toList:=by
   have:=List.mem_of_getElem? (l:=x.cps.toList) (i:=0) (a:=c) (by rw[Array.getElem?_toList];exact q);exact this
  have hn:0<x.length:=by
   show 0<x.cps.size;rw[Array.getElem?_eq_some_iff] at q;exact q.1
  refine(N2 (·>>=_) (x3 (b:=(x.cps.size,(x.cps.toList.map λc=>c.toUInt8).toArray,{})) ?_ (λi=>?_) hn)).trans rfl
  ·dsimp only;rw[NY (show ¬(#[]:Array UInt8).size>sizeLine from Nat.not_lt.mpr (Oc _))];rw[q];dsimp only;rw[hb c hc,N1 (show(!false)=true from rfl),Array.extract_size,qI hb];show pure (ForInStep.yield (0+x.cps.size,((x.cps.extract 0 x.cps.size).foldl _ #[]:Array UInt8),({}:Faults)))=_;rw[Array.extract_size,OM,← Array.foldl_toList,rN];simp
  ·dsimp only;rw[NY (Nat.not_lt.mpr (by rw[N4,NO,N7];exact hs))];have:x.cps[x.cps.size]?=none:=Array.getElem?_eq_none (Oe _);rw[this]
def pP{x:PySem.Str}{t u:Tok}:«str.encode» ⟨[.str x t,.str (PySem.Str.ofString "ascii") u],[]⟩=((encodeNarrow "str.encode" asciiCodec none (.str x t) x>>=λb=>mkBytes b)>>=λv=>ret v):=kR
section
variable{A:Around}
def rB{x:PySem.Str}{t u:Tok}(ha:Txt.isascii x=true)(hf:aE x.length=true)(h:∀t' k,Q (.bytes (x.cps.toList.map λc=>c.toUInt8).toArray t') {s with toks:=k}):wpAny S.M A (call (.builtin "str.encode") [.str x t,.str ("ascii":PySem.Str) u]) Q E s:=by
 refine call_meets F.slot_str_encode (typeIs_str _ _ _) F.entry_str_encode (F.args_str_encode_2 _ _) (S:=λ_ R s=>∀t' k,R (.ok (.ret (.bytes (x.cps.toList.map λc=>c.toUInt8).toArray t'))) {s with toks:=k}) (.of_wp λprog w A R s hS=>?_) h;have e:encodeNarrow "str.encode" asciiCodec none (.str x t) x=_:=xv ha (aO hf);show wpAny _ _ («str.encode» ⟨[.str x t,.str (PySem.Str.ofString "ascii") u],[]⟩) _ _ s;rw[pP,e];exact NN (NN (NQ (wpAny_mkBytes (NQ (ak _ rfl (hS _ _))) (by rw[N4,NO,N7];exact aO hf))))
end
end
section
open Builtin
open Builtin._codecs
def xz{β:Type}{f:Nat→β→Sem (ForInStep β)}(a:Nat→β)(n:Nat)(h:∀i,i<n→f i (a i)=pure (.yield (a (i+1)))):forIn [:n] (a 0) f=(pure (a n):Sem β):=by
 rw[Std.Legacy.Range.forIn_eq_forIn_range'];have:∀m k,k+m=n→forIn (List.range' k m) (a k) f=(pure (a n):Sem β):=λm=>by
  induction m with
  |zero=>exact λk e=>by rw[e.symm];rfl
  |succ m ih=>
   intro k e;rw[List.range'_succ,List.forIn_cons,h k (a8 (aq e))];exact ih (k+1) (lr e)
 have e:[:n].size=n:=by show(n-0+1-1)/1=n;simp
 show forIn (List.range' 0 [:n].size) (a 0) f=_;rw[e];exact this n 0 (OM _)
def xC{id:String}{b:Array UInt8}(ha:(b.toList.all λc=>decide (c.toNat<128))=true)(hs:b.size≤sizeLine):runDecoder id asciiDecoder none true b 0 []=pure ((b.toList.map λc=>c.toNat).toArray,b.size):=by
 delta runDecoder;refine(N2 (·>>=_) (xz (λi=>(i,((b.toList.map λc=>c.toNat).take i).toArray,({held:=[]}:Faults))) b.size λi hi=>?_)).trans ?_
 ·have hc:b[i]?=some b[i]:=Array.getElem?_eq_getElem hi;have Po:b[i].toNat<128:=NV (Ob.mp ha b[i] (by rw[Array.mem_def.symm];exact Array.getElem_mem hi));dsimp only;rw[NY (show ¬_>sizeLine from Nat.not_lt.mpr (NT (by rw[N4];exact List.length_take_le _ _) (NT (Nat.le_of_lt hi) hs)))];rw[NY (show ¬i≥b.size from Nat.not_le.mpr hi)];have hg:b.getD i 0=b[i]:=by rw[Array.getD_eq_getD_getElem?,hc];rfl
  have hf:asciiDecoder.find true b i=.text [b[i].toNat] (i+1):=by
   show(if(b.getD i 0).toNat<128 then Found.char (b.getD i 0).toNat (i+1) else _)=_;rw[hg,N1 Po];rfl
  rw[hf];have e2:(b.toList.map λc=>c.toNat).take (i+1)=(b.toList.map λc=>c.toNat).take i++[b[i].toNat]:=by
   rw[List.take_add_one,List.getElem?_map,Array.getElem?_toList,hc];rfl
  rw[e2,← List.append_toArray]
 ·show(pure (((b.toList.map λc=>c.toNat).take b.size).toArray,b.size):Sem (Array Nat×Nat))=_;rw[List.take_of_length_le];rw[NO,N7];exact Oe _
def vg{id:String}{b:Array UInt8}:decodeRoad id b (PySem.Str.ofString "ascii") none []=(runDecoder id asciiDecoder none true b 0 []>>=λr=>mkStr ⟨r.1⟩):=kR
def A0{c:UInt8}{cs:List UInt8}{t u:Tok}:«bytes.decode» ⟨[.bytes (c::cs).toArray t,.str (PySem.Str.ofString "ascii") u],[]⟩=(mkStr (PySem.Str.ofString "utf-8")>>=λ_=>mkStr (PySem.Str.ofString "ascii")>>=λe=>mkStr (PySem.Str.ofString "bytes.decode")>>=λd=>
  call (.builtin "_codecs.decode.text") [.bytes (c::cs).toArray t,e,.none,d]>>=λv=>ret v):=kR
def xH{t u:Tok}:«bytes.decode» ⟨[.bytes #[] t,.str (PySem.Str.ofString "ascii") u],[]⟩=(rule "bytes.decode.empty">>=λ_=>retStr Str.empty):=kR
def sQ(a b:Value):argsOk "bytes.decode" ⟨[a,b],[]⟩:=by
 unfold argsOk;rw[signature?_of (id:="bytes.decode") (n:=['e','d','o','c','e','d']) (o:=['s','e','t','y','b']) kR FB.owner_bytes];kernel_rfl
def rk{b:Array UInt8}{t t1 t2:Tok}{d:PySem.Str}{x:PySem.Str}(hd:∀id,runDecoder id asciiDecoder none true b 0 []=pure (x.cps,n)):
  Meets («_codecs.decode.text» ⟨[.bytes b t,.str (PySem.Str.ofString "ascii") t1,.none,.str d t2],[]⟩) (λ_ R s=>x.length≤sizeLine∧R (.ok (.ret (.str x s.toks))) {s with toks:=s.toks+1}):=by
 refine .of_wp λprog w A R s hS=>aU hS λQQ h=>?_;show wpAny _ _ (Bytes.bytesLike _ (.bytes b t)>>=λr=>_) _ _ s;refine NN (Oo KBd.like_eq (NN (Oo KBd.held_eq ?_)));show wpAny _ _ (decodeRoad _ b (PySem.Str.ofString "ascii") none []>>=λv=>_) _ _ s;rw[vg,hd];exact NN (NN (NQ (wpAny_mkStr (NQ (ak _ rfl h)) QQ)))
section
variable{A:Around}
def sj{b:Array UInt8}{t u:Tok}(ha:(b.toList.all λc=>decide (c.toNat<128))=true)(hf:aE b.size=true)(h:∀t' k,Q (.str ⟨(b.toList.map λc=>c.toNat).toArray⟩ t') {s with toks:=k}):wpAny S.M A (call (.builtin "bytes.decode") [.bytes b t,.str ("ascii":PySem.Str) u]) Q E s:=by
 refine call_meets FB.slot_bytes_decode (typeIs_bytes _ _ _) FB.entry_bytes_decode (sQ _ _) (S:=λ_ R s=>∀t' k,R (.ok (.ret (.str ⟨(b.toList.map λc=>c.toNat).toArray⟩ t'))) {s with toks:=k}) (.of_wp λprog w A R s hS=>?_) h;show wpAny _ _ («bytes.decode» ⟨[.bytes b t,.str (PySem.Str.ofString "ascii") u],[]⟩) _ _ s;rcases b with ⟨_ | ⟨c,cs⟩⟩
 ·rw[xH];exact NN (wpAny_rule (NN (wpAny_mkStr (NQ (ak _ rfl (hS _ _))) (Oc _))))
 ·rw[A0];exact NN (wpAny_mkStr (NN (wpAny_mkStr (NN (wpAny_mkStr (NN (call_function_meets KBd.kind_text KBd.plain_text KBd.entry_text (KBd.args_text _ _ _ _) (rk (x:=⟨((c::cs).map λc=>c.toNat).toArray⟩) λid=>xC ha (aO hf)) ⟨by show((c::cs).map _).toArray.size≤_;rw[N4,NO];exact aO hf,NQ (ak _ rfl (hS _ _))⟩)) kD)) kD)) kD)
end
end
section
open Builtin Builtin.Re
def iU{T:String}{n:PySem.Str}{id m:String}(hl:typeLookup (.type T) n=pure (some (.builtin id)))(h1:splitId id=some (T,m))(h2:withoutEnding? id "#opaque"=none)(h3:withoutEnding? id "#data"=none)(h4:(Manifest.find? T).bind (·.attrs.lookup m)=some .method)(h5:isSubtype (.type T) (.type T)=pure true)(h6:plainId id=true):Slot T n id:=
 .of hl h1 h2 h3 (.inr h4) h5 h6
def pG:isSubtype (.type "re.Match") (.type "re.Match")=pure true:=by rw[isSubtype_type];kernel_rfl
def mH:Slot "re.Match" "group" "re.Match.group":=iU (m:="group") (by rw[Ox,Of];kernel_rfl) kE kE kE kE pG kE
def oN:Slot "re.Match" "span" "re.Match.span":=iU (m:="span") (by rw[Ox,Of];kernel_rfl) kE kE kE kE pG kE
def sG:entryFor table "re.Match.group"=some Builtin.«re.Match.group»:=entryFor_of_tree kR
def tE:entryFor table "re.Match.span"=some Builtin.«re.Match.span»:=entryFor_of_tree kR
def xL:PlainAttrs "re.Match":=⟨ak ("object.__getattribute__") (by rw[Ox,Of];kernel_rfl) kE,by rw[Ox,Of];kernel_rfl⟩
def ur:typeOf (.builtin "re.Match.group")=pure (.type "method_descriptor"):=by show builtinType _=_;rw[builtinType_eq_fast];kernel_rfl
def x5:typeOf (.builtin "re.Match.span")=pure (.type "method_descriptor"):=by show builtinType _=_;rw[builtinType_eq_fast];kernel_rfl
def uq(a b:Value):argsOk "re.Match.group" ⟨[a,b],[]⟩:=by
 unfold argsOk;kernel_rfl
def xr(a b:Value):argsOk "re.Match.span" ⟨[a,b],[]⟩:=by
 unfold argsOk;kernel_rfl
noncomputable def c6(x:PySem.Str)(sp:List Int)(k:Nat):PV:=
 if sp.getD (2*k) (-1)<0||sp.getD (2*k+1) (-1)<0 then .none else .str ⟨x.cps.extract (sp.getD (2*k) (-1)).toNat (sp.getD (2*k+1) (-1)).toNat⟩
section
variable{M:Model}{A:Around}{P:Value×List Value→Shared→Prop}{b:Addr}{x:PySem.Str}{t u:Tok}{p po le li:Value}{sp:List Int}{k:Int}
def oZ{name:PySem.Str}{id:String}{vs:Array Value}(e:s.heap.get? a=some {cls:=.type "re.Match",data:=.fields vs})(sl:Slot "re.Match" name id)(ty:typeOf (.builtin id)=pure (.type "method_descriptor"))(h:P (.builtin id,[.ref a]) s):wpAny S.M A (getMethod (.ref a) name pl) P E s:=
 getMethod_builtin (ak _ e rfl) xL sl ty (λa' q=>by cases q;exact ak _ e rfl) h
def yf{vs:Array Value}(e:s.heap.get? a=some {cls:=.type "re.Match",data:=.fields vs})(h:P (.builtin "re.Match.group",[.ref a]) s):wpAny S.M A (getMethod (.ref a) "group" pl) P E s:=oZ e mH ur h
def AB{vs:Array Value}(e:s.heap.get? a=some {cls:=.type "re.Match",data:=.fields vs})(h:P (.builtin "re.Match.span",[.ref a]) s):wpAny S.M A (getMethod (.ref a) "span" pl) P E s:=oZ e oN x5 h
def nQ{Q:ReFound→Shared→Prop}(e:s.heap.get? a=some (qx x t p po le li b))(e2:s.heap.get? b=some (dX (sp.map rawInt) n))(h:Q ⟨#[.str x t,p,po,le,li,.ref b],sp.toArray⟩ s):wpAny M A (reFound (.ref a)) Q E s:=by
 unfold reFound;refine NN (wpAny_fieldsOf e rfl (NN (NN (wpAny_seqItems e2 rfl (NQ (NQ ?_))))));have:((sp.map rawInt).toArray.map reRawOf)=sp.toArray:=by
  rw[List.map_toArray,List.map_map];congr 1;exact(List.map_congr_left λx _=>rfl).trans (List.map_id' sp)
 show Q ⟨_,(sp.map rawInt).toArray.map reRawOf⟩ s;rw[this];exact h
def pf{Q:Nat→Shared→Prop}{x:ReFound}(h0:0≤k)(h1:2*k<x.spans.size)(h:Q k.toNat s):wpAny M A (reGroupNumber x (.int k u)) Q E s:=by
 unfold reGroupNumber;refine NN (Oo (a:=some k) rfl (bm_if_true rfl (NN (Oo (a:=k) rfl (bm_if_false ?_ (NQ h))))));rw[Os (Int.not_lt.mpr h0),Os (Int.not_le.mpr h1)];rfl
def lQ{l:List Int}:l.toArray.getD i (-1)=l.getD i (-1):=by
 rw[Array.getD_eq_getD_getElem?,OA,List.getElem?_toArray]
def tO(e:s.heap.get? a=some (qx x t p po le li b))(e2:s.heap.get? b=some (dX (sp.map rawInt) n))(h0:0≤k)(h1:2*k<sp.length)(hf:aE x.length=true)(h:∀v k',abb g s.heap (c6 x sp k.toNat) v→Q v {s with toks:=k'}):wpAny S.M A (call (.builtin "re.Match.group") [.ref a,.int k u]) Q E s:=by
 refine call_meets mH (ak _ e rfl) sG (uq _ _) (S:=λ_ R s'=>s'=s∧∀v k',abb g s.heap (c6 x sp k.toNat) v→R (.ok (.ret v)) {s with toks:=k'}) (.of_wp λprog w A R s' hS=>aU hS λO8 hS=>?_) ⟨rfl,h⟩;obtain rfl:=O8;show wpAny _ _ (noKeywords "Match.group" ⟨[.ref a,.int k u],[]⟩>>=λ_=>reFound (.ref a)>>=λy=>reGroupNumber y (.int k u)>>=λm=>reGroupText y m .none>>=λv=>ret v) _ _ _;refine NN (NQ (NN (nQ e e2 (NN (pf h0 (by rw[N4];exact_mod_cast h1) (NN ?_))))));have e3:c6 x sp k.toNat=if(decide (sp.getD (2*k.toNat) (-1)<0)||decide (sp.getD (2*k.toNat+1) (-1)<0))=true then .none else .str ⟨x.cps.extract (sp.getD (2*k.toNat) (-1)).toNat (sp.getD (2*k.toNat+1) (-1)).toNat⟩:=rfl;show wpAny _ _ (if(decide (sp.toArray.getD (2*k.toNat) (-1)<0)||decide (sp.toArray.getD (2*k.toNat+1) (-1)<0))=true then pure .none else reTextOf (.str x t)>>=λz=>reSlice z.1 z.2 (sp.toArray.getD (2*k.toNat) (-1)).toNat (sp.toArray.getD (2*k.toNat+1) (-1)).toNat) _ _ _;rw[lQ,lQ];by_cases q:(decide (sp.getD (2*k.toNat) (-1)<0)||decide (sp.getD (2*k.toNat+1) (-1)<0))=true
 ·rw[N1 q];exact NQ (NQ (ak _ rfl (hS .none s'.toks (by rw[e3,N1 q];rfl))))
 ·rw[NY q];refine NN (NQ (wpAny_mkStr (NQ (ak _ rfl (hS _ _ (by rw[e3,NY q];exact⟨_,rfl⟩)))) (NT ?_ (aO hf))));show(x.cps.extract _ _).size≤x.cps.size;rw[Array.size_extract];exact NT (Nat.sub_le _ _) (Nat.min_le_right _ _)
def xB(T:g.abh s.heap)(e:s.heap.get? a=some (qx x t p po le li b))(e2:s.heap.get? b=some (dX (sp.map rawInt) n))(h0:0≤k)(h1:2*k<sp.length)(h:∀v s',Kp0 S g s s'→abb g s'.heap (.tup [.int (sp.getD (2*k.toNat) (-1)),.int (sp.getD (2*k.toNat+1) (-1))]) v→Q v s'):wpAny S.M A (call (.builtin "re.Match.span") [.ref a,.int k u]) Q E s:=by
 refine call_meets oN (ak _ e rfl) tE (xr _ _) (S:=λ_ R OP=>OP=s∧∀v s',Kp0 S g s s'→abb g s'.heap (.tup [.int (sp.getD (2*k.toNat) (-1)),.int (sp.getD (2*k.toNat+1) (-1))]) v→R (.ok (.ret v)) s') (.of_wp λprog w A R s' hS=>aU hS λPA hS=>?_) ⟨rfl,h⟩;obtain rfl:=PA;show wpAny _ _ ((selfAndSome "Match.span" "span" 0 1 ⟨[.ref a,.int k u],[]⟩>>=λr=>reFound r.1>>=λy=>(match r.2 with | [g]=>reGroupNumber y g | _=>pure 0)>>=λm=>pure (y,m))>>=λz=>mkInt (z.1.spans.getD (2*z.2) (-1))>>=λv1=>mkInt (z.1.spans.getD (2*z.2+1) (-1))>>=λv2=>newTuple [v1,v2]>>=λv=>ret v) _ _ _;refine NN (NN (Oo (a:=(Value.ref a,[Value.int k u])) rfl (NN (nQ e e2 (NN (pf h0 (by rw[N4];exact h1) (NQ ?_)))))));show wpAny _ _ (mkInt (sp.toArray.getD (2*k.toNat) (-1))>>=λv1=>mkInt (sp.toArray.getD (2*k.toNat+1) (-1))>>=λv2=>newTuple [v1,v2]>>=λv=>ret v) _ _ _;rw[lQ,lQ];exact NN (wpAny_mkInt (NN (wpAny_mkInt (NN (wpAny_newTuple (NQ (ak _ rfl (hS _ _ Kp0.push (aH _ _ 0 rfl T.new (NZ _ rfl) (aN _ _ rfl ⟨_,rfl⟩ (aN _ _ rfl ⟨_,rfl⟩ rfl)))))))))))
end
end
section
open Builtin
section
variable{A:Around}
def yJ{R:Result→Shared→Prop}{b:Array UInt8}{t:Tok}{L:Addr}{T8:Nat}(hh:A.handled=none)(hS:s.heap.get? L=some {cls:=.type "list",data:=.seq #[] T8})(hn:b.size≤sizeLine)(hR:∀h' tk Rb c',(∀b o,b≠L→s.heap.get? b=some o→h'.get? b=some o)→h'.get? L=some {cls:=.type "list",dict:=none,data:=.seq Rb c',slots:=#[]} →
   ItemsOf (λi v=>∃c u,b[i]?=some c∧v=.int (c.toNat:Int) u) Rb b.size→R (.ok (.ret .none)) {s with heap:=h',toks:=tk}):
  wpAny S.M A.in1 (Builtin.List.listExtendWith (.ref L) (.bytes b t) .none)
   (λfin s'=>match fin with | .done f=>R (.ok f) s' | .again c'=>c'.quiet=true∧codeAny S.M A c' R s') (λe s'=>R (.error e) s') s:=by
 have ne:L≠s.heap.objs.size:=Nat.ne_of_lt (Heap.lt_size hS);have hT:s.TypeIs (.bytes b t) "bytes":=typeIs_bytes _ _ _;unfold Builtin.List.listExtendWith;refine NN (wpAny_typeOf hT (bm_if_false (by rfl) (NN (KBw.pyIter_bytes (NN (Om ?_))))));unfold Builtin.List.listLengthHint;refine NN (wpAny_specialOf (typeIs_bytes _ _ _) FB.slot_bytes_len.lookup ?_)
 wp_delta
 refine NN (wpAny_isInstance (T:="bytes") (v:=.bytes b t) (b:=true) (typeIs_bytes _ _ _) (by rw[isSubtype_type];kernel_rfl) ?_);show wpAny _ _ (typeOf (Value.bytes b t)>>=_) _ _ _;refine NN (wpAny_typeOf (typeIs_bytes _ _ _) (NQ (bm_if_false (by rfl) (NQ ⟨plainId_quiet F.plain_extend_loop _,codeAny_extend_loopS (KBw.walks (A:=A.in1) hh s.heap.objs.size b t).toS hn L (λq=>ne (NX.mp q)) .none b.size 0 _ #[] T8 rfl (Oc _) (aV _ (NZ _ rfl) rfl rfl) (NS _ hS) (ItemsOf.nil _) λs' Rb c' hm WN Ri=>?_⟩))));rw[Moved.eq_with hm];refine hR s'.heap s'.toks Rb c' (λx o hx e=>hm.heap x o (λq=>?_) (NS _ e)) WN Ri;rcases NU.mp q with q | q
 ·exact hx q
 ·exact absurd (Heap.lt_size e) (by rw[NX.mp q];exact Nat.lt_irrefl _)
def ly{b:Array UInt8}{t:Tok}(hh:A.handled=none)(T:g.abh s.heap)(hf:aE b.size=true)(hQ:∀v s',Kp0 S g s s'→abb g s'.heap (.lst (b.toList.map λc=>.int c.toNat)) v→Q v s'):wpAny S.M A (call (.type "list") [.bytes b t]) Q E s:=by
 refine callType_codes (Q₁:=λobj OP=>obj=.ref s.heap.objs.size∧OP={s with heap:=s.heap.push {cls:=.type "list",data:=.seq #[]}}) F.called_list (F.typeCall_list_1 _) F.entry_list_init (code_list_new _ ⟨rfl,rfl⟩) λobj OP O9=>aU O9 λO8 Pq=>?_;obtain rfl:=O8;obtain rfl:=Pq;have hS:(s.heap.push {cls:=.type "list",data:=.seq #[]}).get? s.heap.objs.size=some {cls:=.type "list",data:=.seq #[]}:=NZ _ rfl;refine⟨ak _ hS rfl,F.args_list_init_2 _ _,?_⟩;show wpAny _ _ (Builtin.List.listItems (.ref s.heap.objs.size)>>=λold=>updateSeq s.heap.objs.size (λ_=>#[])>>=λ_=>letGo old.toList.reverse>>=λ_=>Builtin.List.listExtendWith (.ref s.heap.objs.size) (.bytes b t) .none) _ _ _;refine NN (m:=Builtin.List.listItems (.ref s.heap.objs.size)) (NN (m:=seqItems? (.ref s.heap.objs.size)) (wpAny_seqItems hS rfl (NQ (NN (wpAny_updateSeq hS rfl (NN (wpAny_letGo (yJ (A:=A.in1) (T8:=_) hh (Heap.get?_update_self (Obj.mapSeq (λ_=>(#[]:Array Value))) hS rfl) (aO hf) λh' tk Rb c' hk WN Ri=>⟨rfl,?_⟩))))))));have old:∀x o,s.heap.get? x=some o→h'.get? x=some o:=λx o e=>by
  have ne:x≠s.heap.objs.size:=Nat.ne_of_lt (Heap.lt_size e);exact hk x o ne ((Heap.get?_update_other _ _ ne.symm).trans (NS _ e))
 refine hQ _ _ (Kp0.of old) (aH _ Rb.toList c' rfl T.new WN ?_);have rep:∀(l:List Value)(k:Nat),(∀i v,l[i]?=some v→∃c u,b[k+i]?=some c∧v=.int (c.toNat:Int) u)→k+l.length=b.size→aD g h' ((b.toList.drop k).map λc=>.int c.toNat) l:=λl=>by
  induction l with
  |nil=>
   intro k _ hl;rw[List.drop_eq_nil_of_le (by rw[N7,hl.symm];exact Oe _)];rfl
  |cons v l ih=>
   refine λk h hl=>aP (h 0 v rfl) λc u hc PA=>?_;obtain rfl:=PA;have hk:k<b.size:=by rw[hl.symm,NR];exact eQ
   have hc:b.toList[k]?=some c:=by rw[Array.getElem?_toList];exact hc
   have e:b.toList.drop k=c::b.toList.drop (k+1):=by
    rw[List.drop_eq_getElem_cons (by rw[N7];exact hk),(Og.mp hc).2]
   rw[e];exact aN _ _ rfl ⟨u,rfl⟩ (ih (k+1) (λi v hv=>by rw[Nat.add_assoc,Nat.add_comm 1];exact h (i+1) v hv) (by rw[hl.symm,NR];exact dG))
 exact rep Rb.toList 0 (λi v hv=>by rw[OM];exact Ri.2 i v (by rw[← Array.getElem?_toList];exact hv)) (by rw[OM,N7];exact Ri.1)
def mF{a:Addr}(e:s.heap.get? a=some (cE vs n))(hf:aE vs.length=true)(hQ:∀k,Q (.bool (!vs.isEmpty)) {s with toks:=k}):wpAny S.M A (call (.type "bool") [.ref a]) Q E s:=by
 have hs:(vs.toArray.size:Int)<2^63:=by rw[N4];exact Int.lt_of_le_of_lt (Int.ofNat_le.mpr (dq hf)) kD
 refine call_bool_1 (S:=λ_ R s'=>s'=s∧∀k,R (.ok (.ret (.bool (!vs.isEmpty)))) {s with toks:=k}) (Meets.of_wp λprog w A R s' h=>?_) ⟨rfl,λk=>⟨rfl,hQ k⟩⟩;refine aU h λP2 h=>?_;obtain rfl:=P2;show wpAny _ _ (isType (.type "bool")>>=λb=>_) _ _ _;refine NN (Oo (a:=true) rfl (bm_if_false rfl (NN (Oo F.conv_sub_bool (bm_if_false rfl (NN (Oo (a:=[.ref a]) rfl ?_)))))));refine NN (wpAny_truthy_list (items:=vs.toArray) (bS _ e rfl n rfl) hs (NQ (ak _ rfl ?_)));rw[List.isEmpty_toArray];exact h _
def lx(e:s.heap.get? a=some (cE vs n))(hQ:∀k,Q (.bool false) {s with toks:=k}):wpAny S.M A (call (.builtin "isinstance") [.ref a,.type "str"]) Q E s:=
 call_isinstance (isinstance_false_list kE F.isi_meta_str F.sub_list_str) ⟨ak _ e rfl,hQ _⟩
end
end
section
open Builtin
noncomputable def kS(x:PySem.Str):List PySem.Str→List PySem.Str
 |[]=>[x]
 |y::r=>if sortedS [x,y] then x::y::r else y::kS x r
def rF{x y:PySem.Str}{r:List PySem.Str}:kS x (y::r)=if sortedS [x,y] then x::y::r else y::kS x r:=rfl
noncomputable def dh:List PySem.Str→List PySem.Str
 |[]=>[]
 |x::r=>kS x (dh r)
abbrev yz(a b:PySem.Str):Prop:=a.cps.toList≤b.cps.toList
def qj{x y:PySem.Str}:sortedS [x,y]=true↔yz x y:=by
 show(!ltCps y.cps.toList x.cps.toList&&true)=true↔_;rw[ltCps_eq,Bool.and_true,Bool.not_eq_true',decide_eq_false_iff_not];exact Iff.rfl
def rh(x:PySem.Str):∀l:List PySem.Str,(kS x l).Perm (x::l):=by
 intro l;induction l with
 |nil=>
  exact .refl _
 |cons y r ihr=>
  rw[rF];split
  ·exact .refl _
  ·exact((ihr).cons y).trans (.swap x y r)
def uM{x:PySem.Str}:∀{l:List PySem.Str},l.Pairwise yz→(kS x l).Pairwise yz:=by
 intro l;induction l with
 |nil=>
  exact λ_=>List.pairwise_singleton _ _
 |cons y r ihr=>
  refine λh=>aU (List.pairwise_cons.mp h) λh1 h2=>?_;rw[rF];split
  ·rename_i q;have q:=qj.mp q;refine List.pairwise_cons.mpr ⟨λz hz=>?_,h⟩;rcases NU.mp hz with rfl | hz
   ·exact q
   ·exact List.le_trans q (h1 z hz)
  ·rename_i q;have q:yz y x:=(List.le_total _ _).resolve_left λe=>q (qj.mpr e);refine List.pairwise_cons.mpr ⟨λz hz=>?_,ihr h2⟩;rcases NU.mp ((rh x r).mem_iff.mp hz) with rfl | hz
   ·exact q
   ·exact h1 z hz
theorem o8:∀l:List PySem.Str,(dh l).Perm l
 |[]=>.refl _
 |x::r=>(rh x _).trans ((o8 r).cons x)
theorem k6:∀l:List PySem.Str,(dh l).Pairwise yz
 |[]=>.nil
 |x::r=>uM (k6 r)
def Dm{a b:PySem.Str}(h:yz a b)(k:yz b a):a=b:=by
 obtain⟨⟨a⟩⟩:=a;obtain⟨⟨b⟩⟩:=b;have:a=b:=List.le_antisymm h k;rw[this]
def wG{l ts:List PySem.Str}(p:l.Perm ts)(h:l.Pairwise yz):dh ts=l:=
 ((o8 ts).trans p.symm).eq_of_pairwise (le:=yz) (λa b _ _=>Dm) (k6 ts) h
theorem pv:∀{l:List PySem.Str},sortedS l=true→l.Pairwise yz
 |[],_=>.nil
 |[x],_=>List.pairwise_singleton _ _
 |x::y::r,h=>by
  have h':(!ltCps y.cps.toList x.cps.toList&&risingS y r)=true:=h;refine aU (Oq.mp h') λh1 h2=>?_;have q:yz x y:=qj.mp (by show(!ltCps y.cps.toList x.cps.toList&&true)=true;rw[h1];rfl);have ih:(y::r).Pairwise yz:=pv h2;refine List.pairwise_cons.mpr ⟨λz hz=>?_,ih⟩;rcases NU.mp hz with rfl | hz
  ·exact q
  ·exact List.le_trans q ((List.pairwise_cons.mp ih).1 z hz)
section
variable{A:Around}
def Ba:∀(xs:List (PySem.Str×Tok)),StrsAre (xs.map λp=>.str p.1 p.2) (xs.map (·.1)):=by
 intro xs;induction xs with
 |nil=>
  exact .nil
 |cons zx xs ihr=>
  obtain⟨x,t⟩:=zx;exact .cons x t (ihr)
def En{ss:List PySem.Str}(q:StrsAre vs ss):aD g h (ss.map .str) vs:=by
 induction q with
 |nil=>rfl
 |cons x t _ ih=>exact aN _ _ rfl ⟨t,rfl⟩ ih
def sV{ts:List PySem.Str}(T:g.abh s.heap)(e:s.heap.get? a=some (dX vs n))(hS:StrsAre vs ts)(hl:vs.length<64)(hQ:∀v s',Kp0 S g s s'→abb g s'.heap (.lst ((dh ts).map .str)) v→Q v s'):wpAny S.M A (call (.builtin "sorted") [.ref a]) Q E s:=by
 refine Calls.call_function_entry kind_sorted plain_sorted entry_sorted (args_sorted1 _) ?_;unfold Builtin.«sorted»;have hz:vs.toArray.size≤sizeLine:=by rw[N4,sizeLine_eq];exact NT (Nat.le_of_lt hl) kD
 refine NN (m:=checkCount "sorted" 1 1 _) (NQ (NN (wpAny_collect_seq a (.inr rfl) e rfl rfl (λh' hk=>NN (wpAny_newList ?_ (by rw[N4.symm];exact hz))) hz)));have W6:(h'.push (seqObj "list" vs.toArray 0)).get? h'.objs.size=some (seqObj "list" vs.toArray 0):=NZ _ rfl;refine NN (Om (wpAny_call_entry slot_list_sort (ak _ W6 rfl) entry_list_sort (list_sort_treeK strKind_oneLt W6 hS.keysOf (λPQ Ql rest e=>keyKind_strs (by rw[e.symm];exact hS)) hl λPX hp hs=>ak _ rfl (NQ (ak _ rfl (c9 (sorted_out_str hS hp hs) λss' h1 h2 h3=>?_)))) (args_list_sort _)));have eS:dh ts=ss':=wG h2 (pv h3);refine a9 (sortedHeap_at (out:=(arrOf PX).map (·.2)) W6) λc hc=>?_;have old:∀b o,s.heap.get? b=some o→(sortedHeap (h'.push (seqObj "list" vs.toArray 0)) h'.objs.size vs ((arrOf PX).map (·.2))).get? b=some o:=λb o eb=>by
  have Po:=Heap.lt_size (hk b o eb);rw[sortedHeap_old (Nat.ne_of_lt Po) (by rw[Heap.size_push];exact Nat.lt_succ_of_lt Po)];exact NS _ (hk b o eb)
 have T':¬g.Z h'.objs.size:=λz=>c8 ((T _ z).imp λo e=>hk _ o e) (be h');rw[eS] at hQ;exact hQ _ _ (Kp0.of (tk:=s.toks) old) (aH _ (((arrOf PX).map (·.2)).toList) c rfl T' hc (En h1))
end
end
section
open Builtin
def mZ:Slot "re.Match" "__getattribute__" "object.__getattribute__":=
 .of (owner:="object") (n:="__getattribute__") (by rw[Ox,Of];kernel_rfl) kE kE kE (by first | exact .inl kE | exact .inr kE) (by rw[isSubtype_type];kernel_rfl)
def sC:typeLookup (.type "re.Match") "string"=pure (some (.builtin "re.Match.string")):=by rw[Ox,Of];kernel_rfl
def hM:typeOf (.builtin "re.Match.string")=pure (.type "member_descriptor"):=by show builtinType _=_;rw[builtinType_eq_fast];kernel_rfl
def Dk:typeLookup (.type "member_descriptor") "__set__"=pure (some (.builtin "member_descriptor.__set__")):=by rw[Ox,Of];kernel_rfl
def qM:entryFor table "re.Match.string"=some Builtin.«re.Match.string»:=entryFor_of_tree kR
section
variable{M:Model}{A:Around}{x:PySem.Str}{t:Tok}{vs:Array Value}
def fj{v:Value}{T:String}{name:PySem.Str}{r:Option Value}{Q:Option Value→Shared→Prop}(hT:s.TypeIs v T)(h:typeLookup (.type T) name=pure r)(hQ:Q r s):wpAny M A (specialOf v name) Q E s:=by
 unfold specialOf;exact NN (wpAny_typeOf hT (Oo h hQ))
def rL{Q:ObjectAttr.Found→Shared→Prop}(hQ:Q (.bind (.builtin "member_descriptor.__get__") (.builtin "re.Match.string")) s):wpAny M A (ObjectAttr.find (.ref a) (.type "re.Match") ("string":PySem.Str)) Q E s:=by
 unfold ObjectAttr.find;exact NN (Oo sC (NN (fj (s:=s) (T:="member_descriptor") hM KF.slot_mem.lookup (NN (NN (m:=ObjectAttr.takesStores (.builtin "re.Match.string")) (NN (fj (s:=s) (T:="member_descriptor") hM Dk (NQ (NQ (NN (wpAny_rule (NQ hQ))))))))))))
end
section
variable{A:Around}{x:PySem.Str}{t:Tok}{vs:Array Value}
def rj{R:Result→Shared→Prop}(e:s.heap.get? a=some {cls:=.type "re.Match",data:=.fields vs})(h0:vs[0]?=some (.str x t))(h:R (.ok (.ret (.str x t))) s):codeAny S.M A (.call (.builtin "member_descriptor.__get__") ⟨[.builtin "re.Match.string",.ref a,.type "re.Match"],[]⟩) R s:=by
 refine codeAny_call_builtin KF.slot_mem.plain KF.entry_mem (KF.slot_mem.check _ _ _ _ _ _ _ _ hM (KF.args_mem _ _ _) ?_);unfold Builtin.«member_descriptor.__get__» Getset_descriptor.descrGet;rw[show Getset_descriptor.descrGetArgs ⟨[.builtin "re.Match.string",.ref a,.type "re.Match"],[]⟩=pure (.builtin "re.Match.string",some (.ref a),some (.type "re.Match")) by kernel_rfl];refine NN (NQ ?_);show wpAny _ _ (Getset_descriptor.descrCheckInstance (.builtin "re.Match.string") (.ref a)>>=λ_=>again (.builtin "re.Match.string" ⟨[.ref a],[]⟩)) _ _ _;refine NN ?_;unfold Getset_descriptor.descrCheckInstance;rw[show Getset_descriptor.descrNameAndClass (.builtin "re.Match.string")=pure (("string":PySem.Str),.type "re.Match") by kernel_rfl];refine NN (NQ (NN (wpAny_isInstance (T:="re.Match") (b:=true) (ak _ e rfl) pG (bm_if_false rfl (NQ (NQ ⟨Code.quiet_builtin _ kE,codeAny_builtin qM ?_⟩))))));show wpAny _ _ (field (.ref a) 0>>=λv=>ret v) _ _ _;exact NN (wpAny_field e rfl h0 (NQ h))
def tL(e:s.heap.get? a=some {cls:=.type "re.Match",data:=.fields vs})(h0:vs[0]?=some (.str x t))(h:∀k,Q (.str x t) {s with toks:=k}):wpAny S.M A (getAttr (.ref a) ("string":PySem.Str) true) Q E s:=by
 unfold getAttr getAttrBy;refine NN (wpAny_mkText (Om (NN (wpAny_typeOf (T:="re.Match") (ak _ e rfl) (NN (Oo mZ.lookup ?_))))));show wpAny _ _ (getAttrByItsOwn (.ref a) (.str "string" s.toks) (.type "re.Match") (.builtin "object.__getattribute__") true true) _ _ _;unfold getAttrByItsOwn;refine NN (m:=hookBefore (.type "re.Match")) (NQ (NN (wpAny_attempt (Om ?_))));show wpAny _ _ (bindSpecial (.builtin "object.__getattribute__") (.ref a)>>=λr=>call r.1 (r.2++[.str "string" s.toks])) _ _ _;refine NN (Oo (mZ.bind (.ref a)) (call_meets mZ (ak _ e rfl) F.entry_object_getattribute (F.args_object_getattribute_2 _ _) (S:=λ_ R s'=>s'.heap.get? a=some {cls:=.type "re.Match",data:=.fields vs}∧R (.ok (.ret (.str x t))) s') (.of_wp λprog w A R s' hS=>aU hS λe hS=>?_) ⟨e,NQ (h _)⟩));unfold Builtin.«object.__getattribute__»;refine NN (Oo (a:=(Value.ref a,[Value.str "string" s.toks])) rfl (NN (m:=ObjectAttr.attrName _) (NQ (NN (wpAny_typeOf (T:="re.Match") (ak _ e rfl) (NN (rL ?_)))))));show wpAny _ _ (ObjectAttr.bindTo (.builtin "member_descriptor.__get__") (.builtin "re.Match.string") (.ref a) (.type "re.Match")) _ _ _;show wpAny _ _ (holding [_] (call (.builtin "member_descriptor.__get__") [.builtin "re.Match.string",.ref a,.type "re.Match"])>>=λv=>ret v) _ _ _;exact NN (Om (wpAny_call (rj (S:=⟨prog,w,s.heap,[]⟩) e h0 (NQ (ak _ rfl hS)))))
end
end
section
set_option genCtorIdx true in
inductive zL where
 |join | lstrip | rstrip | startswith | encode | decode | get | group | span | values
noncomputable def zL.name:zL→Str
 |.join=>"join" |.lstrip=>"lstrip" |.rstrip=>"rstrip" |.startswith=>"startswith" |.encode=>"encode" |.decode=>"decode" |.get=>"get" |.group=>"group" |.span=>"span" |.values=>"values"
noncomputable def zL.id:zL→String
 |.join=>"str.join" |.lstrip=>"str.lstrip" |.rstrip=>"str.rstrip" |.startswith=>"str.startswith" |.encode=>"str.encode" |.decode=>"bytes.decode" |.get=>"dict.get" |.group=>"re.Match.group" |.span=>"re.Match.span" |.values=>"dict.values"
noncomputable def PV.abx:PV→Option Str
 |.str x=>some x
 |_=>Option.none
noncomputable def PV.abA:PV→Option Nat
 |.obj i=>some i
 |_=>Option.none
def PV.abk{x:Nat}(h:d.abA=some x):d=.obj x:=by cases d<;>first | exact N2 _ (NW h) | exact aT h
noncomputable def PV.ab3:PV→Option (Str×List Int)
 |.mat x sp=>some (x,sp)
 |_=>Option.none
noncomputable def PV.int?:PV→Option Int
 |.int x=>some x
 |_=>Option.none
noncomputable def PV.abL:PV→Option (Array UInt8)
 |.bytes x=>some x
 |_=>Option.none
def PV.abg(h:d.abx=some x):d=.str x:=by cases d<;>first | exact N2 _ (NW h) | exact aT h
def PV.abX{x:Str×List Int}(h:d.ab3=some x):d=.mat x.1 x.2:=by cases d<;>first | exact aT h | exact N2 (λx:Str×List Int=>PV.mat x.1 x.2) (NW h)
def PV.abr{x:Int}(h:d.int?=some x):d=.int x:=by cases d<;>first | exact N2 _ (NW h) | exact aT h
def PV.abN{x:Array UInt8}(h:d.abL=some x):d=.bytes x:=by cases d<;>first | exact N2 _ (NW h) | exact aT h
noncomputable def dP:List PV→Option (List Str)
 |[]=>some []
 |d::r=>d.abx.bind λx=>(dP r).map λl=>x::l
noncomputable def asciiBytes(x:Str):Array UInt8:=(x.cps.toList.map λc=>c.toUInt8).toArray
noncomputable def oU(b:Array UInt8):Str:=⟨(b.toList.map λc=>c.toNat).toArray⟩
noncomputable def iq:List PV→Option PV
 |[d]=>some d
 |_=>none
def xg{l:List PV}(h:iq l=some d):l=[d]:=by
 rcases l with _ | ⟨a,_ | ⟨b,l⟩⟩<;>first | (cases h;rfl) | cases h
noncomputable def sv:List PV→Option Unit
 |[]=>some ()
 |_=>none
def uO{l:List PV}{d:Unit}(h:sv l=some d):l=[]:=by
 cases l<;>first | rfl | cases h
def pK(H:AH)(m:zL)(o:PV)(as:List PV):Option PV:=match m with
 |.join=>o.abx.bind λx=>(iq as).bind λc=>(listItems H c).bind λl=>(dP l).bind λts=>if JoinOk x ts=true then some (.str (Txt.join x ts)) else none
 |.lstrip=>o.abx.bind λx=>(sv as).bind λ_=>if aE x.length=true then some (.str (Txt.lstrip x)) else none
 |.rstrip=>o.abx.bind λx=>(sv as).bind λ_=>if aE x.length=true then some (.str (Txt.rstrip x)) else none
 |.startswith=>o.abx.bind λx=>(iq as).bind λc=>c.abx.bind λy=>some (.bool (Txt.startswith x y))
 |.encode=>o.abx.bind λx=>(iq as).bind λc=>c.abx.bind λy=>if(decide (y=("ascii":Str))&&(Txt.isascii x&&aE x.length))=true then some (.bytes (asciiBytes x)) else none
 |.decode=>o.abL.bind λb=>(iq as).bind λc=>c.abx.bind λy=>if(decide (y=("ascii":Str))&&((b.toList.all λc=>decide (c.toNat<128))&&aE b.size))=true then some (.str (oU b)) else none
 |.get=>(bf H o).bind λl=>(iq as).bind λc=>c.abx.bind λy=>some ((aM y l).getD .none)
 |.group=>o.ab3.bind λm=>(iq as).bind λc=>c.int?.bind λk=>if(decide (0≤k)&&(decide (2*k<m.2.length)&&aE m.1.length))=true then some (c6 m.1 m.2 k.toNat) else none
 |.span=>o.ab3.bind λm=>(iq as).bind λc=>c.int?.bind λk=>if(decide (0≤k)&&decide (2*k<m.2.length))=true then some (.tup [.int (m.2.getD (2*k.toNat) (-1)),.int (m.2.getD (2*k.toNat+1) (-1))]) else none
 |.values=>(bf H o).bind λ_=>(sv as).bind λ_=>o.abA.map .vw
def BC(H:AH)(m:zL)(o:PV):Bool:=match m with
 |.join | .lstrip | .rstrip | .startswith | .encode=>o.abx.isSome
 |.decode=>o.abL.isSome
 |.get | .values=>(bf H o).isSome
 |.group | .span=>o.ab3.isSome
def cR{α β:Type}{o:Option α}{f:α→Option β}{b:β}{P:Prop}(h:o.bind f=some b)(g:∀a,o=some a→f a=some b→P):P:=by
 cases o with
 |none=>cases h
 |some a=>exact g a rfl h
def rm:∀{l:List PV}{ts:List Str}{vs:List Value},dP l=some ts→aD g h l vs→∃xs:List (Str×Tok),vs=strValues xs∧xs.map (·.1)=ts:=by
 intro l;induction l with
 |nil=>
  intro _ _ e r;cases e;cases r;exact ak [] rfl rfl
 |cons d l ihr=>
  intro ts _ e r;refine ay (Oh.mp e) λx hx e=>ay (N8.mp e) λb hb Pt=>?_;obtain rfl:=Pt;obtain rfl:=PV.abg hx;refine aP r λ_ r Pq UM=>?_;obtain rfl:=Pq;refine aU UM λUR q=>?_;obtain⟨t,rfl⟩:=UR;refine ay (ihr hb q) λxs P2 Qd=>?_;obtain rfl:=P2;obtain rfl:=Qd;exact ak ((x,t)::xs) rfl rfl
section
variable{A:Around}{P:Value×List Value→Shared→Prop}
def vh{t:Tok}(h:P (.builtin "str.encode",[.str x t]) s):wpAny S.M A (getMethod (.str x t) "encode" pl) P E s:=by
 with_reducible exact GM.of (.str x t) (typeIs_str _ _ _) F.slot_str_encode F.type_str_encode GM.noRef h
def uA{b:Array UInt8}{t:Tok}(h:P (.builtin "bytes.decode",[.bytes b t]) s):wpAny S.M A (getMethod (.bytes b t) "decode" pl) P E s:=by
 exact KBd.method h
def r5{es:List (Str×Value)}(e:s.heap.DictOf (strKind S.prog S.w) a es)(h:P (.builtin "dict.get",[.ref a]) s):wpAny S.M A (getMethod (.ref a) "get" pl) P E s:=
 getMethod_builtin e.mapOf.typeIs F.plainAttrs_dict F.slot_dict_get F.type_dict_get e.mapOf.noDict h
def tU{es:List (Str×Value)}(e:s.heap.DictOf (strKind S.prog S.w) a es)(h:P (.builtin "dict.values",[.ref a]) s):wpAny S.M A (getMethod (.ref a) "values" pl) P E s:=
 getMethod_builtin e.mapOf.typeIs F.plainAttrs_dict F.slot_dict_values F.type_dict_values e.mapOf.noDict h
@[elab_as_elim] theorem ki{c:PV}{f:Str→Option PV}(r:abb g h c u)(hb:c.abx.bind f=some d)(k:∀x t,f x=some d→G (.str x t)):G u:=cR hb λx hx hf=>by
 obtain rfl:=PV.abg hx;refine a9 r λt Qh=>?_;obtain rfl:=Qh;exact k x t hf
@[elab_as_elim] theorem Gv{c:PV}{f:Int→Option PV}(r:abb g h c u)(hb:c.int?.bind f=some d)(k:∀x t,f x=some d→G (.int x t)):G u:=cR hb λx hx hf=>by
 obtain rfl:=PV.abr hx;refine a9 r λt SZ=>?_;obtain rfl:=SZ;exact k x t hf
@[elab_as_elim] theorem wC{c:PV}{f:Array UInt8→Option PV}(r:abb g h c u)(hb:c.abL.bind f=some d)(k:∀x t,f x=some d→G (.bytes x t)):G u:=cR hb λx hx hf=>by
 obtain rfl:=PV.abN hx;refine a9 r λt Pm=>?_;obtain rfl:=Pm;exact k x t hf
@[elab_as_elim] theorem GS{c:PV}{m:Str×List Int}(hc:c.ab3=some m)(r:abb g h c u)(k:∀a b t p po le li n,h.get? a=some (qx m.1 t p po le li b)→h.get? b=some (dX (m.2.map rawInt) n)→G (.ref a)):G u:=by
 obtain rfl:=PV.abX hc;refine bh r λa b t p UG=>bl UG λpo le li n QF UK=>?_;obtain rfl:=QF;exact bD UK λ_ _ e e2=>k a b t p po le li n e e2
@[elab_as_elim] theorem GR{c:PV}{f:Str×List Int→Option PV}(r:abb g h c u)(hb:c.ab3.bind f=some d)(k:∀m a b t p po le li n,f m=some d→h.get? a=some (qx m.1 t p po le li b)→h.get? b=some (dX (m.2.map rawInt) n)→G (.ref a)):G u:=cR hb λx hx hf=>GS hx r λa b t p po le li n=>k x a b t p po le li n hf
@[elab_as_elim] theorem fb{f:PV→Option PV}{G:List Value→Prop}(hb:(iq as).bind f=some d)(rs:aD g h as vs)(k:∀c u,f c=some d→abb g h c u→G [u]):G vs:=cR hb λc hc hf=>by
 obtain rfl:=xg hc;refine aP rs λu _ SU S7=>?_;obtain rfl:=SU;refine aU S7 λq QG=>?_;obtain rfl:=QG;exact k c u hf q
@[elab_as_elim] theorem tV{f:Unit→Option PV}{G:List Value→Prop}(hb:(sv as).bind f=some d)(rs:aD g h as vs)(k:f ()=some d→G []):G vs:=cR hb λc hc hf=>by
 obtain rfl:=uO hc;cases rs;exact k hf
def f7{c:Bool}{e:PV}{G:Prop}{P:PV→Prop}(hb:(if c=true then some e else none)=some d)(hQ:P d)(k:c=true→P e→G):G:=by
 exact aU (bQ hb) λh e=>k h (NW e▸hQ)
@[elab_as_elim] theorem qo{l:List PV}(R:bG S g H h)(hi:listItems H d=some l)(r:abb g h d u)(k:∀a vs n,h.get? a=some (cE vs n)→aD g h l vs→G (.ref a)):G u:=by
 refine a5 (jM R hi r) λa vs n Ry S8=>?_;obtain rfl:=Ry;exact aU S8 λe q=>k a vs n e q
@[elab_as_elim] theorem Cn{l:List (Str×PV)}(R:bG S g H h)(hi:bf H d=some l)(r:abb g h d u)(k:∀a es,(a==sysModules)=false→h.DictOf (strKind S.prog S.w) a es→cV g h l es→G (.ref a)):G u:=by
 refine aP (wL R hi r) λa es SW Yb=>?_;obtain rfl:=SW;exact bV Yb λz e q=>k a es z e q
@[elab_as_elim] theorem r9{c:PV}(hb:c.abx.isSome=true)(r:abb g h c u)(k:∀x t,G (.str x t)):G u:=by
 refine a9 (Option.isSome_iff_exists.mp hb) λx hx=>?_;obtain rfl:=PV.abg hx;refine a9 r λt QH=>?_;obtain rfl:=QH;exact k x t
@[elab_as_elim] theorem DN{c:PV}(hb:c.abL.isSome=true)(r:abb g h c u)(k:∀x t,G (.bytes x t)):G u:=by
 refine a9 (Option.isSome_iff_exists.mp hb) λx hx=>?_;obtain rfl:=PV.abN hx;refine a9 r λt Rz=>?_;obtain rfl:=Rz;exact k x t
@[elab_as_elim] theorem Gn{c:PV}(hb:c.ab3.isSome=true)(r:abb g h c u)(k:∀a vs,h.get? a=some {cls:=.type "re.Match",data:=.fields vs}→G (.ref a)):G u:=by
 refine a9 (Option.isSome_iff_exists.mp hb) λx hx=>?_;obtain rfl:=PV.abX hx;refine bh r λa _ _ _ X4=>bl X4 λ_ _ _ _ RB Yd=>?_;obtain rfl:=RB;exact bD Yd λ_ _ q _=>k a _ q
@[elab_as_elim] theorem AD{c:PV}(hb:(bf H c).isSome=true)(R:bG S g H h)(r:abb g h c u)(k:∀a es,h.DictOf (strKind S.prog S.w) a es→G (.ref a)):G u:=by
 exact a9 (Option.isSome_iff_exists.mp hb) λl hl=>Cn R hl r λa es _ e _=>k a es e
def Ff{m:zL}{o:PV}{v:Value}(hb:BC H m o=true)(R:bG S g H s.heap)(r:abb g s.heap o v)(h:P (.builtin m.id,[v]) s):wpAny S.M A (getMethod v m.name pl) P E s:=by
 revert h;cases m
 ·exact r9 hb r λx t h=>GM.join h
 ·exact r9 hb r λx t h=>GM.lstrip h
 ·exact r9 hb r λx t h=>GM.rstrip h
 ·exact r9 hb r λx t h=>GM.startswith h
 ·exact r9 hb r λx t h=>vh h
 ·exact DN hb r λx t h=>uA h
 ·exact AD hb R r λa es e h=>r5 e h
 ·exact Gn hb r λa vs e h=>yf e h
 ·exact Gn hb r λa vs e h=>AB e h
 ·exact AD hb R r λa es e h=>tU e h
def r4{l:List (Str×PV)}{o:PV}{v:Value}(hl:bf H o=some l)(hb:o.abA.map PV.vw=some d)(T:g.abh s.heap)(R:bG S g H s.heap)(r:abb g s.heap o v)(hQ:∀v s',Kp0 S g s s'→abb g s'.heap d v→Q v s'):wpAny S.M A (call (.builtin "dict.values") [v]) Q E s:=by
 refine ay (N8.mp hb) λi hi SX=>?_;obtain rfl:=SX;obtain rfl:=PV.abk hi;refine ay r λp RC hp=>?_;obtain rfl:=RC;refine aP (dk hl) λi' ep RQ hH=>?_;cases RQ;have q:=R.at_ _ _ p hH hp;refine ay q.2.2.2 λes e _=>?_;have e:=e.dictOf;exact wpAny_call (codeAny_call_builtin F.slot_dict_values.plain F.entry_dict_values (F.slot_dict_values.check _ _ _ _ _ _ _ _ e.mapOf.typeIs (F.args_dict_values_1 _) (meets_dict_values (strKind S.prog S.w) p.1 q.2.2.1 A (wants Q E) s ⟨⟨_,e⟩,hQ _ _ Kp0.abu (bL _ p rfl T.new (NZ _ rfl) hp)⟩)))
def BR{m:zL}{o:PV}{v:Value}(hb:pK H m o as=some d)(T:g.abh s.heap)(R:bG S g H s.heap)(r:abb g s.heap o v)(rs:aD g s.heap as vs)(hQ:∀v s',Kp0 S g s s'→abb g s'.heap d v→Q v s'):wpAny S.M A (call (.builtin m.id) (v::vs)) Q E s:=by
 cases m
 ·refine ki r hb λx t hb=>fb hb rs λc u hb q=>cR hb λl hl hb=>cR hb λts TP hb=>f7 (P:=λd=>∀v s',Kp0 S g s s'→abb g s'.heap d v→Q v s') hb hQ λRl hQ=>qo R hl q λD vs n e q=>ay (rm TP q) λxs RD hx=>?_;obtain rfl:=RD;exact SC.join (D:=D) (l:=xs) (bS _ e rfl n rfl) hx Rl λt' k=>hQ _ _ Kp0.toks ⟨_,rfl⟩
 ·exact ki r hb λx t hb=>tV hb rs λhb=>f7 (P:=λd=>∀v s',Kp0 S g s s'→abb g s'.heap d v→Q v s') hb hQ λhf hQ=>SC.lstrip (λt' k=>hQ _ _ Kp0.toks ⟨_,rfl⟩) (aO hf)
 ·exact ki r hb λx t hb=>tV hb rs λhb=>f7 (P:=λd=>∀v s',Kp0 S g s s'→abb g s'.heap d v→Q v s') hb hQ λhf hQ=>SC.rstrip (λt' k=>hQ _ _ Kp0.toks ⟨_,rfl⟩) (aO hf)
 ·exact ki r hb λx t hb=>fb hb rs λc u hb q=>ki q hb λy t' hb=>SC.startswith (hQ _ _ Kp0.refl (NW hb▸rfl))
 ·exact ki r hb λx t hb=>fb hb rs λc u hb q=>ki q hb λy t' hb=>f7 (P:=λd=>∀v s',Kp0 S g s s'→abb g s'.heap d v→Q v s') hb hQ λhf hQ=>by
   obtain rfl:=NV (ai hf);exact rB (ai (ae hf)) (ae (ae hf)) λt' k=>hQ _ _ Kp0.toks ⟨_,rfl⟩
 ·exact wC r hb λx t hb=>fb hb rs λc u hb q=>ki q hb λy t' hb=>f7 (P:=λd=>∀v s',Kp0 S g s s'→abb g s'.heap d v→Q v s') hb hQ λhf hQ=>by
   obtain rfl:=NV (ai hf);exact sj (ai (ae hf)) (ae (ae hf)) λt' k=>hQ _ _ Kp0.toks ⟨_,rfl⟩
 ·refine cR hb λl hl hb=>Cn R hl r λa es z e qd=>fb hb rs λc u hb q=>ki q hb λy t' hb=>?_;have hQ:∀v s',Kp0 S g s s'→abb g s'.heap ((aM y l).getD .none) v→Q v s':=NW hb▸hQ;refine wpAny_call (codeAny_call_builtin F.slot_dict_get.plain F.entry_dict_get (F.slot_dict_get.check _ _ _ _ _ _ _ _ e.mapOf.typeIs (F.args_dict_get_2 _ _) (meets_dict_get (strKind S.prog S.w) a (strKind_is S.prog S.w y t') z A (wants Q E) s (ak _ e.mapOf ?_))));rw[gq];rcases qd.look (k:=y) with ⟨v,d',e1,e2,r⟩ | ⟨e1,e2⟩
  ·rw[e1];exact hQ _ _ Kp0.toks (by rw[e2];exact r)
  ·rw[e1];exact hQ _ _ Kp0.toks (by rw[e2];rfl)
 ·exact GR r hb λm a b t p po le li n hb e e2=>fb hb rs λc u hb q=>Gv q hb λk t' hb=>f7 (P:=λd=>∀v s',Kp0 S g s s'→abb g s'.heap d v→Q v s') hb hQ λhf hQ=>
   tO e e2 (NV (ai hf)) (NV (ai (ae hf))) (ae (ae hf)) λv k' r=>hQ v _ Kp0.toks r
 ·exact GR r hb λm a b t p po le li n hb e e2=>fb hb rs λc u hb q=>Gv q hb λk t' hb=>f7 (P:=λd=>∀v s',Kp0 S g s s'→abb g s'.heap d v→Q v s') hb hQ λhf hQ=>
   xB T e e2 (NV (ai hf)) (NV (ae hf)) hQ
 ·exact cR hb λl hl hb=>tV hb rs λhb=>r4 hl hb T R r hQ
end
end
section
set_option genCtorIdx true in
inductive Bi where
 |len | range | bytes | list | tuple | bool | isinstance | type | sorted
noncomputable def Bi.val:Bi→Value
 |.len=>.builtin "len" |.isinstance=>.builtin "isinstance" |.sorted=>.builtin "sorted"
 |.range=>.type "range" |.bytes=>.type "bytes" |.list=>.type "list" |.tuple=>.type "tuple" |.bool=>.type "bool" |.type=>.type "type"
noncomputable def Bi.name:Bi→Str
 |.len=>"len" |.isinstance=>"isinstance" |.sorted=>"sorted"
 |.range=>"range" |.bytes=>"bytes" |.list=>"list" |.tuple=>"tuple" |.bool=>"bool" |.type=>"type"
def Bi.kind(b:Bi):(∃id,b.val=.builtin id)∨∃T,b.val=.type T:=by
 cases b<;>first | exact .inl ⟨_,rfl⟩ | exact .inr ⟨_,rfl⟩
noncomputable def bytesOf:List PV→Option (List Int)
 |[]=>some []
 |d::r=>d.int?.bind λn=>if(decide (0≤n)&&decide (n<256))=true then(bytesOf r).map λl=>n::l else none
noncomputable def GT:PV→Option String
 |.bool _=>some "bool" |.int _=>some "int" |.str _=>some "str" |.bytes _=>some "bytes" |.lst _=>some "list" |.tup _=>some "tuple" |_=>none
noncomputable def PV.acK:PV→Option (List PV)
 |.tup x=>some x
 |_=>Option.none
def PV.ace{x:List PV}(h:d.acK=some x):d=.tup x:=by cases d<;>first | exact N2 _ (NW h) | exact aT h
noncomputable def AO.acW:AO→Option Nat
 |.dict l _=>some l.length
 |.lst l=>some l.length
 |_=>none
def Bx(H:AH)(d:PV):Option Nat:=match d with
 |.str x=>some x.length
 |.obj i=>H[i]?.bind AO.acW
 |d=>(items H d).map List.length
noncomputable def Bq:PV→Option Bool
 |.lst _=>some false
 |.str _=>some true
 |_=>none
def Cj(a b:PV):Option Bool:=match b with
 |.typ n=>if decide (n="str")=true then Bq a else none
 |_=>none
def CX(H:AH)(b:Bi)(as:List PV):Option PV:=match b with
 |.len=>(iq as).bind λd=>(Bx H d).bind λn=>if aE n=true then some (.int n) else none
 |.range=>(iq as).bind λd=>d.int?.map .rng
 |.bytes=>(iq as).bind λd=>(listItems H d).bind λl=>(bytesOf l).bind λns=>if aE ns.length=true then some (.bytes (byteArr ns)) else none
 |.list=>(iq as).bind λd=>d.abL.bind λb=>if aE b.size=true then some (.lst (b.toList.map λc=>.int c.toNat)) else none
 |.tuple=>(iq as).bind λd=>(listItems H d).bind λl=>if aE l.length=true then some (.tup l) else none
 |.bool=>(iq as).bind λd=>(listItems H d).bind λl=>if aE l.length=true then some (.bool (!l.isEmpty)) else none
 |.isinstance=>(match as with
  |[a,b]=>(Cj a b).map .bool
  |_=>none)
 |.type=>(iq as).bind λd=>(GT d).map .typ
 |.sorted=>(iq as).bind λd=>d.acK.bind λl=>(dP l).bind λts=>if decide (ts.length<64)=true then some (.lst ((dh ts).map .str)) else none
section
variable{A:Around}
def yv:∀{l:List PV}{ns:List Int}{vs:List Value},bytesOf l=some ns→aD g h l vs→IntsAre vs ns∧(∀n∈ns,0≤n∧n<256)∧ns.length=l.length:=by
 intro l;induction l with
 |nil=>
  intro _ _ e r;cases e;cases r;exact⟨.nil,by simp,rfl⟩
 |cons d l ihr=>
  intro ns _ e r;refine ay (Oh.mp e) λn hn e=>aU (bQ e) λhb e=>ay (N8.mp e) λq hq Pt=>?_;obtain rfl:=Pt;obtain rfl:=PV.abr hn;refine aP r λ_ r Pq UM=>?_;obtain rfl:=Pq;refine aU UM λUR r'=>?_;obtain⟨t,rfl⟩:=UR;refine bV (ihr hq r') λh1 h2 h3=>⟨.cons n t h1,λm hm=>?_,by rw[NR,NR,h3]⟩;rcases NU.mp hm with rfl | hm
  ·exact⟨NV (ai hb),NV (ae hb)⟩
  ·exact h2 m hm
def o6{l:List PV}(e:s.heap.get? a=some (cE vs n)∨s.heap.get? a=some (dX vs n))(q:aD g s.heap l vs)(hf:aE l.length=true)(hQ:∀t k,Q (.int l.length t) {s with toks:=k}):wpAny S.M A (call (.builtin "len") [.ref a]) Q E s:=by
 have hs:vs.toArray.size=l.length:=by rw[N4,q.length]
 rcases e with e | e
 ·refine call_len_list (items:=vs.toArray) (bS _ e rfl n rfl) (by rw[hs];exact jz hf) ?_;rw[hs];exact hQ _ _
 ·refine len_tuple (items:=vs.toArray) (bS _ e rfl n rfl) (by rw[hs];exact jz hf) ?_;rw[hs];exact hQ _ _
set_option tactic.hygienic true in
def yG{v:Value}(R:bG S g H s.heap)(hb:Bx H d=some n)(hf:aE n=true)(r:abb g s.heap d v)(hQ:∀t k,Q (.int n t) {s with toks:=k}):wpAny S.M A (call (.builtin "len") [v]) Q E s:=by
 have XF:(items H d).map List.length=some n→wpAny S.M A (call (.builtin "len") [v]) Q E s:=λhb=>by
  refine ay (N8.mp hb) λl hl PI=>?_;obtain rfl:=PI;refine a5 (jV R hl r) λa vs n Qd TC=>?_;obtain rfl:=Qd;exact aU TC λe q=>o6 e q hf hQ
 cases d<;>try exact XF hb
 ·cases hb;refine a9 r λt Qh=>?_;obtain rfl:=Qh;have:=dq hf;exact P.len_str (Int.not_le.mpr (Int.lt_of_le_of_lt (Int.ofNat_le.mpr this) kD)) (hQ _ _)
 ·refine ay r λp Pm hp=>?_;obtain rfl:=Pm;refine cR hb λo hl hb=>?_;cases o<;>try exact aT hb
  ·rename_i l;cases hb;exact aP ((R.at_ _ _ p hl hp).2.2) λvs n e q=>o6 (.inl e) q hf hQ
  ·rename_i l ep;cases hb;have q:=R.at_ _ _ p hl hp;refine ay q.2.2.2 λes e q'=>?_;have Q3:es.length=l.length:=q'.length;exact call_len_dict q.2.2.1 e.dictOf (by rw[Q3];exact jz hf) (by rw[Q3];exact hQ _ _)
def FU{T:String}{v:Value}(ht:GT d=some T)(r:abb g s.heap d v):s.TypeIs v T∧T≠"builtin_function_or_method":=by
 cases d<;>first | exact aT ht | cases NW ht
 ·cases r;exact⟨rfl,kD⟩
 ·refine a9 r λt PY=>?_;obtain rfl:=PY;exact⟨rfl,kD⟩
 ·refine a9 r λt Qm=>?_;obtain rfl:=Qm;exact⟨typeIs_str _ _ _,kD⟩
 ·refine a9 r λt QS=>?_;obtain rfl:=QS;exact⟨typeIs_bytes _ _ _,kD⟩
 ·refine a5 r λa _ _ Rw S6=>?_;obtain rfl:=Rw;refine bV S6 λ_ e _=>⟨ak _ e rfl,kD⟩
 ·refine a5 r λa _ _ QG RE=>?_;obtain rfl:=QG;refine bV RE λ_ e _=>⟨ak _ e rfl,kD⟩
@[elab_as_elim] theorem Ln{c:PV}{n:Int}(hc:c.int?=some n)(r:abb g h c u)(k:∀t,G (.int n t)):G u:=by
 obtain rfl:=PV.abr hc;refine a9 r λt SV=>?_;obtain rfl:=SV;exact k t
@[elab_as_elim] theorem JP{c:PV}{l:List PV}(hc:c.acK=some l)(r:abb g h c u)(k:∀a vs n,h.get? a=some (dX vs n)→aD g h l vs→G (.ref a)):G u:=by
 obtain rfl:=PV.ace hc;refine a5 r λa vs n QT X9=>?_;obtain rfl:=QT;exact bV X9 λ_ e q=>k a vs n e q
def zp{α:Type}{o:Option α}{f:α→PV}{G:Prop}{P:PV→Prop}(hb:o.map f=some d)(hQ:P d)(k:∀a,o=some a→P (f a)→G):G:=by
 exact ay (N8.mp hb) λa h e=>k a h (e▸hQ)
@[elab_as_elim] theorem Lg{a b:PV}{G:List Value→Prop}(rs:aD g h [a,b] vs)(k:∀u v,abb g h a u→abb g h b v→G [u,v]):G vs:=by
 refine aP rs λu _ QH S9=>?_;obtain rfl:=QH;refine aU S9 λqa UJ=>aP UJ λv _ QU Yc=>?_;obtain rfl:=QU;refine aU Yc λqb RB=>?_;obtain rfl:=RB;exact k u v qa qb
def J0{a b:PV}{v:Value}{r:Bool}{G:Bool→Value→Value→Prop}(hr:Cj a b=some r)(qa:abb g h a u)(qb:abb g h b v)(k1:∀x t,G true (.str x t) (.type "str"))(k2:∀a vs n,h.get? a=some (cE vs n)→G false (.ref a) (.type "str")):G r u v:=by
 cases b<;>try exact aT hr
 refine aU (bQ hr) λhn hr=>?_;cases NV hn;cases qb;cases a<;>first
  |exact aT hr
  |(cases hr;obtain⟨t,rfl⟩:=qa;exact k1 _ t)
  |(cases hr;refine a5 qa λa _ _ UA Yh=>?_;obtain rfl:=UA;refine bV Yh λ_ e _=>k2 a _ _ e)
def td{b:Bi}{vs:List Value}(hh:A.handled=none)(T:g.abh s.heap)(R:bG S g H s.heap)(hb:CX H b as=some d)(rs:aD g s.heap as vs)(hQ:∀v s',Kp0 S g s s'→abb g s'.heap d v→Q v s'):wpAny S.M A (call b.val vs) Q E s:=by
 cases b
 ·exact fb hb rs λc u hb q=>cR hb λn hn hb=>f7 (P:=λd=>∀v s',Kp0 S g s s'→abb g s'.heap d v→Q v s') hb hQ λhf hQ=>yG R hn hf q λt k=>hQ _ _ Kp0.toks ⟨_,rfl⟩
 ·exact fb hb rs λc u hb q=>zp (P:=λd=>∀v s',Kp0 S g s s'→abb g s'.heap d v→Q v s') hb hQ λn hn hQ=>Ln hn q λt=>call_range_1 (hQ _ _ Kp0.push (aG _ _ (aN _ _ rfl T.new (NZ _ rfl))))
 ·exact fb hb rs λc u hb q=>cR hb λl hl hb=>cR hb λns Q8 hb=>f7 (P:=λd=>∀v s',Kp0 S g s s'→abb g s'.heap d v→Q v s') hb hQ λhf hQ=>qo R hl q λa vs n e q=>bV (yv Q8 q) λh1 h2 h3=>call_bytes_ints (vs:=vs) (bS _ e rfl n rfl) h1 h2 (by rw[q.length,h3.symm];exact aO hf) hh λh' t k hk=>hQ _ _ (Kp0.of hk) ⟨_,rfl⟩
 ·exact fb hb rs λc u hb q=>wC q hb λb t hb=>f7 (P:=λd=>∀v s',Kp0 S g s s'→abb g s'.heap d v→Q v s') hb hQ λhf hQ=>ly hh T hf hQ
 ·exact fb hb rs λc u hb q=>cR hb λl hl hb=>f7 (P:=λd=>∀v s',Kp0 S g s s'→abb g s'.heap d v→Q v s') hb hQ λhf hQ=>qo R hl q λa vs n e q=>
   call_tuple_list (items:=vs.toArray) (bS _ e rfl n rfl) (λh' hk=>hQ _ _ (Kp0.of (tk:=s.toks) λb o e=>NS _ (hk b o e)) (abb.newTuple (λa z=>(T a z).imp λo e=>hk a o e) (q.over (.of hk)))) (by rw[N4,q.length];exact aO hf)
 ·exact fb hb rs λc u hb q=>cR hb λl hl hb=>f7 (P:=λd=>∀v s',Kp0 S g s s'→abb g s'.heap d v→Q v s') hb hQ λhf hQ=>qo R hl q λa vs n e q=>
   mF e (by rw[q.length];exact hf) λk=>hQ _ _ Kp0.toks (N2 (λb=>Value.bool (!b)) (zf q.length.symm))
 ·rcases as with _ | ⟨a,_ | ⟨b,_ | ⟨c,as⟩⟩⟩<;>try exact aT hb
  exact zp (P:=λd=>∀v s',Kp0 S g s s'→abb g s'.heap d v→Q v s') hb hQ λr hr hQ=>Lg rs λu v qa qb=>J0 (G:=λr u v=>(∀v s',Kp0 S g s s'→abb g s'.heap (.bool r) v→Q v s')→wpAny S.M A (call Bi.isinstance.val [u,v]) Q E s) hr qa qb (λx t hQ=>IsiPair.str_str (hQ _ _ Kp0.refl rfl)) (λa vs n e hQ=>lx e λk=>hQ _ _ Kp0.toks rfl) hQ
 ·exact fb hb rs λc u hb q=>zp (P:=λd=>∀v s',Kp0 S g s s'→abb g s'.heap d v→Q v s') hb hQ λn hn hQ=>aU (FU hn q) λh1 h2=>call_type_of h1 (beq_eq_false_iff_ne.mpr λe=>h2 (by cases e;rfl)) (hQ _ _ Kp0.refl rfl)
 ·refine fb hb rs λc u hb q=>cR hb λl hc hb=>cR hb λts TP hb=>f7 (P:=λd=>∀v s',Kp0 S g s s'→abb g s'.heap d v→Q v s') hb hQ λhf hQ=>JP hc q λa vs n e q=>ay (rm TP q) λxs UB hx=>?_;obtain rfl:=UB;have hl:xs.length=ts.length:=by rw[hx.symm,NO]
  exact sV T e (hx▸Ba xs) (by rw[show(strValues xs).length=xs.length from NO ..,hl];exact NV hf) hQ
end
end
section
noncomputable def fQ(x:Str):List PV:=x.cps.toList.map λc=>.str ⟨#[c]⟩
noncomputable def dT(b:Array UInt8):List PV:=b.toList.map λc=>.int c.toNat
noncomputable def eP(n:Int):List PV:=(List.range n.toNat).map λ(i:Nat)=>.int i
def iF(d:PV):Option (List PV):=match d with
 |.str x=>some (fQ x)
 |.bytes b=>some (dT b)
 |.tup l=>some l
 |.lst l=>some l
 |.rng n=>if decide (0≤n)=true then some (eP n) else none
 |_=>none
noncomputable def wy(T:String):Bool:=["enumerate","zip","dict_itemiterator","dict_reverseitemiterator","odict_iterator","itertools.zip_longest","itertools.pairwise"].contains T
structure Gy(S:Cx)(g:Gh)(Zn:Addr→Prop)(I:Addr)(ds:List PV)(h O4:Heap)(fp:List Addr)(P:Nat→Value→Prop)(St:Nat→Heap→Prop):Prop where
 walks:∀A:Around,A.handled=none→Walks S.prog S.w A I fp [I] ds.length P St
 st0:St 0 O4
 fp:∀b∈fp,b=I∨¬Zn b∧∃o,h.get? b=some o
 fields:∀i h',St i h'→∃o T vs,h'.get? I=some o∧o.cls=.type T∧wy T=false∧o.data=.fields vs
 item:∀j v,j<ds.length→P j v→∃d,ds[j]?=some d∧abb g h d v
section
variable{A:Around}
def Made(S:Cx)(g:Gh)(Zn:Addr→Prop)(s:Shared)(ds:List PV)(Q:Value→Shared→Prop):Prop:=
 ∀o fp P St,Gy S g Zn s.heap.objs.size ds s.heap (s.heap.push o) fp P St→Q (.ref s.heap.objs.size) {s with heap:=s.heap.push o}
def yC(z:¬g.Z a)(e:s.heap.get? a=some (cE vs n))(q:aD g s.heap ds vs)(hQ:Made S g g.Z s ds Q):wpAny S.M A (pyIter (.ref a)) Q E s:=by
 have hl:s.heap.IsList a vs.toArray:=bS _ e rfl n rfl;have PH:a≠s.heap.objs.size:=λq=>c8 ⟨_,e⟩ (q▸be s.heap);refine wpAny_pyIter_list hl (hQ _ [s.heap.objs.size,a] (λi v=>vs.toArray[i]?=some v) (λi h=>h.IsListIter s.heap.objs.size a i∧h.IsList a vs.toArray) ⟨λA hA=>?_,⟨aV _ (NZ _ rfl) rfl rfl,hl.push _⟩,λb hb=>?_,λi h' st=>?_,λj v _ hv=>q.at (by simpa using hv)⟩)
 ·have e2:vs.toArray.size=ds.length:=by rw[N4,q.length]
  exact e2▸Walks.list (prog:=S.prog) (w:=S.w) hA s.heap.objs.size a PH vs.toArray
 ·rcases NU.mp hb with hb | hb
  ·exact .inl hb
  ·have hb:b=a:=NX.mp hb;exact .inr ⟨by rw[hb];exact z,_,by rw[hb];exact e⟩
 ·exact c9 st.1 λo ho hc hd=>aH o _ _ ho hc kD hd
def iter_tuple(z:¬g.Z a)(e:s.heap.get? a=some (dX vs n))(q:aD g s.heap ds vs)(hQ:Made S g g.Z s ds Q):wpAny S.M A (pyIter (.ref a)) Q E s:=by
 have hl:s.heap.IsTuple a vs.toArray:=bS _ e rfl n rfl;have PH:a≠s.heap.objs.size:=λq=>c8 ⟨_,e⟩ (q▸be s.heap);refine wpAny_pyIter_tuple hl (hQ _ [s.heap.objs.size,a] (λi v=>vs.toArray[i]?=some v) (λi h=>h.IsTupleIter s.heap.objs.size a i∧h.IsTuple a vs.toArray) ⟨λA hA=>?_,⟨aV _ (NZ _ rfl) rfl rfl,bS _ (NS _ e) rfl n rfl⟩,λb hb=>?_,λi h' st=>?_,λj v _ hv=>q.at (by simpa using hv)⟩)
 ·have e2:vs.toArray.size=ds.length:=by rw[N4,q.length]
  exact e2▸Walks.tuple (prog:=S.prog) (w:=S.w) hA s.heap.objs.size a PH vs.toArray
 ·rcases NU.mp hb with hb | hb
  ·exact .inl hb
  ·have hb:b=a:=NX.mp hb;exact .inr ⟨by rw[hb];exact z,_,by rw[hb];exact e⟩
 ·exact c9 st.1 λo ho hc hd=>aH o _ _ ho hc kD hd
def zJ{t:Tok}(hQ:Made S g g.Z s (fQ x) Q):wpAny S.M A (pyIter (.str x t)) Q E s:=by
 have fin:∀{j:Nat}{v:Value}{h:Heap},SignAt x j v→∃d,(fQ x)[j]?=some d∧abb g h d v:=by
  rintro j v h ⟨c,u,hc,rfl⟩;exact⟨.str ⟨#[c]⟩,by rw[fQ,List.getElem?_map,Array.getElem?_toList,hc];rfl,_,rfl⟩
 have OV:(fQ x).length=x.cps.size:=by rw[fQ,NO,N7]
 cases ha:x.cps.all (· < 128)
 ·refine wpAny_pyIter_wide ha (hQ _ [s.heap.objs.size] (SignAt x) (λi h=>h.IsStrIter s.heap.objs.size "str_iterator" x t i) ⟨λA hA=>?_,aV _ (NZ _ rfl) rfl rfl,λb hb=>.inl (NX.mp hb),λi h' st=>?_,λj v _=>fin⟩)
  ·rw[OV];exact Walks.strWide hA _ x t
  ·refine c9 st λo ho hc hd=>aH o _ _ ho hc kD hd
 ·refine wpAny_pyIter_ascii ha (hQ _ [s.heap.objs.size] (SignAt x) (λi h=>h.IsStrIter s.heap.objs.size "str_ascii_iterator" x t i) ⟨λA hA=>?_,aV _ (NZ _ rfl) rfl rfl,λb hb=>.inl (NX.mp hb),λi h' st=>?_,λj v _=>fin⟩)
  ·rw[OV];exact Walks.strAscii hA _ x t
  ·refine c9 st λo ho hc hd=>aH o _ _ ho hc kD hd
def uw{b:Array UInt8}{t:Tok}(hQ:Made S g g.Z s (dT b) Q):wpAny S.M A (pyIter (.bytes b t)) Q E s:=by
 refine KBw.pyIter_bytes (hQ _ [s.heap.objs.size] (λi v=>∃c u,b[i]?=some c∧v=.int (c.toNat:Int) u) (λi h=>KBw.IsBytesIter h s.heap.objs.size b t i) ⟨λA hA=>?_,aV _ (NZ _ rfl) rfl rfl,λb hb=>.inl (NX.mp hb),λi h' st=>?_,?_⟩)
 ·rw[dT,NO,N7];exact KBw.walks hA _ b t
 ·refine c9 st λo ho hc hd=>aH o _ _ ho hc kD hd
 ·rintro j v _ ⟨c,u,hc,rfl⟩;exact⟨.int c.toNat,by rw[dT,List.getElem?_map,Array.getElem?_toList,hc];rfl,_,rfl⟩
theorem t7{n:Int}{t u v:Tok}(h0:0≤n)(hn:n≤1000000)(e:s.heap.get? a=some (JW n t u v))(hQ:Made S g g.Z s (eP n) Q):wpAny S.M A (pyIter (.ref a)) Q E s:=by
 have hr:IsRange s.heap a 0 n 1 t u v:=e;have QQ:Builtin.Range.rangeSize 0 n 1=(n.toNat:Int):=by rw[rangeSize_one];split<;>lia
 refine wpAny_pyIter_range hr (small_one kD kD (Int.le_trans kD h0) (Int.lt_of_le_of_lt hn kD)) (hQ _ [s.heap.objs.size] (λi v=>∃t,v=.int (0+i*1) t)
  (λi h=>IsRangeIter h s.heap.objs.size (0+(i:Nat)*1) ((n.toNat:Int)-(i:Nat)) 1) ⟨λA hA=>?_,?_,λb hb=>.inl (NX.mp hb),λi h' st=>aH _ _ _ st rfl kD rfl,?_⟩)
 ·rw[eP,NO,OL];exact Walks.range hA _ 0 1 n.toNat
 ·show(s.heap.push _).get? _=_;rw[QQ];simpa [rawInt] using NZ s.heap (o:={cls:=.type "range_iterator",data:=.fields #[rawInt 0,rawInt (n.toNat:Int),rawInt 1]}) rfl
 ·rintro j v hj ⟨t,rfl⟩;rw[eP,NO,OL] at hj;refine ak (.int j) (by rw[eP,List.getElem?_map,List.getElem?_range hj];rfl) ?_;rw[show(0:Int)+(j:Int)*1=j from(Int.zero_add _).trans (Int.mul_one _)];exact⟨_,rfl⟩
def gz{v:Value}(hi:iF d=some ds)(hf:aE ds.length=true)(r:abb g s.heap d v)(hQ:Made S g g.Z s ds Q):wpAny S.M A (pyIter v) Q E s:=by
 cases d<;>try cases hi
 ·refine a9 r λt Pt=>?_;obtain rfl:=Pt;exact zJ hQ
 ·refine a9 r λt O8=>?_;obtain rfl:=O8;exact uw hQ
 ·refine a5 r λa vs n PA QW=>?_;obtain rfl:=PA;refine bV QW λz e q=>iter_tuple z e q hQ
 ·refine a5 r λa vs n P2 UO=>?_;obtain rfl:=P2;refine bV UO λz e q=>yC z e q hQ
 ·refine aU (bQ hi |>.imp id NW) λh0 Qd=>?_;obtain rfl:=Qd;refine bl r λa t u w SZ zr8=>?_;obtain rfl:=SZ;refine aU zr8 λz e=>?_;have h0:=NV h0;have:=dq hf;rw[eP,NO,OL] at this;exact t7 h0 (Int.toNat_le.mp this) e hQ
def Gy.weak{Zm:Addr→Prop}{P:Nat→Value→Prop}{St:Nat→Heap→Prop}(x:Gy S g Zn I ds h O4 fp P St)(k:∀b,Zm b→Zn b):Gy S g Zm I ds h O4 fp P St:=
 ⟨x.walks,x.st0,λb hb=>(x.fp b hb).imp id λq=>⟨λy=>q.1 (k b y),q.2⟩,x.fields,x.item⟩
def nM(H:AH)(d:PV):Option (List PV):=match d with
 |.vw i=>(bf H (.obj i)).map λl=>l.map (·.2)
 |d=>iF d
theorem cV.at:∀{l:List (Str×PV)}{es:List (Str×Value)}{j:Nat}{k:Str}{v:Value},cV g h l es→es[j]?=some (k,v)→∃d,(l.map (·.2))[j]?=some d∧abb g h d v:=by
 intro l;induction l with
 |nil=>intro es j k v r e;rw[show es=[] from r] at e;cases e
 |cons d l ih=>
  intro es j k v r e;refine r.elim λu r=>r.elim λr q=>?_;rw[q.1] at e;cases j with
  |zero=>cases e;exact ak d.2 rfl q.2.1
  |succ j=>exact ih (es:=r) (j:=j) q.2.2 e
def rR{v:Value}(tz:∀b,S.T b→g.Z b∧¬g.W b)(R:bG S g H s.heap)(hi:nM H d=some ds)(hf:aE ds.length=true)(r:abb g s.heap d v)(hQ:Made S g S.T s ds Q):wpAny S.M A (pyIter v) Q E s:=by
 by_cases hv:∃i,d=.vw i
 ·refine a9 hv λi Pm=>?_;obtain rfl:=Pm;refine ay (N8.mp hi) λl hl PY=>?_;obtain rfl:=PY;refine aP r λa p QS S5=>?_;obtain rfl:=QS;refine bV S5 λz e hp=>aP (dk hl) λi' ep RQ hH=>?_;cases RQ;have q:=R.at_ _ _ p hH hp;refine ay q.2.2.2 λes V4 qd=>?_;have Po:=V4.lt_size;have OV:es.length=(l.map (·.2)).length:=by rw[NO];exact qd.length
  refine wpAny_pyIter_values (knd:=strKind S.prog S.w) (aV _ e rfl rfl) V4 (hQ _ [s.heap.objs.size,p.1] (λi v=>∃k,es[i]?=some (k,v)) (λi h=>h.IsValIter s.heap.objs.size p.1 i es.length ep∧h.DictAt (strKind S.prog S.w) p.1 es ep) ⟨λA hA=>?_,⟨aV _ (NZ _ rfl) rfl rfl,V4.push _⟩,λb hb=>?_,λi h' st=>?_,λj v _ hv=>?_⟩)
  ·rw[OV.symm];exact Walks.dictValues hA _ p.1 (Nat.ne_of_lt Po) es ep
  ·rcases NU.mp hb with hb | hb
   ·exact .inl hb
   ·rw[NX.mp hb];exact .inr ⟨λt=>(tz _ t).2 q.1,V4.elim λo q=>q.elim λ_ q=>⟨o,q.1⟩⟩
  ·exact c9 st.1 λo ho hc hd=>aH o _ _ ho hc kD hd
  ·exact a9 hv λk hk=>qd.at hk
 ·have hi:iF d=some ds:=by
   cases d<;>first | exact hi | exact absurd ⟨_,rfl⟩ hv
  exact gz hi hf r λo fp P St PK=>hQ o fp P St (PK.weak λb t=>(tz b t).1)
end
end
abbrev kF:=List (Str×NameKind)
noncomputable def nm(T:List Str)(i:Nat):Str:=T.getD i ("":Str)
inductive Tg where
 |one (i:Nat) (p:Pos) | two (i j:Nat) (p q:Pos) (k:Nat) (r:Pos)
mutual
inductive ME where
 |c (c:Const) (k:Nat) (p:Pos) | v (i:Nat) (p:Pos) | gv (x:Str) (p:Pos) | neg (n:Nat) (q p:Pos)
 |att (o:ME) (n:Str) (p:Pos) | js (i j:Nat) (sep:Str) (p1 q1 p2 p3 q3 p:Pos) | abQ (i:Nat) (q p:Pos) | rx (x m:Str) (q ap:Pos) (l:hV) (p:Pos) | abz (x:Str) (q:Pos) (l:hV) (kw:Str) (e:ME) (kp p:Pos)
 |bin (op:tI) (a b:ME) (p:Pos) | cmp (op:Dz) (a b:ME) (p:Pos) | abU (o o':Dz) (a b c:ME) (p:Pos)
 |not (a:ME) (p:Pos) | and (a b:ME) (p:Pos) | or (a b:ME) (p:Pos) | ife (t a b:ME) (p:Pos)
 |idx (a b:ME) (p:Pos) | abG (a b:ME) (q p:Pos) | abp (a b:ME) (q p:Pos)
 |tup (l:hV) (k:Nat) (p:Pos) | lst (l:hV) (p:Pos)
 |call (x:Str) (q:Pos) (l:hV) (p:Pos) | bi (b:Bi) (q:Pos) (l:hV) (p:Pos) | mth (m:zL) (o:ME) (ap:Pos) (l:hV) (p:Pos)
 |abm (o:ME) (ap:Pos) (y z:Str) (p1 p2 p:Pos)
 |abR (x:Str) (q ap:Pos) (lam:Expr) (cd:Addr×Str) (e:ME) (p:Pos)
 |comp (Pa:ME) (t:Tg) (it:ME) (Pl:hV) (cap:List Nat) (sc:Scope) (p:Pos)
 |abt (Pa:ME) (t:Tg) (it:ME) (Pl:hV) (t2:Tg) (Qo:ME) (PC:hV) (cap:List Nat) (sc:Scope) (p:Pos)
inductive hV where
 |nil | cons (a:ME) (l:hV)
end
def db(T:List Str):Tg→Expr
 |.one i p=>.Name (nm T i) p
 |.two i j p q k r=>.Tuple [.Name (nm T i) p,.Name (nm T j) q] k r
noncomputable def gV(o:BoolOp)(x:Expr)(p:Pos):List Expr:=match x with
 |.BoolOp o' l q=>if(o'==o&&q==p&&decide (2≤l.length))=true then l else[x]
 |x=>[x]
mutual
noncomputable def aX(T:List Str):ME→Expr
 |.c c k p=>.Constant c k p
 |.v i p=>.Name (nm T i) p
 |.gv x p=>.Name x p
 |.neg n q p=>.UnaryOp .USub (.Constant (.int n) 0 q) p
 |.js i j sep p1 q1 p2 p3 q3 p=>.JoinedStr [.FormattedValue (.Name (nm T i) p1) 115 none q1,.Constant (.str sep) 0 p2,.FormattedValue (.Name (nm T j) p3) 115 none q3] p
 |.abQ i q p=>.Attribute (.Name (nm T i) q) ("string":Str) p
 |.rx x m q ap l p=>.Call (.Attribute (.Name x q) m ap) (b8 T l) [] p
 |.abz x q l kw e kp p=>.Call (.Name x q) (b8 T l) [⟨some kw,aX T e,kp⟩] p
 |.att o n p=>.Attribute (aX T o) n p
 |.bin op a b p=>.BinOp (aX T a) op.op (aX T b) p
 |.cmp op a b p=>.Compare (aX T a) [op.op] [aX T b] p
 |.abU o o' a b c p=>.Compare (aX T a) [o.op,o'.op] [aX T b,aX T c] p
 |.not a p=>.UnaryOp .Not (aX T a) p
 |.and a b p=>.BoolOp .And (aX T a::gV .And (aX T b) p) p
 |.or a b p=>.BoolOp .Or (aX T a::gV .Or (aX T b) p) p
 |.ife t a b p=>.IfExp (aX T t) (aX T a) (aX T b) p
 |.idx a b p=>.Subscript (aX T a) (aX T b) p
 |.abG a b q p=>.Subscript (aX T a) (.Slice none (some (aX T b)) none q) p
 |.abp a b q p=>.Subscript (aX T a) (.Slice (some (aX T b)) none none q) p
 |.tup l k p=>.Tuple (b8 T l) k p
 |.lst l p=>.List (b8 T l) p
 |.call x q l p=>.Call (.Name x q) (b8 T l) [] p
 |.bi b q l p=>.Call (.Name b.name q) (b8 T l) [] p
 |.mth m o ap l p=>.Call (.Attribute (aX T o) m.name ap) (b8 T l) [] p
 |.abm o ap y z p1 p2 p=>.Call (.Attribute (aX T o) ("replace":Str) ap) [.Constant (.str y) 0 p1,.Constant (.str z) 0 p2] [] p
 |.abR x q ap lam _ e p=>.Call (.Attribute (.Name x q) ("sub":Str) ap) [lam,aX T e] [] p
 |.comp Pa t it Pl cap sc p=>.ListComp (aX T Pa) [⟨db T t,aX T it,b8 T Pl,0⟩] sc p
 |.abt Pa t it Pl t2 Qo PC cap sc p=>.ListComp (aX T Pa) [⟨db T t,aX T it,b8 T Pl,0⟩,⟨db T t2,aX T Qo,b8 T PC,0⟩] sc p
noncomputable def b8(T:List Str):hV→List Expr
 |.nil=>[]
 |.cons a l=>aX T a::b8 T l
end
noncomputable def rZ:hV→Nat
 |.nil=>0
 |.cons _ l=>rZ l+1
abbrev Loc:=Nat→Option PV
noncomputable def upd(l:Loc)(i:Nat)(d:PV):Loc:=λj=>if j=i then some d else l j
noncomputable def kN(l:Loc)(cap:List Nat):Loc:=λj=>if cap.contains j then l j else none
noncomputable def Lb:PV→Option (PV×PV)
 |.tup [a,b]=>some (a,b)
 |.lst [a,b]=>some (a,b)
 |_=>none
set_option tactic.hygienic true in
def xA{x:PV×PV}(h:Lb d=some x):d=.tup [x.1,x.2]∨d=.lst [x.1,x.2]:=by
 cases d<;>try cases h
 ·rename_i l;rcases l with _ | ⟨a,_ | ⟨b,_ | ⟨c,l⟩⟩⟩<;>cases h
  exact .inl rfl
 ·rename_i l;rcases l with _ | ⟨a,_ | ⟨b,_ | ⟨c,l⟩⟩⟩<;>cases h
  exact .inr rfl
def gP:Tg→Loc→PV→Option Loc
 |.one i _,l,d=>some (upd l i d)
 |.two i j _ _ _ _,l,d=>(Lb d).map λx=>upd (upd l i x.1) j x.2
inductive Fl where
 |next | brk | cont | ret (d:PV)
structure cu where
 fa:Str→Bool
 xa:Str→Str→Bool
 sa:Str→Expr→Addr×Str→Prop
 f:Str→List PV→PV→Prop
 x:Str→Str→List PV→PV→Prop
 k:Str→Str→List PV→PV→PV→Prop
 s:Str→Expr→Addr×Str→PV→PV→Prop
 g:Str→PV→Prop
 xt:Stmt→List Str→List Nat→Loc→AH→(Fl→Loc→AH→Prop)→Prop
 ia:Addr→Str→Bool
 sl:Addr→Str→Option Nat
 ma:Addr→Str→Bool
 mt:Addr→Str→AH→List PV→(PV→AH→Prop)→Prop
 na:Str→Bool
 nt:Str→AH→List PV→(PV→AH→Prop)→Prop
 fr:Bool
def nV(C:cu)(H:AH)(d:PV)(n:Str):Option PV:=match d with
 |.obj i=>(match H[i]? with
  |some (.inst c fs ss)=>(match C.sl c n with
   |some k=>ss[k]?
   |none=>if C.ia c n=true then aM n fs else none)
  |_=>none)
 |_=>none
def br(r:Bool)(P Q:Prop):Prop:=match r with
 |true=>P
 |false=>Q
noncomputable def mh(f:PV→(List PV→Prop)→Prop):List PV→(List PV→Prop)→Prop
 |[],K=>K []
 |d::r,K=>f d λa=>mh f r λb=>K (a++b)
noncomputable def IX:Const→Option PV
 |.none=>some .none
 |.bool b=>some (.bool b)
 |.int i=>some (.int i)
 |.str x=>some (.str x)
 |.bytes b=>some (.bytes b.toArray)
 |_=>Option.none
mutual
noncomputable def pe(C:cu)(H:AH):ME→Loc→(PV→Prop)→Prop
 |.c c _ _,_,K=>el (IX c) K
 |.v i _,l,K=>el (l i) K
 |.gv x _,_,K=>∃d,C.g x d∧K d
 |.neg n _ _,_,K=>K (.int (-(n:Int)))
 |.js i j sep _ _ _ _ _ _,l,K=>el (l i) λa=>el a.abx λx=>el (l j) λb=>el b.abx λy=>cG (aE (x.length+sep.length+y.length)) (K (.str (x++sep++y)))
 |.abQ i _ _,l,K=>el (l i) λd=>el d.ab3 λm=>K (.str m.1)
 |.rx x m _ _ es _,l,K=>cG (C.xa x m) (pg C H es l λds=>∃d,C.x x m ds d∧K d)
 |.abz x _ es kw e _ _,l,K=>cG (C.fa x) (pg C H es l λds=>pe C H e l λu=>∃d,C.k x kw ds u d∧K d)
 |.att o n _,l,K=>pe C H o l λd=>el (nV C H d n) K
 |.bin op a b _,l,K=>pe C H a l λx=>pe C H b l λy=>fo op x y K
 |.cmp op a b _,l,K=>pe C H a l λx=>pe C H b l λy=>el (dS H op x y) λr=>K (.bool r)
 |.abU o o' a b c _,l,K=>pe C H a l λx=>pe C H b l λy=>el (dS H o x y) λr=>br r (pe C H c l λz=>el (dS H o' y z) λr=>K (.bool r)) (K (.bool false))
 |.not a _,l,K=>pe C H a l λx=>el (bB H x) λr=>K (.bool (!r))
 |.and a b _,l,K=>pe C H a l λx=>el (bB H x) λr=>br r (pe C H b l K) (K x)
 |.or a b _,l,K=>pe C H a l λx=>el (bB H x) λr=>br r (K x) (pe C H b l K)
 |.ife t a b _,l,K=>pe C H t l λx=>el (bB H x) λr=>br r (pe C H a l K) (pe C H b l K)
 |.idx a b _,l,K=>pe C H a l λx=>pe C H b l λy=>el (pI H x y) K
 |.abG a b _ _,l,K=>pe C H a l λx=>pe C H b l λy=>el y.int? λk=>el (lK H x k) K
 |.abp a b _ _,l,K=>pe C H a l λx=>pe C H b l λy=>el y.int? λk=>el (kJ H x k) K
 |.tup es _ _,l,K=>pg C H es l λds=>cG (aE ds.length) (K (.tup ds))
 |.lst es _,l,K=>pg C H es l λds=>cG (aE ds.length) (K (.lst ds))
 |.call x _ es _,l,K=>cG (C.fa x) (pg C H es l λds=>∃d,C.f x ds d∧K d)
 |.bi b _ es _,l,K=>pg C H es l λds=>el (CX H b ds) K
 |.mth m o _ es _,l,K=>pe C H o l λx=>cG (BC H m x) (pg C H es l λds=>el (pK H m x ds) K)
 |.abm o _ y z _ _ _,l,K=>pe C H o l λd=>el d.abx λx=>cG (aE x.length&&(decide (z.length≤14)&&!(y==z))) (K (.str (Txt.replace x y z)))
 |.abR x _ _ lam cd e _,l,K=>C.sa x lam cd∧pe C H e l λy=>∃d,C.s x lam cd y d∧K d
 |.comp Pa t it Pl cap _ _,l,K=>pe C H it l λx=>el (nM H x) λds=>cG (aE ds.length) (mh (λd K'=>el (gP t (kN l cap) d) λl'=>tA C H Pl l' λr=>br r (pe C H Pa l' λy=>K' [y]) (K' [])) ds λys=>cG (aE ys.length) (K (.lst ys)))
 |.abt Pa t it Pl t2 Qo PC cap _ _,l,K=>pe C H it l λx=>el (iF x) λds=>cG (decide (ds.length≤1000)) (mh (λd K'=>el (gP t (kN l cap) d) λl'=>tA C H Pl l' λr=>br r
   (pe C H Qo l' λx2=>el (iF x2) λUa=>cG (decide (Ua.length≤1000)) (mh (λd K'=>el (gP t2 l' d) λl'=>tA C H PC l' λr=>br r (pe C H Pa l' λy=>K' [y]) (K' [])) Ua K')) (K' [])) ds λys=>cG (aE ys.length) (K (.lst ys)))
noncomputable def pg(C:cu)(H:AH):hV→Loc→(List PV→Prop)→Prop
 |.nil,_,K=>K []
 |.cons a es,l,K=>pe C H a l λx=>pg C H es l λxs=>K (x::xs)
noncomputable def tA(C:cu)(H:AH):hV→Loc→(Bool→Prop)→Prop
 |.nil,_,K=>K true
 |.cons a es,l,K=>pe C H a l λx=>el (bB H x) λr=>br r (tA C H es l K) (K false)
end
def yQ(C:cu)(H:AH)(e:ME)(l:Loc)(K:Bool→Prop):Prop:=pe C H e l λd=>el (bB H d) K
noncomputable def gH:Expr→Bool
 |.Call (.Name ..) [] [] _=>false
 |_=>true
noncomputable def xi:Str:="__debug__"
def o0(ns:kF)(x:Str):Bool:=ns.lookup x==some .globalImplicit&&!(x==xi)
def gE(ns:kF)(x:Str):Bool:=(ns.lookup x==some .local||ns.lookup x==some .cell)&&!(x==xi)
noncomputable def Tg.slots:Tg→List Nat
 |.one i _=>[i]
 |.two i j _ _ _ _=>[i,j]
def Tg.apart(t u:Tg):Bool:=t.slots.all λi=>!u.slots.contains i
def lu(T:List Str)(ns:kF)(t:Tg):Bool:=t.slots.all (λi=>decide (i<T.length)&&gE ns (nm T i))&&(match t with | .one ..=>true | .two i j ..=>i !=j)
def qy(T:List Str)(ns:kF)(cap:List Nat)(sc:Scope):Bool:=
 sc.kind==.function&&(sc.names.all (λy=>y.2 !=.cell)&&(sc.names.all (λy=>y.2 !=.local||sc.names.lookup y.1==some .local) &&
 (sc.names.all (λy=>y.2 !=.free||(ns.lookup y.1==some .cell||ns.lookup y.1==some .free)) &&
 cap.all (λi=>sc.names.lookup (nm T i)==some .free&&!(nm T i==("__classdict__":Str))))))
mutual
noncomputable def cZ(T:List Str):ME→kF→Option (Addr×Str)→Bool
 |.c ..,_,_=>true
 |.v i _,_,_=>!(nm T i==xi)
 |.gv x _,ns,_=>o0 ns x
 |.neg ..,_,_=>true
 |.js i j _ _ _ _ _ _ _,_,_=>!(nm T i==xi)&&!(nm T j==xi)
 |.abQ i _ _,_,_=>!(nm T i==xi)
 |.rx x _ _ ap l p,ns,cd=>o0 ns x&&(decide (rZ l<30)&&(ap.endLine==p.line&&fR T l ns cd))
 |.abz x _ l _ e _ _,ns,cd=>o0 ns x&&(fR T l ns cd&&cZ T e ns cd)
 |.att o _ _,ns,cd=>gH (aX T o)&&cZ T o ns cd
 |.bin _ a b _,ns,cd=>cZ T a ns cd&&cZ T b ns cd
 |.cmp _ a b _,ns,cd=>cZ T a ns cd&&cZ T b ns cd
 |.abU _ _ a b c _,ns,cd=>cZ T a ns cd&&(cZ T b ns cd&&cZ T c ns cd)
 |.not a _,ns,cd=>cZ T a ns cd
 |.and a b _,ns,cd=>cZ T a ns cd&&cZ T b ns cd
 |.or a b _,ns,cd=>cZ T a ns cd&&cZ T b ns cd
 |.ife t a b _,ns,cd=>cZ T t ns cd&&(cZ T a ns cd&&cZ T b ns cd)
 |.idx a b _,ns,cd=>cZ T a ns cd&&cZ T b ns cd
 |.abG a b _ _,ns,cd=>cZ T a ns cd&&cZ T b ns cd
 |.abp a b _ _,ns,cd=>cZ T a ns cd&&cZ T b ns cd
 |.tup l _ _,ns,cd=>fR T l ns cd
 |.lst l _,ns,cd=>fR T l ns cd
 |.call x _ l _,ns,cd=>o0 ns x&&fR T l ns cd
 |.bi b _ l _,ns,cd=>o0 ns b.name&&fR T l ns cd
 |.mth _ o ap l p,ns,cd=>gH (aX T o)&&(decide (rZ l<30)&&(ap.endLine==p.line&&(cZ T o ns cd&&fR T l ns cd)))
 |.abm o ap _ _ _ _ p,ns,cd=>gH (aX T o)&&(ap.endLine==p.line&&cZ T o ns cd)
 |.abR x _ ap _ c e p,ns,cd=>o0 ns x&&(ap.endLine==p.line&&(cd==some c&&cZ T e ns cd))
 |.comp Pa t it Pl cap sc _,ns,cd=>qy T ns cap sc&&(lu T sc.names t&&(cZ T it ns cd&&(fR T Pl sc.names none&&cZ T Pa sc.names none)))
 |.abt Pa t it Pl t2 Qo PC cap sc _,ns,cd=>qy T ns cap sc&&(lu T sc.names t&&(lu T sc.names t2&&(t.apart t2&&(cZ T it ns cd&&(fR T Pl sc.names none&&(cZ T Qo sc.names none&&(fR T PC sc.names none&&cZ T Pa sc.names none)))))))
noncomputable def fR(T:List Str):hV→kF→Option (Addr×Str)→Bool
 |.nil,_,_=>true
 |.cons a l,ns,cd=>cZ T a ns cd&&fR T l ns cd
end
variable{es Pl:hV}{l l':Loc}{K:Fl→Loc→AH→Prop}{e Pa it:ME}{C:cu}
section
def ff(h:Heap)(env:Env)(n:Str)(v:Value):Prop:=
 (env.kindOf n=some .local∧∃m,h.Ns env.locals m∧m n=some v) ∨
 ((env.kindOf n=some .cell∨env.kindOf n=some .free∧(n==("__classdict__":Str))=false)∧∃c,env.cells.lookup n=some c∧h.IsCell c (some v))
def qB(T:List Str)(g:Gh)(h:Heap)(env:Env)(l:Loc):Prop:=∀i d,l i=some d→i<T.length∧∃v,abb g h d v∧ff h env (nm T i) v
def Wd(S:Cx)(g:Gh)(h:Heap):Prop:=∀b o,¬S.T b→S.base.get? b=some o→h.get? b=some o∧¬g.Z b
structure Pk extends Cx where
 C:cu
 n:Nat
 T:List Str
structure Rt where
 ns:kF
 cd:Option (Addr×Str)
 env:Env
 g:Gh
 H:AH
 l:Loc
 A:Around
structure In(n:Nat)(X:Rt):Prop where
 handled:X.A.handled=none
 depth:X.A.depth+n<recursionLimit
 units:X.A.units+3*n+200<cLine
 kind:X.env.scope.kind=.function
 globals:X.env.globals=mainGlobals
 builtins:X.env.builtins=builtinsNs
 glob:∀x,X.ns.lookup x=some .globalImplicit→X.env.kindOf x=some .globalImplicit
 loc:∀x,X.ns.lookup x=some .local→X.env.kindOf x=some .local
 cel:∀x,(X.ns.lookup x=some .cell∨X.ns.lookup x=some .free)→(X.env.kindOf x=some .cell∨X.env.kindOf x=some .free)∧(X.env.cells.lookup x).isSome=true
 hkc:∀x,X.ns.lookup x=some .cell→X.env.kindOf x=some .cell
 code:∀c,X.cd=some c→X.env.code=.ref c.1∧X.env.qual=c.2
structure Kp(S:Cx)(g:Gh)(s s':Shared):Prop extends Kp0 S g s s' where
 tp:0<s'.toks
theorem Kp.trans(a:Kp S g s s')(b:Kp S g s' s''):Kp S g s s'':=⟨a.toKp0.trans b.toKp0,b.tp⟩
def Kp.to(a:Kp S g s s')(b:Kp0 S g s' s'')(t:0<s''.toks):Kp S g s s'':=⟨a.toKp0.trans b,t⟩
structure At(P:Pk)(X:Rt)(s:Shared):Prop where
 T:X.g.abh s.heap
 R:bG P.toCx X.g X.H s.heap
 W:Wd P.toCx X.g s.heap
 L:qB P.T X.g s.heap X.env X.l
 I:P.TI X.g s.heap
 tp:0<s.toks
 tz:∀b,P.toCx.T b→X.g.Z b∧¬X.g.W b
def In.abH{X:Rt}(i:In n X):X.A.units+100<cLine:=by have:=i.units;exact a8 this
section
variable{P:Pk}{X:Rt}
def jg{m:Str→Option Value}{c:Value}{vs:Array Value}(x:h.Ns a m)(y:h.get? a=some {cls:=c,data:=.fields vs}){Q:Prop}:Q:=by
 refine a5 x λo es ep e QV=>aU QV λhd _=>?_;rw[y] at e;cases e;cases hd
def gO{v:Option Value}{o:Obj}{vs:Array Value}(x:h.IsCell a v)(y:h.get? a=some o)(z:o.data=.fields vs){Q:Prop}:Q:=by
 refine ay x λo' e hd=>?_;rw[y] at e;cases e;rw[z] at hd;cases hd
def iB{m:Str→Option Value}{v:Option Value}(x:h.Ns a m)(y:h.IsCell a v):False:=by
 refine a5 x λo es ep e R3=>aU R3 λhd _=>ay y λo' e' QP=>?_;rw[e] at e';cases e';rw[hd] at QP;cases QP
def fh{m:Str→Option Value}(x:h.Ns a m)(k:∀o,h.get? a=some o→h'.get? a=some o):h'.Ns a m:=
 Exists.imp (λ_=>.imp λ_=>.imp λ_ q=>⟨k _ q.1,q.2⟩) x
def wv{v:Option Value}(x:h.IsCell a v)(k:∀o,h.get? a=some o→h'.get? a=some o):h'.IsCell a v:=
 Exists.imp (λ_ q=>⟨k _ q.1,q.2⟩) x
def ff.at{n:Str}{v:Value}(x:ff h env n v)(kl:∀m,h.Ns env.locals m→∀o,h.get? env.locals=some o→h'.get? env.locals=some o)(kc:∀c u,h.IsCell c u→∀o,h.get? c=some o→h'.get? c=some o):ff h' env n v:=
 Or.imp (λq=>⟨q.1,q.2.imp λm q=>⟨fh q.1 (kl m q.1),q.2⟩⟩) (λq=>⟨q.1,q.2.imp λc q=>⟨q.1,wv q.2 (kc c _ q.2)⟩⟩) x
def ff.keeps{n:Str}{v:Value}(x:ff h env n v)(k:∀b o,h.get? b=some o→h'.get? b=some o):ff h' env n v:=x.at (λ_ _=>k _) λc _ _=>k c
theorem qB.over{T:List Str}(r:qB T g h env l)(o:aC g g' h h')(k:∀n v,ff h env n v→ff h' env n v):qB T g' h' env l:=
 λi d e=>⟨(r i d e).1,(r i d e).2.imp λv q=>⟨q.1.over o,k _ _ q.2⟩⟩
def Wd.over(x:Wd S g h)(o:aC g g' h h'):Wd S g' h':=λb ob t e=>have q:=x b ob t e;have y:=o.obj b ob q.2 q.1;⟨y.2,y.1⟩
def At.tab(a:At P X s){b:Addr}(t:P.toCx.T b):∃vs,s.heap.get? b=some {cls:=.none,data:=.fields vs}:=by
 obtain⟨t,m,rfl⟩:=t;exact(a.I t m).imp λ_ q=>q.1
def At.over(a:At P X s)(k:Kp P.toCx X.g s s'):aC X.g X.g s.heap s'.heap:=
 ⟨λb o z e=>⟨z,k.abc b o (λt=>z (a.tz b t).1) e⟩,λ_ _ e=>e⟩
def At.held(a:At P X s)(k:Kp P.toCx X.g s s'){n:Str}{v:Value}(x:ff s.heap env n v):ff s'.heap env n v:=
 x.at (λm hm o e=>k.abc _ o (λt=>(a.tab t).elim λvs y=>jg hm y) e) λc u hc o e=>k.abc _ o (λt=>(a.tab t).elim λvs y=>gO hc y rfl) e
theorem At.k(a:At P X s)(k:Kp P.toCx X.g s s'):At P X s':=
 ⟨λb z=>k.ex b (a.T b z),a.R.over (a.over k) rfl (λ_ z=>z) λc o w e=>k.abc c o (λt=>(a.tz c t).2 w) e,a.W.over (a.over k),a.L.over (a.over k) λ_ _ x=>a.held k x,k.ti a.I,k.tp,a.tz⟩
theorem At.refl(a:At P X s):Kp P.toCx X.g s s:=⟨Kp0.refl,a.tp⟩
def aW{α:Type}{M:Model}{A:Around}{t:Sem α}{Q:α→Shared→Prop}(p:0<s.toks)(h:wpAny M A t (λa s'=>0<s'.toks→Q a s') E s):wpAny M A t Q E s:=
 wpAny_toks (OH h (λ_ _ q le=>q (OC p le)) λ_ _ e=>e)
def nX{α:Type}{M:Model}{A:Around}{t:Sem α}{Q:α→Shared→Prop}(h:∀(Q':α→Shared→Prop)(E':Value→Shared→Prop),(∀a s',Q a s'→Q' a s')→(∀v s',E v s'→E' v s')→wpAny M A t Q' E' s):wpAny M A t Q E s:=h Q E (λ_ _ q=>q) λ_ _ q=>q
def At.run{α:Type}{M:Model}{A:Around}{t:Sem α}{Q:α→Shared→Prop}(a:At P X s)(h:wpAny M A t (λa s'=>0<s'.toks→Q a s') E s):wpAny M A t Q E s:=aW a.tp h
end
def bC(S:Cx)(n:Str)(v:Value):Prop:=
 ∀{M:Model}{A:Around}{E:Value→Shared→Prop}{s:Shared}{env:Env}{Q:Value→Shared→Prop},env.globals=mainGlobals→env.builtins=builtinsNs→(∀b o,¬S.T b→S.base.get? b=some o→s.heap.get? b=some o)→Q v s→wpAny M A (loadGlobal env n) Q E s
structure fF(A:Around)(n:Nat):Prop where
 handled:A.handled=none
 depth:A.depth+n<recursionLimit
 units:A.units+3*n+200<cLine
def In.room{X:Rt}(i:In n X):fF X.A n:=⟨i.handled,i.depth,i.units⟩
structure Wl(S:Cx)(g:Gh)(s:Shared):Prop where
 T:g.abh s.heap
 W:Wd S g s.heap
 I:S.TI g s.heap
 tp:0<s.toks
 tz:∀b,S.T b→g.Z b∧¬g.W b
def At.wl{P:Pk}{X:Rt}(a:At P X s):Wl P.toCx X.g s:=⟨a.T,a.W,a.I,a.tp,a.tz⟩
def Gives(S:Cx)(n:Nat)(v:Value)(pre:List Value)(kw:List (Str×Value))(ds:List PV)(d:PV):Prop:=
 ∀(A:Around)(g:Gh)(s:Shared)(vs:List Value)(Q E:Value→Shared→Prop),fF A n→Wl S g s→aD g s.heap ds vs→(∀v s',Kp S g s s'→abb g s'.heap d v→Q v s')→wpAny S.M A (call v (pre++vs) kw) Q E s
def wP(S:Cx)(v:Value)(m:Str)(id:String):Prop:=
 ∀(A:Around)(g:Gh)(s:Shared)(pl:Sem Bool)(P:Value×List Value→Shared→Prop)(E:Value→Shared→Prop),Wd S g s.heap→P (.builtin id,[v]) s→wpAny S.M A (getMethod v m pl) P E s
noncomputable def cm(env:Env)(pos:Pos)(l:List Expr):List (Bool×Sem Value):=backTo pos (starEach l env)
def gR(A:Around)(b:Addr):Prop:=∃l,A.frames=some l∧∃env∈l,env.frame=some b
def GK(g:Gh)(A:Around)(h:Heap):Prop:=∃l,A.frames=some l∧∀env∈l,env.scope.kind≠.module∧∃b o,env.frame=some b∧h.get? b=some o∧(∀vs,o.data≠.fields vs)∧g.Z b∧¬g.W b
def x7(C:cu)(g:Gh)(A:Around)(h:Heap):Prop:=(C.fr=true→GK g A h)∧(C.fr=false→A.frames=none)
theorem x7.at{A:Around}(f:x7 C g A h){b:Addr}(hb:gR A b):g.Z b∧¬g.W b∧∃o,h.get? b=some o∧∀vs,o.data≠.fields vs:=by
 refine ay hb λl hl R5=>ay R5 λenv he hf=>?_;cases hc:C.fr with
 |true=>
  refine ay (f.1 hc) λl' RG k=>?_;rw[hl] at RG;cases RG;refine aU (k env he) λ_ R6=>cA R6 λb' o h1 h2 QI=>bV QI λh3 h4 h5=>?_;rw[hf] at h1;cases h1;exact dK h4 h5 o h2 h3
 |false=>
  have:=f.2 hc;rw[hl] at this;cases this
def x7.over{A:Around}(f:x7 C g A h)(k:∀b o,gR A b→g.Z b→¬g.W b→h.get? b=some o→(∀vs,o.data≠.fields vs)→g'.Z b∧¬g'.W b∧∃o',h'.get? b=some o'∧∀vs,o'.data≠.fields vs):x7 C g' A h':=
 ⟨λhc=>by
  refine ay (f.1 hc) λl hl q=>ak l hl (λenv he=>aU (q env he) λh1 R7=>cA R7 λb o h2 h3 TB=>?_);exact bV TB λh4 h5 h6=>fN (k b o (ak l hl (ak env he h2)) h5 h6 h3 h4) λk1 k2 o' k3 k4=>⟨h1,b,o',h2,k3,k4,k1,k2⟩,f.2⟩
structure mA(S:Cx)(A:Around)(g:Gh)(s:Shared)(g':Gh)(s':Shared):Prop where
 same:∃h tk,s'={s with heap:=h,toks:=tk}
 abc:∀b o,¬g.W b→¬S.T b→¬gR A b→s.heap.get? b=some o→s'.heap.get? b=some o
 slot:∀b o,¬g.W b→¬S.T b→gR A b→s.heap.get? b=some o→∃sl,s'.heap.get? b=some {o with slots:=sl}
 z:∀b,g.Z b→g'.Z b
 zn:∀b,(∃o,s.heap.get? b=some o)→g'.Z b→g.Z b
 wn:∀b,(∃o,s.heap.get? b=some o)→g'.W b→g.W b
 ad:∀(i:Nat)(p:Addr×Addr),g.ad[i]?=some p→g'.ad[i]?=some p
 ex:∀b,(∃o,s.heap.get? b=some o)→∃o,s'.heap.get? b=some o
def mS(S:Cx)(v:Value):Prop:=∀h:Heap,(∀b o,¬S.T b→S.base.get? b=some o→h.get? b=some o)→∃k,(k=Keeper.frame∨k=Keeper.machine∨k=Keeper.boundFrame)∧Looks S.M h (keeperOf v) k
structure hO(S:Cx)(g:Gh)(h:Heap)(x d c:Addr)(ws:List Value)(es:List DictEntry)(k:Nat)(fs:List (Str×PV)):Prop where
 w:Wd S g h
 o:h.get? x=some (lj c d ws)
 d:h.get? d=some (dictOf es k)
 f:eK g h fs es
def vS(S:Cx)(c:Addr)(n:Str):Prop:=
 ∀{A:Around}{E Q:Value→Shared→Prop}{s:Shared}{g:Gh}{x d:Addr}{ws:List Value}{es:List DictEntry}{k:Nat}{fs:List (Str×PV)}{pd:PV},hO S g s.heap x d c ws es k fs→aM n fs=some pd→(∀v tk,abb g s.heap pd v→Q v {s with toks:=tk})→wpAny S.M A (getAttr (.ref x) n true) Q E s
def vJ(S:Cx)(c:Addr)(n:Str):Prop:=
 ∀{A:Around}{E:Value→Shared→Prop}{Q:Unit→Shared→Prop}{s:Shared}{g:Gh}{x d:Addr}{ws:List Value}{es:List DictEntry}{k:Nat}{fs:List (Str×PV)}{v:Value},hO S g s.heap x d c ws es k fs→fs.length≤100 →
  (∀h' es' k' tk,(∀b o,b≠d→s.heap.get? b=some o→h'.get? b=some o)→h'.get? d=some (dictOf es' k')→(∀(g':Gh)(hh:Heap)(pd:PV),eK g' hh fs es→abb g' hh pd v→eK g' hh (b9 n pd fs) es')→Q () {s with heap:=h',toks:=tk})→wpAny S.M A (setAttr (.ref x) n v) Q E s
def Gq(S:Cx)(c:Addr)(n:Str)(j:Nat):Prop:=
 ∀{A:Around}{E Q:Value→Shared→Prop}{s:Shared}{g:Gh}{x d:Addr}{ws:List Value}{es:List DictEntry}{k:Nat}{fs:List (Str×PV)}{v:Value},hO S g s.heap x d c ws es k fs→ws[j]?=some v→handedIn v=true→(∀tk,Q v {s with toks:=tk})→wpAny S.M A (getAttr (.ref x) n true) Q E s
noncomputable def putAt{α:Type}(l:List α)(j:Nat)(x:α):List α:=if j<l.length then l.set j x else l++[x]
def GP(S:Cx)(c:Addr)(n:Str)(j:Nat):Prop:=
 ∀{A:Around}{E:Value→Shared→Prop}{Q:Unit→Shared→Prop}{s:Shared}{g:Gh}{x d:Addr}{ws:List Value}{es:List DictEntry}{k:Nat}{fs:List (Str×PV)}{v:Value},hO S g s.heap x d c ws es k fs→j≤ws.length →
  (∀h' tk,(∀b o,b≠x→s.heap.get? b=some o→h'.get? b=some o)→h'.get? x=some (lj c d (putAt ws j v))→Q () {s with heap:=h',toks:=tk})→wpAny S.M A (setAttr (.ref x) n v) Q E s
def nI(S:Cx)(c:Addr)(m:Str)(a:Addr):Prop:=
 ∀{A:Around}{E:Value→Shared→Prop}{P:Value×List Value→Shared→Prop}{pl:Sem Bool}{s:Shared}{g:Gh}{x d:Addr}{ws:List Value}{es:List DictEntry}{k:Nat}{fs:List (Str×PV)},hO S g s.heap x d c ws es k fs→aM m fs=none→P (.ref a,[.ref x]) s→wpAny S.M A (getMethod (.ref x) m pl) P E s
def ek(S:Cx)(n:Nat)(a:Addr)(R:AH→List PV→(PV→AH→Prop)→Prop):Prop:=
 ∀{A:Around}{E Q:Value→Shared→Prop}{s:Shared}{g:Gh}{H:AH}{vs:List Value}{ds:List PV}{K:PV→AH→Prop},fF A n→GK g A s.heap→Wl S g s→bG S g H s.heap→aD g s.heap ds vs→R H ds K→(∀v s' g' d H',K d H'→mA S A g s g' s'→Wl S g' s'→bG S g' H' s'.heap→abb g' s'.heap d v→Q v s')→codeAny S.M A (.call (.ref a) ⟨vs,[]⟩) (wants Q E) s
def zF(S:Cx)(c:Addr)(m:Str)(a:Addr):Prop:=
 ∀{A:Around}{E Q:Value→Shared→Prop}{s:Shared}{g:Gh}{x d:Addr}{ws:List Value}{es:List DictEntry}{k:Nat}{fs:List (Str×PV)},hO S g s.heap x d c ws es k fs→aM m fs=none→(∀tk,Q (.ref s.heap.objs.size) {s with heap:=s.heap.push (methodObj (.ref a) (.ref x)),toks:=tk})→wpAny S.M A (getAttr (.ref x) m true) Q E s
def nL(S:Cx)(n:Nat)(a:Addr)(kw:Str)(ds:List PV)(u d:PV):Prop:=
 ∀(A:Around)(g:Gh)(s:Shared)(vs:List Value)(w:Value)(Q E:Value→Shared→Prop),fF A n→Wl S g s→aD g s.heap ds vs→abb g s.heap u w→(∀v s',Kp S g s s'→abb g s'.heap d v→Q v s')→wpAny S.M A (call (.ref a) vs [(kw,w)]) Q E s
def Ed(f6:Gh→Heap→Value→Prop):Prop:=∀g h g' h' f,f6 g h f→aC g g' h h'→f6 g' h' f
def Hf(S:Cx)(n:Nat)(lam:Expr)(cd:Addr×Str)(f6:Gh→Heap→Value→Prop):Prop:=
 ∀X:Rt,In n X→X.cd=some cd→∀(s:Shared)(Q E:Value→Shared→Prop),Wl S X.g s→(∀f s',Kp S X.g s s'→f6 X.g s'.heap f→Q f s')→wpAny S.M X.A (eval lam X.env) Q E s
def Es(lam:Expr):Prop:=∀l env pos,cm env pos (lam::l)=(false,eval lam env)::cm env pos l
def zo(S:Cx)(n:Nat)(v:Value)(id:String)(f6:Gh→Heap→Value→Prop)(y d:PV):Prop:=
 ∀(A:Around)(g:Gh)(s:Shared)(f u:Value)(Q E:Value→Shared→Prop),fF A n→Wl S g s→f6 g s.heap f→abb g s.heap y u→(∀v s',Kp S g s s'→abb g s'.heap d v→Q v s')→wpAny S.M A (call (.builtin id) [v,f,u]) Q E s
structure ND(S:Cx)(n:Nat)(x:Str)(R:List PV→PV→Prop)(RK:Str→List PV→PV→PV→Prop)(a:Addr):Prop where
 gn:bC S x (.ref a)
 nt:¬S.T a
 o:∃o fd,S.base.get? a=some o∧o.data=.func fd
 f:∀ds d,R ds d→Gives S n (.ref a) [] [] ds d
 k:∀kw ds u d,RK kw ds u d→nL S n a kw ds u d
structure NF(S:Cx)(n:Nat)(x m:Str)(R:List PV→PV→Prop)(v:Value)(id:String):Prop where
 gn:bC S x v
 get:wP S v m id
 f:∀ds d,R ds d→Gives S n (.builtin id) [v] [] ds d
structure Nu(S:Cx)(n:Nat)(x:Str)(lam:Expr)(cd:Addr×Str)(R:PV→PV→Prop)(v:Value)(id:String)(f6:Gh→Heap→Value→Prop):Prop where
 gn:bC S x v
 get:wP S v ("sub":Str) id
 over:Ed f6
 ev:Hf S n lam cd f6
 tree:Es lam
 f:∀y d,R y d→zo S n v id f6 y d
structure Nz(S:Cx)(n:Nat)(c:Addr)(y:Str)(R:AH→List PV→(PV→AH→Prop)→Prop)(a:Addr):Prop where
 nt:¬S.T a
 o:∃o fd,S.base.get? a=some o∧o.data=.func fd
 gm:nI S c y a
 gb:zF S c y a
 r:ek S n a R
structure NI(S:Cx)(n:Nat)(x:Str)(R:AH→List PV→(PV→AH→Prop)→Prop)(a:Addr):Prop where
 gn:bC S x (.ref a)
 kf:mS S (.ref a)
 r:ek S n a R
structure ah(S:Cx)(n:Nat)(C:cu):Prop where
 f:∀x,C.fa x=true→∃a,ND S n x (C.f x) (C.k x) a
 x:∀x m,C.xa x m=true→∃v id,NF S n x m (C.x x m) v id
 s:∀x lam cd,C.sa x lam cd→∃v id f6,Nu S n x lam cd (C.s x lam cd) v id f6
 g:∀x d,C.g x d→∃v,bC S x v∧∀g s,Wl S g s→abb g s.heap d v
 bi:∀b:Bi,bC S b.name b.val
 en:bC S ("enumerate":Str) (.type "enumerate")
 sys:∃a o,sysModules≤a∧¬S.T a∧S.base.get? a=some o
 aca:bC S ("set":Str) (.type "set")
 abV:bC S ("iter":Str) (.builtin "iter")
 ia:∀c y,C.ia c y=true→vS S c y∧vJ S c y
 sl:∀c y j,C.sl c y=some j→Gq S c y j∧GP S c y j
 m:∀c y,C.ma c y=true→C.fr=true∧∃a,Nz S n c y (C.mt c y) a
 nw:∀x,C.na x=true→C.fr=true∧∃a,NI S n x (C.nt x) a
section
variable(P:Pk)
def VS(e:ME):Prop:=∀(X:Rt)(s:Shared)(K:PV→Prop)(Q E:Value→Shared→Prop),In P.n X→cZ P.T e X.ns X.cd=true→At P X s→pe P.C X.H e X.l K→(∀v s' d,K d→Kp P.toCx X.g s s'→abb X.g s'.heap d v→Q v s')→wpAny P.M X.A (eval (aX P.T e) X.env) Q E s
def TS(e:ME):Prop:=∀(X:Rt)(s:Shared)(K:PV→Prop)(Q:Bool→Shared→Prop)(E:Value→Shared→Prop),In P.n X→cZ P.T e X.ns X.cd=true→At P X s→pe P.C X.H e X.l K→(∀d,K d→∃b,bB X.H d=some b∧∀s',Kp P.toCx X.g s s'→Q b s') →
 wpAny P.M X.A (isTrue (aX P.T e) X.env (eval (aX P.T e) X.env)) Q E s
def PS(es:hV):Prop:=∀(X:Rt)(pos:Pos)(s:Shared)(K:List PV→Prop)(Q:List Value→Shared→Prop)(E:Value→Shared→Prop),In P.n X→fR P.T es X.ns X.cd=true→At P X s→pg P.C X.H es X.l K →
 (∀vs s' ds,K ds→Kp P.toCx X.g s s'→aD X.g s'.heap ds vs→Q vs s')→wpAny P.M X.A (spliced (cm X.env pos (b8 P.T es))) Q E s
def Eg(es:hV):Prop:=∀(X:Rt)(s:Shared)(K:Bool→Prop)(Q:Bool→Shared→Prop)(E:Value→Shared→Prop),In P.n X→fR P.T es X.ns X.cd=true→At P X s→tA P.C X.H es X.l K→(∀b s',K b→Kp P.toCx X.g s s'→Q b s') →
 wpAny P.M X.A (forIn (b8 P.T es) true λc r=>if r=true then do let ok ← isTrue c X.env (eval c X.env);pure (ForInStep.yield ok) else pure (ForInStep.yield r)) Q E s
end
end
variable{P:Pk}{X X':Rt}
section
section
variable{M:Model}{A:Around}
def bo{ts:List (Bool×Sem Value)}{Q:Args→Shared→Prop}(hp:ts.all (λx=>!x.1)=true)(h:wpAny M A (spliced ts) (λvs s'=>Q ⟨vs,[]⟩ s') E s):wpAny M A (evalArgs f true ts []) Q E s:=by
 cases ts with
 |nil=>
  unfold evalArgs;exact NN (OH h (λvs OP O9=>Om (NN (NQ (NN (NQ (NQ O9)))))) λ_ _ e=>e)
 |cons t ts=>
  obtain⟨b,x⟩:=t;simp only[List.all_cons,Bool.and_eq_true,Bool.not_eq_true'] at hp;refine aU hp λO8 _=>?_;obtain rfl:=O8;exact evalArgs_plain h
def mD{ts:List (Bool×Sem Value)}{Qg:List (Option Str×Sem Value)}{Q:Args→Shared→Prop}(hp:ts.all (λx=>!x.1)=true)(QM:Qg.all (·.1.isSome)=true)(h:wpAny M A (spliced ts) (λvs OP=>wpAny M A (evalAll (Qg.map (·.2))) (λks OR=>Q ⟨vs,(Qg.filterMap (·.1)).zip ks⟩ OR) E OP) E s):wpAny M A (evalArgs f true ts Qg) Q E s:=by
 cases ts with
 |nil=>
  unfold evalArgs;show wpAny M A (spliced []>>=_) Q E s;refine NN (OH h (λvs OP O9=>Om ?_) λ_ _ e=>e);simp only[QM,if_true];exact NN (OH O9 (λks OR O4=>NN (NQ (NQ O4))) λ_ _ x=>x)
 |cons t ts=>
  obtain⟨b,x⟩:=t;simp only[List.all_cons,Bool.and_eq_true,Bool.not_eq_true'] at hp;refine aU hp λPA _=>?_;obtain rfl:=PA;exact evalArgs_kw QM h
def d8{ts:List (Bool×Sem Value)}(hp:ts.all (λx=>!x.1)=true):ts.any (·.1)=false:=by
 induction ts with
 |nil=>rfl
 |cons t ts ih=>
  simp only[List.all_cons,Bool.and_eq_true,Bool.not_eq_true'] at hp;simp only[List.any_cons,hp.1,ih hp.2,Bool.or_false]
set_option tactic.hygienic true in
def d5{o:Expr}{n:Str}{whole:Sem Value}(h:gH o=true):attributeBase o n env whole=whole:=by
 cases o<;>try rfl
 rename_i f l k _;cases f<;>try rfl
 cases l<;>try rfl
 cases k<;>try rfl
 exact Bool.noConfusion h
def dL{v:Value}{args:List (Bool×Sem Value)}(hv:(∃id,v=.builtin id)∨∃T,v=.type T)(hp:args.any (·.1)=false)(h:wpAny M A (evalArgs v true args []) (λa OP=>wpAny M A (call v ([]++a.pos) a.kw) Q E OP) E s):wpAny M A (callWith pos v [] args []) Q E s:=by
 rcases hv with ⟨id,rfl⟩ | ⟨T,rfl⟩
 ·exact callWith_builtin hp h
 ·exact PySem.callWith_type hp h
end
def bM(T:List Str)(a:ME){l:List Expr}:cm env pos (aX T a::l)=(false,eval (aX T a) env)::cm env pos l:=by
 cases a<;>rfl
theorem bb(T:List Str):∀es:hV,(cm env pos (b8 T es)).all (λx=>!x.1)=true
 |.nil=>rfl
 |.cons a es=>by
  show(cm env pos (aX T a::b8 T es)).all _=true;rw[bM,List.all_cons,bb T es];rfl
theorem jL(T:List Str):∀es:hV,(b8 T es).length=rZ es
 |.nil=>rfl
 |.cons a es=>N2 (·+1) (jL T es)
def dQ(T:List Str){op:CmpOp}(a:ME):behindInMarks op (aX T a)=false:=by cases a<;>rfl
def df(T:List Str)(a:ME)(x:Value):foldedSetIterable (aX T a) env x=pure x:=by cases a<;>rfl
def eN(h:(!(x==xi))=true):(x==("__debug__":Str))=false:=by
 rw[Bool.not_eq_true'] at h;exact h
section
def ff.name{n:Str}{v:Value}(i:In P.n X)(x:ff s.heap X.env n v)(hd:(n==("__debug__":Str))=false)(h:Q v s):wpAny P.M X.A (eval (.Name n pos) X.env) Q E s:=by
 rcases x with ⟨a,m,b,c⟩ | ⟨a | ⟨a,z⟩,c,b,d⟩
 ·exact wpAny_Name (wpAny_loadName_local i.kind a b c h) hd
 ·exact wpAny_Name (wpAny_loadName_cell i.kind a b d h) hd
 ·exact wpAny_Name (wpAny_loadName_free i.kind a b d h z) hd
def bC.name{n:Str}{v:Value}(x:bC P.toCx n v)(i:In P.n X)(hg:o0 X.ns n=true)(W:Wd P.toCx X.g s.heap)(h:Q v s):wpAny P.M X.A (eval (.Name n pos) X.env) Q E s:=
 Name_function_global i.kind (i.glob _ (Ol.mp (ai hg))) (x i.globals i.builtins (λb o t e=>(W b o t e).1) h) (eN (ae hg))
def oG{k:Nat}{K:PV→Prop}(i:In P.n X)(h:(!(nm P.T k==xi))=true)(a:At P X s)(hp:el (X.l k) K)(hQ:∀v d,K d→abb X.g s.heap d v→Q v s):wpAny P.M X.A (eval (.Name (nm P.T k) p) X.env) Q E s:=
 a6 hp λd hd hk=>(a.L k d hd).2.elim λv q=>q.2.name i (eN h) (hQ v d hk q.1)
end
section
def TS.plain(hv:VS P e)(he:∀env,isTrue (aX P.T e) env (eval (aX P.T e) env)=(do let v ← eval (aX P.T e) env;standAt (aX P.T e).pos;holding [v] (truthy v))):VS P e∧TS P e:=
 ⟨hv,λX s K Q E i ok a hp hQ=>isTrue_plain (hv X s _ _ E i ok a hp λv s' d hd k r=>(hQ d hd).elim λb q=>(a.k k).run (dJ (a.k k).R q.1 r λt tp=>q.2 _ (k.to Kp0.toks tp))) (he X.env)⟩
def qi{b:Bool}{P:Bool→Prop}(h:∃r,bB H (.bool b)=some r∧P r):P b:=h.elim λr q=>NW q.1▸q.2
def Ms{c:Const}{k:Nat}:VS P (.c c k p)∧TS P (.c c k p):=by
 refine TS.plain (λX s K Q E i ok a hp hQ=>a6 hp λd hd hk=>?_) λ_=>rfl;have t1:Kp P.toCx X.g s {s with toks:=s.toks+1}:=⟨Kp0.toks,Nat.succ_pos _⟩;cases c<;>cases hd
 ·exact Constant_none (hQ _ _ _ hk a.refl rfl)
 ·exact Constant_bool (hQ _ _ _ hk a.refl rfl)
 ·exact wpAny_Constant_int (hQ _ _ _ hk t1 ⟨_,rfl⟩)
 ·exact Constant_str (hQ _ _ _ hk t1 ⟨_,rfl⟩)
 ·intro Γ p _;exact hQ _ _ _ hk t1 ⟨_,rfl⟩
def MF{k:Nat}:VS P (.v k p)∧TS P (.v k p):=
 TS.plain (λX s K Q E i ok a hp hQ=>oG i ok a hp λv d hk r=>hQ v s d hk a.refl r) λ_=>rfl
def Kr(hC:ah P.toCx P.n P.C):VS P (.gv x p)∧TS P (.gv x p):=
 TS.plain (λX s K Q E i ok a ⟨d,hd,hk⟩ hQ=>(hC.g x d hd).elim λv q=>bC.name (P:=P) q.1 i ok a.W (hQ v s d hk a.refl (q.2 _ _ a.wl))) λ_=>rfl
def Ih:VS P (.neg n q p)∧TS P (.neg n q p):=
 TS.plain (λX s K Q E i ok a hp hQ=>a.run (UnaryOp_ (wpAny_Constant_int (PyProof.Rows.neg_int λtp=>hQ _ _ _ hp ⟨Kp0.toks.trans Kp0.toks,tp⟩ ⟨_,rfl⟩)))) λ_=>rfl
def gp(x y:Str):(x++y).length=x.length+y.length:=Array.size_append ..
def Am(x:Str):(Str.empty++x:Str)=x:=by
 show(⟨#[]++x.cps⟩:Str)=x;rw[Array.empty_append]
def sH{v:Value}{n:Str}{q q1:Pos}{A:Around}(i:In P.n X)(hd:(n==("__debug__":Str))=false)(h:ff s.heap X.env n v)(r:abb X.g s.heap (.str x) v)(hx:aE x.length=true)(hQ:∀t k,Q (.str x t) {s with toks:=k}):wpAny P.M X.A (eval (.FormattedValue (.Name n q) 115 none q1) X.env) Q E s:=by
 refine a9 r λt PI=>?_;obtain rfl:=PI;exact wpAny_FormattedValue_s (h.name i hd (SB.convS_str (λt' k=>SB.field_str (λt'' k'=>hQ t'' k') (aO hx)) (aO hx)))
def L6{k:Nat}{p1 q1 p2 p3 q3 p:Pos}:VS P (.js k j sep p1 q1 p2 p3 q3 p)∧TS P (.js k j sep p1 q1 p2 p3 q3 p):=by
 refine TS.plain (λX s K Q E i ok a hp hQ=>?_) λ_=>rfl;show wpAny P.M X.A (eval (.JoinedStr [.FormattedValue (.Name (nm P.T k) p1) 115 none q1,.Constant (.str sep) 0 p2,.FormattedValue (.Name (nm P.T j) p3) 115 none q3] p) X.env) Q E s;refine a6 hp λd1 RP hp=>a6 hp λx hx hp=>a6 hp λd2 Q1 hp=>a6 hp λy hy hp=>?_;obtain rfl:=PV.abg hx;obtain rfl:=PV.abg hy;have hf:=dq (bk hp);have hs:∀n,n≤x.length+sep.length+y.length→n≤sizeLine:=λn h=>aO (au (NT h hf));obtain⟨-,v1,r1,h1⟩:=a.L k _ RP;obtain⟨-,v2,r2,h2⟩:=a.L j _ Q1;refine a.run (wpAny_JoinedStr (sH (A:=X.A) i (eN (ai ok)) h1 r1 (au (a8 hf)) λt k1=>aN x t rfl ?_ ?_))
 ·rw[gp];show 0+x.length≤_;exact hs _ eQ
 refine Constant_str (aN sep _ rfl ?_ ?_)
 ·rw[gp,gp];show 0+x.length+sep.length≤_;exact hs _ eQ
 refine sH (A:=X.A) i (eN (ae ok)) h2 r2 (au (a8 hf)) λt k2=>bL y t rfl ?_ ?_ ?_
 ·rw[gp,gp,gp];show 0+x.length+sep.length+y.length≤_;exact hs _ eQ
 ·rw[gp,gp,gp];show 0+x.length+sep.length+y.length≤_;exact hs _ eQ
 ·exact λtp=>hQ _ _ _ (aY hp) ⟨Kp0.toks,tp⟩ ⟨_,N2 (λz:Str=>Value.str (z++sep++y) _) (Am x)⟩
def FD{k:Nat}:VS P (.abQ k q p)∧TS P (.abQ k q p):=by
 refine TS.plain (λX s K Q E i ok a hp hQ=>?_) λ_=>rfl;show wpAny P.M X.A (eval (.Attribute (.Name (nm P.T k) q) ("string":Str) p) X.env) Q E s;rw[arm_eval_Attribute,d5 (o:=.Name (nm P.T k) q) rfl];exact NN (oG i ok a hp λv d hk r=>NN (ON (a6 hk λm hm hk=>GS hm r λb c t po lo le li n e _=>a.run (NN (Om (tL e rfl λk'=>NN (NQ (NQ λtp=>hQ _ _ _ hk (a.refl.to Kp0.toks tp) ⟨_,rfl⟩))))))))
def lI{p:Addr×Addr}{c:Addr}(R:bG S g H h)(W:Wd S g h)(hi:H[i]?=some (.inst c fs ss))(hp:g.ad[i]?=some p):g.W p.1∧g.W p.2∧p.1≠p.2∧∃ws es k,hO S g h p.1 p.2 c ws es k fs∧aD g h ss ws:=
 have q:=R.at_ i _ p hi hp
 (aS q.1 q.2.1 q.2.2.1 (q.2.2.2.elim λes q=>q.elim λk q=>q.elim λws q=>aG ws es (ak k ⟨W,q.1,q.2.1,q.2.2.1⟩ q.2.2.2)))
def mz{v:Value}(r:abb g h pd v):handedIn v=true:=by
 cases pd;case none=>cases r;rfl
 case bool=>cases r;rfl
 case int=>refine a9 r λt P2=>?_;obtain rfl:=P2;rfl
 case str=>refine a9 r λt Qd=>?_;obtain rfl:=Qd;rfl
 case bytes=>refine a9 r λt Qh=>?_;obtain rfl:=Qh;rfl
 case typ=>cases r;rfl
 case tup=>refine a5 r λa _ _ Pm _=>?_;obtain rfl:=Pm;rfl
 case lst=>refine a5 r λa _ _ Qm _=>?_;obtain rfl:=Qm;rfl
 case mat=>refine bh r λa _ _ _ UH=>bl UH λ_ _ _ _ SU _=>?_;obtain rfl:=SU;rfl
 case obj=>refine ay r λp SV _=>?_;obtain rfl:=SV;rfl
 case rng=>refine bl r λa _ _ _ QT _=>?_;obtain rfl:=QT;rfl
 case vw=>refine aP r λa p QH _=>?_;obtain rfl:=QH;rfl
set_option tactic.hygienic true in
def yy{r:PV}{n:Str}(h:nV C H d n=some r):∃i c fs ss,d=.obj i∧H[i]?=some (.inst c fs ss)∧((∃k,C.sl c n=some k∧ss[k]?=some r)∨C.ia c n=true∧aM n fs=some r):=by
 cases d<;>try exact aT h
 rename_i i;have f:∀o:Option AO,(match o with | some (.inst c fs ss)=>(match C.sl c n with | some k=>ss[k]? | none=>if C.ia c n=true then aM n fs else none) | _=>none)=some r→∃c fs ss,o=some (.inst c fs ss)∧((∃k,C.sl c n=some k∧ss[k]?=some r)∨C.ia c n=true∧aM n fs=some r):=λo h=>by
  cases o with
  |none=>exact aT h
  |some o=>
   cases o<;>try exact aT h
   rename_i c fs ss;have g:∀q:Option Nat,(match q with | some k=>ss[k]? | none=>if C.ia c n=true then aM n fs else none)=some r→(∃k,q=some k∧ss[k]?=some r)∨C.ia c n=true∧aM n fs=some r:=λq h=>by
    cases q with
    |none=>exact .inr (bQ h)
    |some k=>exact .inl ⟨k,rfl,h⟩
   exact⟨c,fs,ss,rfl,g _ h⟩
 exact(f _ h).elim λc h=>h.elim λfs h=>h.elim λss h=>⟨i,c,fs,ss,rfl,h.1,h.2⟩
def pD(hC:ah S n C){A:Around}{r:PV}{v:Value}(R:bG S g H s.heap)(W:Wd S g s.heap)(hb:nV C H d y=some r)(rv:abb g s.heap d v)(hQ:∀v' tk,abb g s.heap r v'→Q v' {s with toks:=tk}):wpAny S.M A (getAttr v y true) Q E s:=by
 refine(yy hb).elim λi h=>h.elim λc h=>h.elim λfs h=>h.elim λss h=>?_;obtain⟨rfl,hH,h⟩:=h;refine ay rv λp RA hp=>?_;obtain rfl:=RA;refine bD (lI R W hH hp) λ_ _ _ UJ=>a5 UJ λws es k I rs=>?_;rcases h with h | h
 ·exact h.elim λj hj=>(rs.get hj.2).elim λu hu=>(hC.sl c y j hj.1).1 I hu.1 (mz hu.2) λtk=>hQ u tk hu.2
 ·exact(hC.ia c y h.1).1 I h.2 hQ
def Hr(hC:ah P.toCx P.n P.C){o:ME}(io:VS P o):VS P (.att o y p)∧TS P (.att o y p):=by
 refine TS.plain (λX s K Q E i ok a hp hQ=>?_) λ_=>rfl;show wpAny P.M X.A (eval (.Attribute (aX P.T o) y p) X.env) Q E s;rw[arm_eval_Attribute,d5 (ai ok)];refine NN (io X s _ _ E i (ae ok) a hp λv OP d hd OQ OT=>NN (ON (a6 hd λr hr hk=>?_)));have Qw:=a.k OQ;exact Qw.run (NN (Om (pD hC Qw.R Qw.W hr OT λv' tk r'=>NN (wpAny_letTemporaryGo (NQ λtp=>hQ _ _ _ hk (OQ.to Kp0.toks tp) r')))))
def II{op:tI}{a b:ME}(ia:VS P a)(ib:VS P b):VS P (.bin op a b p)∧TS P (.bin op a b p):=
 TS.plain (λX s K Q E i ok h hp hQ=>wpAny_BinOp (ia X s _ _ E i (ai ok) h hp λPQ OP x hx OQ OT=>ib X OP _ _ E i (ae ok) (h.k OQ) hx λQl OR y hy OU OY=>
  (h.k (OQ.trans OU)).run (nj (h.k (OQ.trans OU)).T hy (OT.over ((h.k OQ).over OU)) OY λQc OX d hd O3 Pf tp=>hQ Qc OX d hd ((OQ.trans OU).to O3 tp) Pf))) λ_=>rfl
def I7{op:Dz}{a b:ME}(ia:VS P a)(ib:VS P b):VS P (.cmp op a b p)∧TS P (.cmp op a b p):=by
 refine⟨λX s K Q E i ok h hp hQ=>?_,λX s K Q E i ok h hp hQ=>?_⟩
 ·exact wpAny_Compare1 (ia X s _ _ E i (ai ok) h hp λPQ OP x hx OQ OT=>ib X OP _ _ E i (ae ok) (h.k OQ) hx λQl OR y hy OU OY=>a6 hy λr hr hk=>
   (h.k (OQ.trans OU)).run (dy i.abH (h.k (OQ.trans OU)).R hr (OT.over ((h.k OQ).over OU)) OY λt tp=>hQ _ _ _ hk ((OQ.trans OU).to Kp0.toks tp) rfl)) (dQ P.T b)
 ·exact wpAny_isTrue_Compare1 (ia X s _ _ E i (ai ok) h hp λPQ OP x hx OQ OT=>ib X OP _ _ E i (ae ok) (h.k OQ) hx λQl OR y hy OU OY=>a6 hy λr hr hk=>
   (h.k (OQ.trans OU)).run (dy i.abH (h.k (OQ.trans OU)).R hr (OT.over ((h.k OQ).over OU)) OY λt tp=>wpAny_truthy_bool (qi (hQ _ hk) _ ((OQ.trans OU).to Kp0.toks tp)))) (dQ P.T b)
def EM{o o':Dz}{a b c:ME}(ia:VS P a)(ib:VS P b)(ic:VS P c):VS P (.abU o o' a b c p)∧TS P (.abU o o' a b c p):=by
 refine⟨λX s K Q E i ok h hp hQ=>?_,λX s K Q E i ok h hp hQ=>?_⟩
 ·refine Compare_chain (ia X s _ _ E i (ai ok) h hp λPQ OP x hx OQ OT=>chain_link (ib X OP _ _ E i (ai (ae ok)) (h.k OQ) hx λQl OR y hy OU OY=>a6 hy λr hr hk=>
   (h.k (OQ.trans OU)).run (dy i.abH (h.k (OQ.trans OU)).R hr (OT.over ((h.k OQ).over OU)) OY λt tp=>wpAny_truthy_bool ?_))) (dQ P.T c)
  have O3:Kp P.toCx X.g s {OR with toks:=t}:=(OQ.trans OU).to Kp0.toks tp;cases r
  ·exact hQ _ _ _ hk O3 rfl
  ·exact chain_last (ic X {OR with toks:=t} _ _ E i (ae (ae ok)) (h.k O3) hk λUx O0 z hz Pn Qs=>a6 hz λr' Si Ts=>
    (h.k (O3.trans Pn)).run (dy i.abH (h.k (O3.trans Pn)).R Si (OY.over ((h.k O3).over Pn)) Qs λt tp=>hQ _ _ _ Ts ((O3.trans Pn).to Kp0.toks tp) rfl))
 ·refine isTrue_chain (ia X s _ _ E i (ai ok) h hp λPQ OP x hx OQ OT=>test_link (ib X OP _ _ E i (ai (ae ok)) (h.k OQ) hx λQl OR y hy OU OY=>a6 hy λr hr hk=>
   (h.k (OQ.trans OU)).run (dy i.abH (h.k (OQ.trans OU)).R hr (OT.over ((h.k OQ).over OU)) OY λt tp=>wpAny_truthy_bool ?_))) (dQ P.T c)
  have O3:Kp P.toCx X.g s {OR with toks:=t}:=(OQ.trans OU).to Kp0.toks tp;cases r
  ·exact qi (hQ _ hk) _ O3
  ·exact test_last (ic X {OR with toks:=t} _ _ E i (ae (ae ok)) (h.k O3) hk λUx O0 z hz Pn Qs=>a6 hz λr' Si Ts=>
    (h.k (O3.trans Pn)).run (dy i.abH (h.k (O3.trans Pn)).R Si (OY.over ((h.k O3).over Pn)) Qs λt tp=>wpAny_truthy_bool (qi (hQ _ Ts) _ ((O3.trans Pn).to Kp0.toks tp))))
def Hl{a:ME}(ia:VS P a∧TS P a):VS P (.not a p)∧TS P (.not a p):=
 ⟨λX s K Q E i ok h hp hQ=>UnaryOp_ (ia.1 X s _ _ E i ok h hp λPQ OP x hx OQ OT=>a6 hx λr hr hk=>(h.k OQ).run (not_of (dJ (h.k OQ).R hr OT λt tp=>hQ _ _ _ hk (OQ.to Kp0.toks tp) rfl))),
  λX s K Q E i ok h hp hQ=>isTrue_not (ia.2 X s _ _ E i ok h hp λx hx=>a6 hx λr hr hk=>ak r hr (qi (hQ _ hk)))⟩
set_option tactic.hygienic true in
def fy(o:BoolOp)(x:Expr)(p:Pos):gV o x p=[x]∨∃y r,x=.BoolOp o (y::r) p∧gV o x p=y::r:=by
 cases x<;>try exact .inl rfl
 rename_i o' l q;have e:gV o (.BoolOp o' l q) p=if(o'==o&&q==p&&decide (2≤l.length))=true then l else[.BoolOp o' l q]:=rfl;rw[e];by_cases h:(o'==o&&q==p&&decide (2≤l.length))=true
 ·rw[N1 h];have hl:=NV (ae h);cases l with
  |nil=>exact absurd hl kD
  |cons y r=>exact .inr (fw y r (by rw[eq_of_beq (ai (ai h)),eq_of_beq (ae (ai h))]) rfl)
 ·exact .inl (NY h)
def H1{a b:ME}(ia:VS P a∧TS P a)(ib:VS P b∧TS P b):VS P (.and a b p)∧TS P (.and a b p):=by
 refine⟨λX s K Q E i ok h hp hQ=>?_,λX s K Q E i ok h hp hQ=>?_⟩
 ·show wpAny P.M X.A (eval (.BoolOp .And (aX P.T a::gV .And (aX P.T b) p) p) X.env) Q E s;have key:wpAny P.M X.A (eval (aX P.T a) X.env) (λv OP=>wpAny P.M X.A (truthy v) (λr OR=>if r=true then wpAny P.M X.A (eval (aX P.T b) X.env) Q E OR else Q v OR) E OP) E s:=
   ia.1 X s _ _ E i (ai ok) h hp λPQ OP x hx OQ OT=>a6 hx λr hr hk=>(h.k OQ).run (dJ (h.k OQ).R hr OT λt tp=>by
    have OU:Kp P.toCx X.g s {OP with toks:=t}:=OQ.to Kp0.toks tp;cases r
    ·exact hQ _ _ _ hk OU OT
    ·exact ib.1 X {OP with toks:=t} _ Q E i (ae ok) (h.k OU) hk λQc OX d hd O3 Pf=>hQ _ _ _ hd (OU.trans O3) Pf)
  rcases fy .And (aX P.T b) p with e | ⟨y,r,e,e2⟩
  ·rw[e];refine BoolOp_and (OH key (λv OP O9=>OH O9 (λr OR O4=>?_) λ_ _ e=>e) λ_ _ e=>e);cases r
   ·exact O4
   ·exact BoolOp_one O4
  ·rw[e2];rw[e] at key;exact BoolOp_and key
 ·show wpAny P.M X.A (isTrue (.BoolOp .And (aX P.T a::gV .And (aX P.T b) p) p) X.env (eval (.BoolOp .And (aX P.T a::gV .And (aX P.T b) p) p) X.env)) Q E s;have key:wpAny P.M X.A (isTrue (aX P.T a) X.env (eval (aX P.T a) X.env)) (λr OP=>if r=true then wpAny P.M X.A (isTrue (aX P.T b) X.env (eval (aX P.T b) X.env)) Q E OP else Q false OP) E s:=by
   refine ia.2 X s _ _ E i (ai ok) h hp λx hx=>a6 hx λr hr hk=>ak r hr (λOP OQ=>?_);cases r
   ·refine ay (hQ x hk) λb hb f=>?_;rw[hr] at hb;cases hb;exact f _ OQ
   ·exact ib.2 X OP K Q E i (ae ok) (h.k OQ) hk λd hd=>(hQ d hd).imp λb q=>⟨q.1,λOR OU=>q.2 _ (OQ.trans OU)⟩
  rcases fy .And (aX P.T b) p with e | ⟨y,r,e,e2⟩
  ·rw[e];refine isTrue_and (OH key (λr OP O9=>?_) λ_ _ e=>e);cases r
   ·exact O9
   ·refine isTrue_and (OH O9 (λr OR O4=>?_) λ_ _ e=>e);cases r
    ·exact O4
    ·exact isTrue_and_nil O4
  ·rw[e2];rw[e] at key;exact isTrue_and key
def LV{a b:ME}(ia:VS P a∧TS P a)(ib:VS P b∧TS P b):VS P (.or a b p)∧TS P (.or a b p):=by
 refine⟨λX s K Q E i ok h hp hQ=>?_,λX s K Q E i ok h hp hQ=>?_⟩
 ·show wpAny P.M X.A (eval (.BoolOp .Or (aX P.T a::gV .Or (aX P.T b) p) p) X.env) Q E s;have key:wpAny P.M X.A (eval (aX P.T a) X.env) (λv OP=>wpAny P.M X.A (truthy v) (λr OR=>if r=true then Q v OR else wpAny P.M X.A (eval (aX P.T b) X.env) Q E OR) E OP) E s:=
   ia.1 X s _ _ E i (ai ok) h hp λPQ OP x hx OQ OT=>a6 hx λr hr hk=>(h.k OQ).run (dJ (h.k OQ).R hr OT λt tp=>by
    have OU:Kp P.toCx X.g s {OP with toks:=t}:=OQ.to Kp0.toks tp;cases r
    ·exact ib.1 X {OP with toks:=t} _ Q E i (ae ok) (h.k OU) hk λQc OX d hd O3 Pf=>hQ _ _ _ hd (OU.trans O3) Pf
    ·exact hQ _ _ _ hk OU OT)
  rcases fy .Or (aX P.T b) p with e | ⟨y,r,e,e2⟩
  ·rw[e];refine BoolOp_or (OH key (λv OP O9=>OH O9 (λr OR O4=>?_) λ_ _ e=>e) λ_ _ e=>e);cases r
   ·exact BoolOp_one O4
   ·exact O4
  ·rw[e2];rw[e] at key;exact BoolOp_or key
 ·show wpAny P.M X.A (isTrue (.BoolOp .Or (aX P.T a::gV .Or (aX P.T b) p) p) X.env (eval (.BoolOp .Or (aX P.T a::gV .Or (aX P.T b) p) p) X.env)) Q E s;have key:wpAny P.M X.A (isTrue (aX P.T a) X.env (eval (aX P.T a) X.env)) (λr OP=>if r=true then Q true OP else wpAny P.M X.A (isTrue (aX P.T b) X.env (eval (aX P.T b) X.env)) Q E OP) E s:=by
   refine ia.2 X s _ _ E i (ai ok) h hp λx hx=>a6 hx λr hr hk=>ak r hr (λOP OQ=>?_);cases r
   ·exact ib.2 X OP K Q E i (ae ok) (h.k OQ) hk λd hd=>(hQ d hd).imp λb q=>⟨q.1,λOR OU=>q.2 _ (OQ.trans OU)⟩
   ·refine ay (hQ x hk) λb hb f=>?_;rw[hr] at hb;cases hb;exact f _ OQ
  rcases fy .Or (aX P.T b) p with e | ⟨y,r,e,e2⟩
  ·rw[e];refine isTrue_or (OH key (λr OP O9=>?_) λ_ _ e=>e);cases r
   ·refine isTrue_or (OH O9 (λr OR O4=>?_) λ_ _ e=>e);cases r
    ·exact isTrue_or_nil O4
    ·exact O4
   ·exact O9
  ·rw[e2];rw[e] at key;exact isTrue_or key
def Jt{t a b:ME}(it:TS P t)(ia:VS P a∧TS P a)(ib:VS P b∧TS P b):VS P (.ife t a b p)∧TS P (.ife t a b p):=by
 refine⟨λX s K Q E i ok h hp hQ=>?_,λX s K Q E i ok h hp hQ=>?_⟩
 ·refine IfExp_ (it X s _ _ E i (ai ok) h hp λx hx=>a6 hx λr hr hk=>ak r hr (λOP OQ=>?_));cases r
  ·exact ib.1 X OP _ Q E i (ae (ae ok)) (h.k OQ) hk λQc OX d hd O3 Pf=>hQ _ _ _ hd (OQ.trans O3) Pf
  ·exact ia.1 X OP _ Q E i (ai (ae ok)) (h.k OQ) hk λQc OX d hd O3 Pf=>hQ _ _ _ hd (OQ.trans O3) Pf
 ·refine isTrue_IfExp (it X s _ _ E i (ai ok) h hp λx hx=>a6 hx λr hr hk=>ak r hr (λOP OQ=>?_));cases r
  ·exact ib.2 X OP K Q E i (ae (ae ok)) (h.k OQ) hk λd hd=>(hQ d hd).imp λb q=>⟨q.1,λOR OU=>q.2 _ (OQ.trans OU)⟩
  ·exact ia.2 X OP K Q E i (ai (ae ok)) (h.k OQ) hk λd hd=>(hQ d hd).imp λb q=>⟨q.1,λOR OU=>q.2 _ (OQ.trans OU)⟩
def G9{a b:ME}(ia:VS P a)(ib:VS P b):VS P (.idx a b p)∧TS P (.idx a b p):=
 TS.plain (λX s K Q E i ok h hp hQ=>Subscript_ (ia X s _ _ E i (ai ok) h hp λPQ OP x hx OQ OT=>ib X OP _ _ E i (ae ok) (h.k OQ) hx λQl OR y hy OU OY=>a6 hy λd hd hk=>
  (h.k (OQ.trans OU)).run (tP (h.k (OQ.trans OU)).R hd (OT.over ((h.k OQ).over OU)) OY λQc t Pf tp=>hQ _ _ _ hk ((OQ.trans OU).to Kp0.toks tp) Pf))) λ_=>rfl
def DM{a b:ME}(ia:VS P a)(ib:VS P b):VS P (.abG a b q p)∧TS P (.abG a b q p):=by
 refine TS.plain (λX s K Q E i ok h hp hQ=>Subscript_ (ia X s _ _ E i (ai ok) h hp λPQ OP x hx OQ OT=>wpAny_Slice (wpAny_evalPart_none (wpAny_evalPart_some (ib X OP _ _ E i (ae ok) (h.k OQ) hx λQl OR y hy OU OY=>wpAny_evalPart_none (a6 hy λk hy hk=>a6 hk λd hd hk=>?_)))))) λ_=>rfl;obtain rfl:=PV.abr hy;refine a9 OY λu QU=>?_;obtain rfl:=QU;exact aW (h.k (OQ.trans OU)).tp (oA (h.k (OQ.trans OU)).T (h.k (OQ.trans OU)).R hd (OT.over ((h.k OQ).over OU)) λQc OX O3 Pf tp=>hQ _ _ _ hk ((OQ.trans OU).to O3 tp) Pf)
def xx{a b:ME}(ia:VS P a)(ib:VS P b):VS P (.abp a b q p)∧TS P (.abp a b q p):=by
 refine TS.plain (λX s K Q E i ok h hp hQ=>Subscript_ (ia X s _ _ E i (ai ok) h hp λPQ OP x hx OQ OT=>wpAny_Slice (wpAny_evalPart_some (ib X OP _ _ E i (ae ok) (h.k OQ) hx λQl OR y hy OU OY=>wpAny_evalPart_none (wpAny_evalPart_none (a6 hy λk hy hk=>a6 hk λd hd hk=>?_)))))) λ_=>rfl;obtain rfl:=PV.abr hy;refine a9 OY λu RB=>?_;obtain rfl:=RB;exact aW (h.k (OQ.trans OU)).tp (lv (h.k (OQ.trans OU)).T (h.k (OQ.trans OU)).R hd (OT.over ((h.k OQ).over OU)) λQc OX O3 Pf tp=>hQ _ _ _ hk ((OQ.trans OU).to O3 tp) Pf)
def G4{k:Nat}(ie:PS P es):VS P (.tup es k p)∧TS P (.tup es k p):=
 TS.plain (λX s K Q E i ok h hp hQ=>wpAny_Tuple_spliced (ie X p s _ _ E i ok h hp λvs OP ds hd OQ OT=>⟨by rw[OT.length];exact aO (bk hd),hQ _ _ _ (aY hd) (OQ.to Kp0.abu OQ.tp) (abb.newTuple (h.k OQ).T OT)⟩)) λ_=>rfl
def G'(ie:PS P es):VS P (.lst es p)∧TS P (.lst es p):=
 TS.plain (λX s K Q E i ok h hp hQ=>wpAny_List_spliced (ie X p s _ _ E i ok h hp λvs OP ds hd OQ OT=>⟨by rw[OT.length];exact aO (bk hd),hQ _ _ _ (aY hd) (OQ.to Kp0.abu OQ.tp) (abb.newList (h.k OQ).T OT)⟩)) λ_=>rfl
def Cs:PS P .nil∧Eg P .nil:=
 ⟨λX pos s K Q E i ok h hp hQ=>spliced_nil (hQ _ _ _ hp h.refl rfl),λX s K Q E i ok h hp hQ=>wpAny_tests_nil (hQ _ _ hp h.refl)⟩
def rQ{A:Around}(env:Env):∀(xs:List Expr){Q:Bool→Shared→Prop},Q false s→wpAny P.M A (forIn xs false λc r=>if r=true then do let ok ← isTrue c env (eval c env);pure (ForInStep.yield ok) else pure (ForInStep.yield r)) Q E s:=by
 intro xs;induction xs with
 |nil=>
  intro _ h;exact NQ h
 |cons x xs ihr=>
  intro _ h;rw[List.forIn_cons];simp only[Bool.false_eq_true,if_false];exact NN (NQ (ihr h))
def vM{a:ME}(ia:VS P a∧TS P a)(ie:PS P es∧Eg P es):PS P (.cons a es)∧Eg P (.cons a es):=by
 refine⟨λX pos s K Q E i ok h hp hQ=>?_,λX s K Q E i ok h hp hQ=>?_⟩
 ·show wpAny P.M X.A (spliced (cm X.env pos (aX P.T a::b8 P.T es))) Q E s;rw[bM];exact spliced_cons (ia.1 X s _ _ E i (ai ok) h hp λPQ OP x hx OQ OT=>ie.1 X pos OP _ _ E i (ae ok) (h.k OQ) hx λvs OR ds hd OU OY=>hQ _ _ _ hd (OQ.trans OU) (aN _ _ rfl (OT.over ((h.k OQ).over OU)) OY))
 ·show wpAny P.M X.A (forIn (aX P.T a::b8 P.T es) true _) Q E s;rw[List.forIn_cons];simp only[if_true];refine NN (NN (ia.2 X s _ _ E i (ai ok) h hp λx hx=>a6 hx λr hr hk=>ak r hr (λOP OQ=>NQ ?_)));cases r
  ·exact rQ _ _ (hQ _ _ hk OQ)
  ·exact ie.2 X OP _ Q E i (ae ok) (h.k OQ) hk λb OR hb OU=>hQ _ _ hb (OQ.trans OU)
end
end
section
def Fn(hC:ah P.toCx P.n P.C)(ie:PS P es):VS P (.call x q es p)∧TS P (.call x q es p):=by
 exact TS.plain (λX s K Q E i ok h hp hQ=>a9 (hC.f x (bk hp)) λa c=>aP c.o λo fd ho Tr=>wpAny_Call_Name_kw (bC.name c.gn i (ai ok) h.W (callWith_function (bo (bb P.T es) (ie X p s _ _ E i (ae ok) h (aY hp) λvs OP ds hd OQ OT=>⟨⟨((h.k OQ).W _ _ c.nt ho).1,Tr⟩,hd.elim λd hd=>c.f ds d hd.1 X.A X.g OP vs Q E i.room (h.k OQ).wl OT λv OR OU OY=>hQ _ _ _ hd.2 (OQ.trans OU) OY⟩))))) λ_=>rfl
def Cy(hC:ah P.toCx P.n P.C){kw:Str}{kp:Pos}(ie:PS P es)(iu:VS P e):VS P (.abz x q es kw e kp p)∧TS P (.abz x q es kw e kp p):=by
 refine TS.plain (λX s K Q E i ok h hp hQ=>a9 (hC.f x (bk hp)) λa c=>aP c.o λo fd ho Tr=>wpAny_Call_Name_kw (bC.name c.gn i (ai ok) h.W (callWith_function_kw (o:=o) (fd:=fd) (mD (bb P.T es) rfl (ie X p s _ _ E i (ai (ae ok)) h (aY hp) λvs OP ds hd OQ OT=>wpAny_evalAll_cons (NN (iu X OP _ _ E i (ae (ae ok)) (h.k OQ) hd λw OR u hu OU OY=>NN (ON (NQ (wpAny_evalAll_nil ?_)))))))))) λ_=>rfl;have O3:=OQ.trans OU;exact⟨⟨((h.k O3).W _ _ c.nt ho).1,Tr⟩,hu.elim λd hd=>c.k kw ds u d hd.1 X.A X.g OR vs w Q E i.room (h.k O3).wl (OT.over ((h.k OQ).over OU)) OY λv OX Pn Pf=>hQ _ _ _ hd.2 (O3.trans Pn) Pf⟩
def Le(hC:ah P.toCx P.n P.C){b:Bi}(ie:PS P es):VS P (.bi b q es p)∧TS P (.bi b q es p):=by
 exact TS.plain (λX s K Q E i ok h hp hQ=>wpAny_Call_Name_kw (bC.name (hC.bi b) i (ai ok) h.W (dL b.kind (d8 (bb P.T (env:=X.env) (pos:=p) es)) (bo (bb P.T (env:=X.env) (pos:=p) es) (ie X p s _ _ E i (ae ok) h hp λvs OP ds hd OQ OT=>a6 hd λd hd hk=>(h.k OQ).run (td i.handled (h.k OQ).T (h.k OQ).R hd OT λv OR OU OY tp=>hQ _ _ _ hk (OQ.to OU tp) OY)))))) λ_=>rfl
theorem ch{M:Model}{A:Around}{o:Expr}{m:Str}{l:List Expr}(hc:gH o=true)(hl:l.length<30)(hn:(ap.endLine==p.line)=true)(hp:(cm env p l).all (λx=>!x.1)=true)(h:wpAny M A (eval o env) (λv OP=>∀pl,wpAny M A (getMethod v m pl) (λr OR=>∃id,r=(.builtin id,[v])∧wpAny M A (spliced (cm env p l)) (λvs OX=>wpAny M A (call (.builtin id) (v::vs)) Q E OX) E OR) E OP) E s):
  wpAny M A (eval (.Call (.Attribute o m ap) l [] p) env) Q E s:=by
 rw[arm_eval_Call,d5 hc];refine NN (OH h (λv OP O9=>NN (ON ?_)) λ_ _ e=>e);have Q2:methodCallForm (l.length+([]:List Keyword).length) (backTo p (starEach l env)) (backToKw p (keywordEach [] env))=true:=by
  unfold methodCallForm;rw[Bool.and_eq_true,Bool.and_eq_true];exact⟨⟨hp,rfl⟩,N0 hl⟩
 have RU:methodCallPos true o env ap p=pure p:=by unfold methodCallPos;simp[hn]
 unfold methodCall;rw[Q2];refine NN (Om (OH (O9 _) (λr OR O4=>?_) λ_ _ e=>e));obtain⟨id,rfl,O4⟩:=O4;exact NN (Oo RU (callWith_builtin (d8 hp) (bo hp O4)))
def Jh{m:zL}{o:ME}(io:VS P o)(ie:PS P es):VS P (.mth m o ap es p)∧TS P (.mth m o ap es p):=by
 refine TS.plain (λX s K Q E i ok h hp hQ=>ch (ai ok) (by rw[jL];exact NV (ai (ae ok))) (ai (ae (ae ok))) (bb P.T es) ?_) λ_=>rfl;have QJ:=ae (ae (ae ok));refine io X s _ _ E i (ai QJ) h hp λv OP x hx OQ OT pl=>Ff (bk hx) (h.k OQ).R OT (ak _ rfl (ie X p OP _ _ E i (ae QJ) (h.k OQ) (aY hx) λvs OR ds hd OU OY=>a6 hd λd hd hk=>?_));have O3:=OQ.trans OU;exact(h.k O3).run (BR hd (h.k O3).T (h.k O3).R (OT.over ((h.k OQ).over OU)) OY λv OX Pn Pf tp=>hQ _ _ _ hk (O3.to Pn tp) Pf)
def Dn{o:ME}{y z:Str}{p1 p2 p:Pos}(io:VS P o):VS P (.abm o ap y z p1 p2 p)∧TS P (.abm o ap y z p1 p2 p):=by
 refine TS.plain (λX s K Q E i ok h hp hQ=>ch (ai ok) (by show 2<30;decide) (ai (ae ok)) rfl (io X s _ _ E i (ae (ae ok)) h hp λv OP d hd OQ OT pl=>a6 hd λx hx hk=>?_)) λ_=>rfl;obtain rfl:=PV.abg hx;refine a9 OT λt Pt=>?_;obtain rfl:=Pt;refine GM.replace (ak _ rfl ?_);show wpAny P.M X.A (spliced [(false,eval (.Constant (.str y) 0 p1) X.env),(false,eval (.Constant (.str z) 0 p2) X.env)]) _ E OP;have hf:=bk hk;have hz:=NV (ai (ae hf));have hx:=dq (ai hf);refine spliced_cons (Constant_str (spliced_cons (Constant_str (spliced_nil ?_))));have h1:=(h.k OQ).tp;exact aW (s:={OP with toks:=OP.toks+1+1}) (Nat.succ_pos _) (SC.replace (y:=y) (z:=z) (Nat.pos_iff_ne_zero.mp h1) (Nat.succ_ne_zero _) (Nat.ne_of_lt (Nat.lt_succ_self _)) (by simpa using ae (ae hf)) (NT (Nat.add_le_add hx (NT (Nat.mul_le_mul_left _ hz) (N9 14 (Nat.succ_le_succ hx)))) kD) λt' k tp=>hQ _ _ _ (aY hk) (OQ.to Kp0.toks tp) ⟨_,rfl⟩)
def Lv(hC:ah P.toCx P.n P.C){m:Str}(ie:PS P es):VS P (.rx x m q ap es p)∧TS P (.rx x m q ap es p):=by
 exact TS.plain (λX s K Q E i ok h hp hQ=>ce (hC.x x m (bk hp)) λv id c=>ch (o:=.Name x q) rfl (by rw[jL];exact NV (ai (ae ok))) (ai (ae (ae ok))) (bb P.T es) (bC.name c.gn i (ai ok) h.W λpl=>c.get _ X.g _ _ _ _ h.W (ak _ rfl (ie X p s _ _ E i (ae (ae (ae ok))) h (aY hp) λvs OP ds hd OQ OT=>hd.elim λd hd=>c.f ds d hd.1 X.A X.g OP vs Q E i.room (h.k OQ).wl OT λv OR OU OY=>hQ _ _ _ hd.2 (OQ.trans OU) OY)))) λ_=>rfl
def Dt(hC:ah P.toCx P.n P.C){cd:Addr×Str}(ie:VS P e):VS P (.abR x q ap lam cd e p)∧TS P (.abR x q ap lam cd e p):=by
 refine TS.plain (λX s K Q E i ok h hp hQ=>ce (hC.s x lam cd hp.1) λv id R3=>a9 R3 λL c=>?_) λ_=>rfl;have ht:cm X.env p [lam,aX P.T e]=[(false,eval lam X.env),(false,eval (aX P.T e) X.env)]:=by rw[c.tree];exact N2 _ (bM P.T e (l:=[]))
 refine ch (o:=.Name x q) rfl (by show 2<30;decide) (ai (ae ok)) (by rw[ht];rfl) (bC.name c.gn i (ai ok) h.W λpl=>c.get _ X.g _ _ _ _ h.W (ak _ rfl ?_));rw[ht];have Q0:=eq_of_beq (ai (ae (ae ok)));refine spliced_cons (c.ev X i Q0 s _ E h.wl λf OP OQ l₁=>spliced_cons (ie X OP _ _ E i (ae (ae (ae ok))) (h.k OQ) hp.2 λu OR y hy OU OY=>spliced_nil (hy.elim λd hd=>?_)));have O3:=OQ.trans OU;exact c.f y d hd.1 X.A X.g OR f u Q E i.room (h.k O3).wl (c.over _ _ _ _ _ l₁ ((h.k OQ).over OU)) OY λv OX Pn Pf=>hQ _ _ _ hd.2 (O3.trans Pn) Pf
end
def ox(ns:kF)(env:Env)(b:Addr):Prop:=b=env.locals∨∃x,ns.lookup x=some .cell∧env.cells.lookup x=some b
structure Fm(X:Rt)(h:Heap):Prop where
 z:∀b,ox X.ns X.env b→X.g.Z b
 w:∀b,ox X.ns X.env b→¬X.g.W b
 dict:∃m,h.Ns X.env.locals m
 cells:∀x c,X.ns.lookup x=some .cell→X.env.cells.lookup x=some c→∃v,h.IsCell c v
 apart:∀x y c,X.ns.lookup x=some .cell→X.env.cells.lookup x=some c→X.env.cells.lookup y=some c→y=x
def Fm.keeps(F:Fm X h)(k:∀b o,ox X.ns X.env b→h.get? b=some o→h'.get? b=some o):Fm X h':=
 ⟨F.z,F.w,F.dict.imp λm x=>fh x (k _ · (.inl rfl)),λx c h1 h2=>(F.cells x c h1 h2).imp λv y=>wv y (k _ · (.inr (ak x h1 h2))),F.apart⟩
def Fm.nf(F:Fm X h){b:Addr}(hb:ox X.ns X.env b):∃o,h.get? b=some o∧∀vs,o.data≠.fields vs:=by
 rcases hb with rfl | ⟨x,h1,h2⟩
 ·refine bl F.dict λm o _ _ e QV=>?_;refine aU QV λq _=>ak o e (λvs r=>by rw[q] at r;cases r)
 ·refine aP (F.cells x b h1 h2) λv o e q=>ak o e (λvs r=>by rw[q] at r;cases r)
def Fm.ex(F:Fm X h){b:Addr}(hb:ox X.ns X.env b):∃o,h.get? b=some o:=by
 rcases hb with rfl | ⟨x,h1,h2⟩
 ·refine bl F.dict λm o _ _ e _=>⟨o,e⟩
 ·refine aP (F.cells x b h1 h2) λv o e _=>⟨o,e⟩
def zZ{T:List Str}(h:i<T.length):nm T i=T[i]:=by
 unfold nm;rw[OA,Oz h];rfl
def H6{T:List Str}(hn:T.Nodup)(hi:i<T.length)(hj:j<T.length)(e:nm T i=nm T j):i=j:=
 (List.getElem_inj hn).mp (by rw[← zZ hi,← zZ hj];exact e)
def iy(F:g.Z a)(k:∀b o,b≠a→h.get? b=some o→h'.get? b=some o):aC g g h h':=
 ⟨λb o z e=>⟨z,k b o (λq=>z (q▸F)) e⟩,λ_ _ e=>e⟩
section
structure St(P:Pk)(X:Rt)(s s':Shared)(l':Loc):Prop where
 same:∃h tk,s'={s with heap:=h,toks:=tk}
 abc:∀b o,¬ox X.ns X.env b→s.heap.get? b=some o→s'.heap.get? b=some o
 ex:∀b,(∃o,s.heap.get? b=some o)→∃o,s'.heap.get? b=some o
 fm:Fm X s'.heap
 L:qB P.T X.g s'.heap X.env l'
 tp:0<s'.toks
def cF{A:Around}{v:Value}{Q:Unit→Shared→Prop}(K:In P.n X)(F:Fm X s.heap)(L:qB P.T X.g s.heap X.env X.l)(OZ:P.T.Nodup)(hi:i<P.T.length)(hx:gE X.ns (nm P.T i)=true)(tp:0<s.toks)(r:abb X.g s.heap d v)(hQ:∀s',St P X s s' (upd X.l i d)→Q () s'):wpAny P.M A (storeName X.env (nm P.T i) v) Q E s:=by
 refine a9 F.dict λm hm=>?_;have step:∀{a:Addr}{s':Shared},(∃h tk,s'={s with heap:=h,toks:=tk})→X.g.Z a→ox X.ns X.env a→(∃o,s'.heap.get? a=some o)→(∀b o,b≠a→s.heap.get? b=some o→s'.heap.get? b=some o)→Fm X s'.heap→ff s'.heap X.env (nm P.T i) v →
   (∀n u,n≠nm P.T i→ff s.heap X.env n u→ff s'.heap X.env n u)→0<s'.toks→Q () s':=λ{a s'} hs z ho hex k F' hv hk tp=>by
  have G:=iy z k;refine hQ s' ⟨hs,λb o hb e=>k b o (λq=>hb (q▸ho)) e,λb hb=>?_,F',λj e hj=>?_,tp⟩
  ·by_cases q:b=a
   ·subst q;exact hex
   ·exact hb.imp λo e=>k b o q e
  ·unfold upd at hj;split at hj
   ·rename_i WW;cases hj;subst WW;exact dC hi v (r.over G) hv
   ·rename_i WW;exact j7 (L j e hj) λhl u b c=>dC hl u (b.over G) (hk _ u (λq=>WW (H6 OZ hl hi q)) c)
 rcases On.mp (ai hx) with hx | hx<;>have hx:=Ol.mp hx
 ·refine wpAny_storeName_local (K.loc _ hx) hm (λh' Sg P3=>?_) (by rw[K.kind];rfl);have k:∀b o,b≠X.env.locals→s.heap.get? b=some o→h'.get? b=some o:=λb o hb e=>P3.extBut b o hb e;have kc:∀c v,s.heap.IsCell c v→h'.IsCell c v:=λc v z=>z.sameBut P3 λq=>by subst q;exact iB hm z
  refine step (aG _ _ rfl) (F.z _ (.inl rfl)) (.inl rfl) (Sg.elim λo h=>h.elim λ_ h=>h.elim λ_ h=>⟨o,h.1⟩) k ⟨F.z,F.w,⟨_,Sg⟩,λy c h1 h2=>(F.cells y c h1 h2).imp λv hv=>kc c v hv,F.apart⟩ (.inl (dC (K.loc _ hx) _ Sg (by simp))) (λn u PH c=>?_) (OC tp (by simp));rcases c with ⟨c1,m',c2,c3⟩ | ⟨c1,c,c2,c3⟩
  ·refine .inl ⟨c1,_,Sg,?_⟩;rw[NY PH];refine cD hm λo es ep e hd _ hf=>cD c2 λo' es' PW e' QP _ ZV=>?_;rw[e] at e';cases e';rw[hd] at QP;cases QP;rw[← hf,ZV];exact c3
  ·exact .inr (dC c1 c c2 (kc _ _ c3))
 ·refine a9 (Option.isSome_iff_exists.mp (K.cel _ (.inl hx)).2) λc hc=>a9 (F.cells _ c hx hc) λSS TQ=>wpAny_storeName_cell K.kind (K.hkc _ hx) hc TQ λh' Tp P3=>?_;have k:∀b o,b≠c→s.heap.get? b=some o→h'.get? b=some o:=λb o hb e=>P3.extBut b o hb e;have YT:X.env.locals≠c:=λq=>by subst q;exact iB hm TQ
  refine step (aG _ s.toks rfl) (F.z _ (.inr (ak _ hx hc))) (.inr (ak _ hx hc)) (Tp.elim λo h=>⟨o,h.1⟩) k ⟨F.z,F.w,⟨_,hm.sameBut P3 YT⟩,λy c' h1 h2=>?_,F.apart⟩ (.inr (dC (.inl (K.hkc _ hx)) c hc Tp)) (λn u PH cc=>?_) tp
  ·by_cases q:c'=c
   ·subst q;exact⟨_,Tp⟩
   ·exact(F.cells y c' h1 h2).imp λv hv=>hv.sameBut P3 q
  ·rcases cc with ⟨c1,m',c2,c3⟩ | ⟨c1,c',c2,c3⟩
   ·exact .inl (dC c1 m' (c2.sameBut P3 YT) c3)
   ·exact .inr (dC c1 c' c2 (c3.sameBut P3 λq=>by subst q;exact PH (F.apart _ _ _ hx hc c2)))
def jT{T:List Str}{ns:kF}{t:Tg}(h:lu T ns t=true)(hi:i∈t.slots):i<T.length∧gE ns (nm T i)=true:=
 have q:=Ob.mp (ai h) i hi
 ⟨NV (ai q),ae q⟩
def yp{w:World}{A:Around}{it l:Addr}{items:Array Value}(PH:l≠it):∀(n i:Nat)(s:Shared)(Q:List Value→Shared→Prop),s.heap.IsListIter it l i→s.heap.IsList l items→i+n≤items.size →
  (∀h',h'.IsListIter it l (i+n)→Heap.SameBut it s.heap h'→Q ((items.toList.drop i).take n) {s with heap:=h'})→wpAny (model prog w) A (draw (.ref it) n) Q E s:=by
 intro n;induction n with
 |zero=>
  intro i s Q hit _ _ hQ;show wpAny _ _ (pure []) Q E s;exact NQ (by simpa using hQ s.heap hit (Heap.SameBut.refl ..))
 |succ n ihr=>
  intro i s Q hit ht Q3 hQ;have Po:i<items.size:=by exact a8 Q3
  show wpAny _ _ (pyNext (.ref it)>>=_) Q E s;refine NN (wpAny_pyNext_list_item hit ht (x:=items[i]) (by simp[Po]) λO9 Rk Qy=>NN (Om (ihr (i+1) _ _ Rk (ht.extBut Qy.extBut PH) (by exact a8 Q3) λO4 Um SF=>NQ ?_)));have hd:items.toList.drop i=items[i]::items.toList.drop (i+1):=by simp[List.drop_eq_getElem_cons,Po]
  have:=hQ O4 (by rw[show i+(n+1)=i+1+n by exact dG];exact Um) (Qy.trans SF);rw[hd,List.take_succ_cons] at this;exact this
def jK{w:World}{A:Around}{x1}{l:Addr}{items:Array Value}{Q:Unit→Shared→Prop}(hh:A.handled=none)(hl:s.heap.IsList l items)(hn:(assignEach RN env).length=items.size)(hstar:(assignEach RN env).findIdx? (·.1)=none)(h:∀h',Heap.ExtBut s.heap.objs.size s.heap h'→wpAny (model prog w) A (assignInOrder ((assignEach RN env).map (·.2)) items.toList) Q E {s with heap:=h'}):
  wpAny (model prog w) A (assign (.Tuple RN x1 pos) env (.ref l)) Q E s:=by
 have Po:l≠s.heap.objs.size:=by refine ay hl λo ho _=>Nat.ne_of_lt (Heap.lt_size ho)
 rw[arm_assign_Tuple];refine NN (ON ?_);unfold unpack;rw[hn,hstar];refine NN (Om ?_);unfold unpackItems notIterableAtAll;refine NN (NN (wpAny_specialOf hl.typeIs F.slot_list_iter.lookup (NQ ?_)));simp only[Bool.false_eq_true,if_false];refine NN (Om (wpAny_pyIter_list hl (NN (Om (yp Po items.size 0 _ _ (aV _ (NZ _ rfl) rfl rfl) (hl.push _) (by exact eQ) λO9 Rk Qy=>?_)))));have QM:List.take items.size (List.drop 0 items.toList)=items.toList:=by
  rw[List.drop_zero];exact List.take_of_length_le (by simp)
 rw[QM,NY (by simp)];have VB:O9.IsList l items:=(hl.push _).extBut Qy.extBut Po;refine NN (Om (wpAny_pyNext_list_end hh Rk VB (by simp) λO4 Vo=>?_));simp only[Option.isSome_none,Bool.false_eq_true,if_false];exact NQ (h O4 λb o hb e=>Vo b o hb (Qy.extBut b o hb (NS _ e)))
def iT{t:Tg}{v:Value}{Q:Unit→Shared→Prop}(K:In P.n X)(hm:lu P.T X.ns t=true)(F:Fm X s.heap)(L:qB P.T X.g s.heap X.env X.l)(OZ:P.T.Nodup)(tp:0<s.toks)(ht:gP t X.l d=some l')(r:abb X.g s.heap d v)(hQ:∀s',St P X s s' l'→Q () s'):wpAny P.M X.A (assign (db P.T t) X.env v) Q E s:=by
 cases t with
 |one i p=>
  cases ht;exact aU (jT hm (i:=i) (by simp[Tg.slots])) λh1 h2=>wpAny_assign_Name (cF K F L OZ h1 h2 tp r hQ)
 |two i j pi pj k p=>
  refine ay (N8.mp ht) λx hx O8=>?_;obtain rfl:=O8;obtain⟨ta,va,vb,rfl,e,ra,rb⟩:∃ta va vb,v=.ref ta∧(s.heap.IsTuple ta #[va,vb]∨s.heap.IsList ta #[va,vb])∧abb X.g s.heap x.1 va∧abb X.g s.heap x.2 vb:=by
   rcases xA hx with rfl | rfl
   ·refine a5 r λta vs n PA QW=>?_;obtain rfl:=PA;refine cT QW λz e va _ P2 UO=>?_;obtain rfl:=P2;refine aU UO λra Q7=>aP Q7 λvb _ Pm UP=>?_;obtain rfl:=Pm;refine aU UP λrb PY=>?_;obtain rfl:=PY;exact aH ta va vb rfl (.inl (bS _ e rfl n rfl)) ra rb
   ·refine a5 r λta vs n QS S5=>?_;obtain rfl:=QS;refine cT S5 λz e va _ Rw S6=>?_;obtain rfl:=Rw;refine aU S6 λra X0=>aP X0 λvb _ Ry RE=>?_;obtain rfl:=Ry;refine aU RE λrb QT=>?_;obtain rfl:=QT;exact aH ta va vb rfl (.inr (bS _ e rfl n rfl)) ra rb
  refine aU (jT hm (i:=i) (by simp[Tg.slots])) λh1 h2=>aU (jT hm (i:=j) (by simp[Tg.slots])) λh3 h4=>?_;have go:∀{Q:Unit→Shared→Prop},(∀h',Heap.ExtBut s.heap.objs.size s.heap h'→wpAny P.M X.A (assignInOrder ((assignEach [.Name (nm P.T i) pi,.Name (nm P.T j) pj] X.env).map (·.2)) [va,vb]) Q E {s with heap:=h'})→wpAny P.M X.A (assign (db P.T (.two i j pi pj k p)) X.env (.ref ta)) Q E s:=λh=>
   e.elim (λe=>assign_Tuple_tuple K.handled (items:=#[va,vb]) e rfl rfl h) λe=>jK K.handled (items:=#[va,vb]) e rfl rfl h
  refine go λh' he=>?_;have k:∀b o,s.heap.get? b=some o→h'.get? b=some o:=λb o e=>he b o (Nat.ne_of_lt (Heap.lt_size e)) e;refine assignInOrder_cons (wpAny_assign_Name (cF (s:={s with heap:=h'}) K (F.keeps λb o _=>k b o) (L.over (.of k) λ_ _ x=>x.keeps k) OZ h1 h2 tp (ra.over (.of k)) λOP Qv=>?_));have ov:aC X.g X.g h' OP.heap:=⟨λb o z e=>⟨z,Qv.abc b o (λq=>z (F.z b q)) e⟩,λ_ _ e=>e⟩;refine assignInOrder_cons (wpAny_assign_Name (cF (X:={X with l:=upd X.l i x.1}) ⟨K.handled,K.depth,K.units,K.kind,K.globals,K.builtins,K.glob,K.loc,K.cel,K.hkc,K.code⟩ ⟨Qv.fm.z,Qv.fm.w,Qv.fm.dict,Qv.fm.cells,Qv.fm.apart⟩ Qv.L OZ h3 h4 Qv.tp ((rb.over (.of k)).over ov) λOR Qq=>assignInOrder_nil (hQ OR ⟨ce Qv.same λO9 t₁ SW=>?_,λb o hb e=>Qq.abc b o hb (Qv.abc b o hb (k b o e)),λb hb=>Qq.ex b (Qv.ex b (hb.imp λo=>k b o)),⟨Qq.fm.z,Qq.fm.w,Qq.fm.dict,Qq.fm.cells,Qq.fm.apart⟩,Qq.L,Qq.tp⟩)));obtain rfl:=SW;refine ce Qq.same λO4 t₂ QH=>?_;obtain rfl:=QH;exact aG O4 t₂ rfl
end
def cU(h:Heap)(a:Addr):Prop:=(∀m,¬h.Ns a m)∧∀v,¬h.IsCell a v
theorem cU.fields{o:Obj}{vs:Array Value}(e:h.get? a=some o)(d:o.data=.fields vs):cU h a:=
 ⟨λm h=>h.elim λo' h=>h.elim λes h=>h.elim λep h=>(by cases d.symm.trans ((N2 Obj.data (NW (e.symm.trans h.1))).trans h.2.1)),λv h=>h.elim λo' h=>(by cases d.symm.trans ((N2 Obj.data (NW (e.symm.trans h.1))).trans h.2))⟩
theorem cU.seq{o:Obj}{vs:Array Value}(e:h.get? a=some o)(d:o.data=.seq vs n):cU h a:=
 ⟨λm h=>h.elim λo' h=>h.elim λes h=>h.elim λep h=>(by cases d.symm.trans ((N2 Obj.data (NW (e.symm.trans h.1))).trans h.2.1)),λv h=>h.elim λo' h=>(by cases d.symm.trans ((N2 Obj.data (NW (e.symm.trans h.1))).trans h.2))⟩
theorem Cx.TI.over(x:S.TI g h)(o:∀a o,¬g.Z a→h.get? a=some o→¬g'.Z a∧h'.get? a=some o)(k:∀b o,S.T b→h.get? b=some o→h'.get? b=some o):S.TI g' h':=
 λt m=>(x t m).over o λob=>k _ ob (ak t m rfl)
section
def At.abe(a:At P X s){b:Addr}(h:(∃m,s.heap.Ns b m)∨∃v,s.heap.IsCell b v):¬P.toCx.T b:=λt=>(a.tab t).elim λvs y=>h.elim (λ⟨m,x⟩=>jg x y) λ⟨v,x⟩=>gO x y rfl
theorem Fm.abe(F:Fm X s.heap)(a:At P X s){b:Addr}(o:ox X.ns X.env b):¬P.toCx.T b:=by
 rcases o with rfl | ⟨x,h1,h2⟩
 ·exact a.abe (.inl F.dict)
 ·exact a.abe (.inr (F.cells x b h1 h2))
def At.change(a:At P X s){c:Addr}(z:X.g.Z c)(nw:¬X.g.W c)(nt:¬P.toCx.T c)(nv:cU s.heap c)(ex:∃o,h'.get? c=some o)(k:∀b o,b≠c→s.heap.get? b=some o→h'.get? b=some o)(tp:0<tk):At P X {s with heap:=h',toks:=tk}:=by
 have O:=iy z k;refine⟨λb zb=>?_,a.R.over O rfl (λ_ z=>z) λb o w e=>k b o (λq=>nw (q▸w)) e,a.W.over O,a.L.over O λn v x=>x.at (λm hm o e=>k _ o (λq=>nv.1 m (q▸hm)) e) λb u hb o e=>k _ o (λq=>nv.2 _ (q▸hb)) e,a.I.over O.obj λb o t e=>k b o (λq=>nt (q▸t)) e,tp,a.tz⟩;by_cases q:b=c
 ·subst q;exact ex
 ·exact(a.T b zb).imp λo e=>k b o q e
def At.st(a:At P X s)(F:Fm X s.heap)(S:St P X s s' l'):At P {X with l:=l'} s':=by
 have O:aC X.g X.g s.heap s'.heap:=⟨λb o z e=>⟨z,S.abc b o (λq=>z (F.z b q)) e⟩,λ_ _ e=>e⟩;exact⟨λb z=>S.ex b (a.T b z),a.R.over O rfl (λ_ z=>z) λb o w e=>S.abc b o (λq=>F.w b q w) e,a.W.over O,S.L,a.I.over O.obj λb o t e=>S.abc b o (λq=>F.abe a q t) e,S.tp,a.tz⟩
noncomputable def Gh.plus(g:Gh)(P:Addr→Prop):Gh:=⟨λa=>g.Z a∨P a,g.W,g.ad,λa h=>.inl (g.sub a h)⟩
def pC{P:Addr→Prop}(hP:∀a,P a→h.get? a=none)(k:∀b o,h.get? b=some o→h'.get? b=some o):aC g (g.plus P) h h':=
 ⟨λa o z e=>⟨λq=>q.elim z λp=>c8 ⟨o,e⟩ (hP a p),k a o e⟩,λ_ _ e=>e⟩
def gx{P:Addr→Prop}(k:∀b o,¬P b→h.get? b=some o→h'.get? b=some o):aC (g.plus P) g h h':=
 ⟨λa o z e=>⟨λq=>z (.inl q),k a o (λq=>z (.inr q)) e⟩,λ_ _ e=>e⟩
theorem At.plus(a:At P X s)(hN:∀a,N a→s.heap.get? a=none)(WL:∀a,N a→∃o,h'.get? a=some o)(k:∀b o,s.heap.get? b=some o→h'.get? b=some o)(tp:0<tk):
  At P {X with g:=X.g.plus N} {s with heap:=h',toks:=tk}:=
 have O:=pC (g:=X.g) hN k
 ⟨λb z=>z.elim (λz=>(a.T b z).imp λo e=>k b o e) (WL b),a.R.over O rfl (λ_ z=>z) λb o w e=>k b o e,a.W.over O,a.L.over O λn v x=>x.keeps k,a.I.over O.obj λb o _ e=>k b o e,tp,λb t=>⟨.inl (a.tz b t).1,(a.tz b t).2⟩⟩
end
set_option backward.match.sparseCases true in
def jG{M:Model}{A:Around}{t:Expr}{v:Value}{Q:Unit→Shared→Prop}{o:Obj}{T:String}(ho:s.heap.get? I=some o)(hc:o.cls=.type T)(hT:wy T=false)(h:Q () s):
  wpAny M A (letOwnedTupleGo t (.ref I) v) Q E s:=by
 have key:wpAny M A (do
   let (.ref r,.ref a):=((.ref I,v):Value×Value) | return
   let o ← load r
   match o.cls,o.data with
   |.type n,.fields vs=>
    if["enumerate","zip","dict_itemiterator","dict_reverseitemiterator","odict_iterator","itertools.zip_longest","itertools.pairwise"].contains n&&vs[0]?==some (rawInt a) then
     rule "for.unpacks-the-owned-tuple"
     updateField r 0 .none
   |_,_=>pure ():Sem Unit) Q E s:=by
  cases v with
  |ref a=>
   refine NN (wpAny_load ho ?_);rw[hc];cases o.data with
   |fields vs=>
    have:(["enumerate","zip","dict_itemiterator","dict_reverseitemiterator","odict_iterator","itertools.zip_longest","itertools.pairwise"].contains T)=false:=hT;simp only[this,Bool.false_and,Bool.false_eq_true,if_false];exact NQ h
   |_=>exact NQ h
  |_=>exact NQ h
 unfold letOwnedTupleGo;cases t with
 |Tuple=>exact key
 |List=>exact key
 |_=>exact NQ h
noncomputable def clF(env:Env):kF→List (Str×Addr)→List (Str×Addr)
 |[],acc=>acc
 |(n,k)::r,acc=>if k==.free then clF env r ((n,(env.cells.lookup n).getD 0)::acc) else clF env r acc
def zN{n:Str}{k:NameKind}{r:kF}{acc:List (Str×Addr)}:clF env ((n,k)::r) acc=if k==.free then clF env r ((n,(env.cells.lookup n).getD 0)::acc) else clF env r acc:=rfl
def qH(h:∀y∈sc.names,y.2=.free→(env.cells.lookup y.1).isSome=true):closureFor sc env=pure (clF env sc.names []):=by
 have key:∀(names:kF)(acc:List (Str×Addr)),(∀y∈names,y.2=.free→(env.cells.lookup y.1).isSome=true) →
   (forIn names acc λx r=>if x.2==.free then do let c ← cellOf env x.1;pure (ForInStep.yield ((x.1,c)::r)) else pure (ForInStep.yield r):Sem (List (Str×Addr)))=pure (clF env names acc):=by
  intro names;induction names with
  |nil=>intro acc _;rfl
  |cons y r ih=>
   intro acc hy;obtain⟨nm,k⟩:=y;rw[List.forIn_cons];rw[zN];cases hk:(k==NameKind.free) with
   |false=>
    simp only[Bool.false_eq_true,if_false];exact ih _ λy m=>hy y (Oa _ m)
   |true=>
    simp only[if_true];refine a9 (Option.isSome_iff_exists.mp (hy (nm,k) N3 (Ol.mp hk))) λc hc=>?_;have Vi:cellOf env nm=pure c:=by unfold cellOf;rw[hc]
    rw[Vi,hc];exact ih _ λy m=>hy y (Oa _ m)
 unfold closureFor;exact N2 (·>>=pure) (key sc.names [] h)
def Du:∀(names:kF)(acc:List (Str×Addr)),(∀p∈acc,p.2=(env.cells.lookup p.1).getD 0)→∀p∈clF env names acc,p.2=(env.cells.lookup p.1).getD 0:=by
 intro names;induction names with
 |nil=>
  exact λacc h=>h
 |cons zx r ihr=>
  obtain⟨n,k⟩:=zx;intro acc h;rw[zN];split
  ·refine ihr _ λp hp=>?_;rcases NU.mp hp with rfl | hp
   ·rfl
   ·exact h p hp
  ·exact ihr acc h
def DI:∀(names:kF)(acc:List (Str×Addr))(x:Str),((x,NameKind.free)∈names∨∃c,(x,c)∈acc)→∃c,(x,c)∈clF env names acc:=by
 intro names;induction names with
 |nil=>
  exact λacc x h=>h.elim (λh=>nomatch h) id
 |cons zx r ihr=>
  obtain⟨n,k⟩:=zx;intro acc x h;rw[zN];split
  ·refine ihr _ x (h.elim (λh=>?_) λ⟨c,h⟩=>.inr ⟨c,Oa _ h⟩);rcases NU.mp h with e | h
   ·cases e;exact .inr ⟨_,N3⟩
   ·exact .inl h
  ·rename_i hk;refine ihr acc x (h.imp_left λh=>?_);rcases NU.mp h with e | h
   ·cases e;exact absurd rfl hk
   ·exact h
def jf{α:Type}:∀{l:List (Str × α)}{x:Str},(∃c,(x,c)∈l)→∃c,l.lookup x=some c∧(x,c)∈l:=by
 intro l;induction l with
 |nil=>
  intro _ Sa;exact a9 Sa λ_ h=>nomatch h
 |cons zx r ihr=>
  obtain⟨k,v⟩:=zx;intro x Sa;refine a9 Sa λc h=>?_;rw[List.lookup_cons];cases hb:x==k with
  |true=>obtain rfl:=Ol.mp hb;exact ak v rfl N3
  |false=>
   rcases NU.mp h with e | h
   ·cases e;rw[beq_self_eq_true] at hb;cases hb
   ·exact(ihr ⟨c,h⟩).imp λc q=>⟨q.1,Oa _ q.2⟩
def mJ{env:Env}{names:kF}{c:Addr}(hx:(x,NameKind.free)∈names)(hc:env.cells.lookup x=some c):(clF env names []).lookup x=some c:=by
 refine ay (jf (DI (env:=env) names [] x (.inl hx))) λc' h1 h2=>?_;have:=Du (env:=env) names [] (λp hp=>nomatch hp) _ h2;rw[hc] at this;rw[h1];exact N2 some this
def nP:∀(names:kF)(x:Str),(names.map λ(n,k)=>if(k==NameKind.free&&env.scope.kind==.function&&env.kindOf n==some .cell) then(n,NameKind.cell) else(n,k)).lookup x =
  (names.lookup x).map λk=>if(k==NameKind.free&&env.scope.kind==.function&&env.kindOf x==some .cell) then NameKind.cell else k:=by
 intro names;induction names with
 |nil=>
  exact λ_=>rfl
 |cons zx r ihr=>
  obtain⟨n,k⟩:=zx;intro x;have ih:=ihr x;show List.lookup x ((if(k==NameKind.free&&env.scope.kind==.function&&env.kindOf n==some .cell)=true then(n,NameKind.cell) else(n,k))::_)=_;cases hb:x==n with
  |true=>
   obtain rfl:=Ol.mp hb;by_cases hc:(k==NameKind.free&&env.scope.kind==.function&&env.kindOf x==some .cell)=true
   ·rw[N1 hc,List.lookup_cons,List.lookup_cons,hb];show some NameKind.cell=some (if _ then _ else _);rw[N1 hc]
   ·rw[NY hc,List.lookup_cons,List.lookup_cons,hb];show some k=some (if _ then _ else _);rw[NY hc]
  |false=>
   by_cases hc:(k==NameKind.free&&env.scope.kind==.function&&env.kindOf n==some .cell)=true
   ·rw[N1 hc,List.lookup_cons,List.lookup_cons,hb];exact ih
   ·rw[NY hc,List.lookup_cons,List.lookup_cons,hb];exact ih
structure cI(T:List Str)(ns:kF)(cap:List Nat)(sc:Scope):Prop where
 kind:sc.kind=.function
 cell:∀y∈sc.names,y.2≠.cell
 loc:∀y∈sc.names,y.2=.local→sc.names.lookup y.1=some .local
 free:∀y∈sc.names,y.2=.free→ns.lookup y.1=some .cell∨ns.lookup y.1=some .free
 cap:∀i∈cap,sc.names.lookup (nm T i)=some .free∧(nm T i==("__classdict__":Str))=false
def y4{α:Type}[BEq α][LawfulBEq α]{a b:α}{c:Bool}(h:(a !=b||c)=true)(e:a=b):c=true:=by
 subst e;simpa using h
def k9{T:List Str}{ns:kF}(h:qy T ns cap sc=true):cI T ns cap sc:=by
 have h2:=ae h;have h3:=ae h2;have h4:=ae h3;refine⟨Ol.mp (ai h),λy m=>bne_iff_ne.mp (Ob.mp (ai h2) y m),λy m e=>Ol.mp (y4 (Ob.mp (ai h3) y m) e),λy m e=>?_,λi m=>?_⟩
 ·exact(On.mp (y4 (Ob.mp (ai h4) y m) e)).imp Ol.mp Ol.mp
 ·have q:=Ob.mp (ae h4) i m;exact⟨Ol.mp (ai q),by have:=ae q;rw[Bool.not_eq_true'] at this;exact this⟩
def bp{α:Type}:∀{l:List (Str × α)}{x:Str}{c:α},l.lookup x=some c→(x,c)∈l:=by
 intro l;induction l with
 |nil=>intros;contradiction
 |cons zx r ihr=>
  obtain⟨k,v⟩:=zx;intro x c h;rw[List.lookup_cons] at h;cases hb:x==k with
  |true=>rw[hb] at h;cases h;obtain rfl:=Ol.mp hb;exact N3
  |false=>rw[hb] at h;exact Oa _ (ihr h)
def In.to(i:In n X):In n {X with g:=g,H:=H,l:=l}:=⟨i.handled,i.depth,i.units,i.kind,i.globals,i.builtins,i.glob,i.loc,i.cel,i.hkc,i.code⟩
structure CI(P:Pk)(X:Rt)(OP:Shared)(hb:Heap)(N:Addr→Prop)(D:Addr)(out:List PV)(s':Shared):Prop where
 same:∃h tk,s'={OP with heap:=h,toks:=tk}
 old:∀b o,¬P.toCx.T b→OP.heap.get? b=some o→s'.heap.get? b=some o
 oex:∀b,(∃o,OP.heap.get? b=some o)→∃o,s'.heap.get? b=some o
 abc:∀b o,¬N b→¬P.toCx.T b→hb.get? b=some o→s'.heap.get? b=some o
 acc:∃ys n,s'.heap.get? D=some (cE ys n)∧aD X.g s'.heap out ys
 dict:∃m,s'.heap.Ns X.env.locals m
 at_:At P X s'
structure CF(P:Pk)(X:Rt)(OP:Shared)(N:Addr→Prop)(D I:Addr):Prop where
 z:∀b,N b→X.g.Z b
 w:∀b,N b→¬X.g.W b
 t:∀b,N b→¬P.toCx.T b
 new:∀b,N b→OP.heap.get? b=none
 d:N D
 c:N X.env.locals
 i:N I
 dc:D≠X.env.locals
 di:D≠I
 ic:I≠X.env.locals
section
theorem CI.k(c:CI P X OP hb N D out s')(k:Kp P.toCx X.g s' s''):CI P X OP hb N D out s'':=by
 refine⟨?_,λb o t e=>k.abc b o t (c.old b o t e),λb e=>k.ex b (c.oex b e),λb o n t e=>k.abc b o t (c.abc b o n t e),?_,c.dict.imp λm x=>fh x λo e=>k.abc _ o (c.at_.abe (.inl ⟨m,x⟩)) e,c.at_.k k⟩
 ·refine ce c.same λh t Pt=>?_;obtain rfl:=Pt;refine ce k.same λh' t' O8=>?_;obtain rfl:=O8;exact aG h' t' rfl
 ·exact aP c.acc λys n e r=>fw ys n (k.abc _ _ (λt=>(c.at_.tab t).elim λvs y=>by rw[e] at y;cases y) e) (r.over (c.at_.over k))
theorem CI.change(c:CI P X OP hb N D out s')(F:CF P X OP N D I){Y:Addr}(hY:N Y)(nv:cU s'.heap Y)(ex:∃o,h'.get? Y=some o)(k:∀b o,b≠Y→s'.heap.get? b=some o→h'.get? b=some o)(tp:0<tk){out':List PV}(ha:∃ys n,h'.get? D=some (cE ys n)∧aD X.g h' out' ys):CI P X OP hb N D out' {s' with heap:=h',toks:=tk}:=by
 refine⟨ce c.same λh t Pq=>?_,λb o t e=>k b o (λq=>c8 ⟨o,e⟩ (q▸F.new _ hY)) (c.old b o t e),λb e=>(c.oex b e).imp λo=>k b o (λq=>c8 e (q▸F.new _ hY)),λb o n t e=>k b o (λq=>n (q▸hY)) (c.abc b o n t e),ha,c.dict.imp λm x=>fh x λo e=>k _ o (λq=>nv.1 m (q▸x)) e,c.at_.change (F.z _ hY) (F.w _ hY) (F.t _ hY) nv ex k tp⟩;obtain rfl:=Pq;exact aG h' tk rfl
def jY(RS:∀x,X.ns.lookup x≠some .cell){b:Addr}(hb:ox X.ns X.env b):b=X.env.locals:=hb.elim id λ⟨x,hx,_⟩=>(RS x hx).elim
def CI.fm(c:CI P X OP hb N D out s')(F:CF P X OP N D I)(RS:∀x,X.ns.lookup x≠some .cell):Fm X s'.heap:=
 ⟨λb hb=>jY RS hb▸F.z _ F.c,λb hb=>jY RS hb▸F.w _ F.c,c.dict,λx c hx=>(RS x hx).elim,λx y c hx=>(RS x hx).elim⟩
theorem CI.st(c:CI P X OP hb N D out s')(F:CF P X OP N D I)(RS:∀x,X.ns.lookup x≠some .cell)(S:St P X s' s'' l'):CI P {X with l:=l'} OP hb N D out s'':=by
 have k:∀b o,b≠X.env.locals→s'.heap.get? b=some o→s''.heap.get? b=some o:=λb o hb e=>S.abc b o (λq=>hb (jY RS q)) e;refine⟨?_,λb o t e=>k b o (λq=>c8 ⟨o,e⟩ (q▸F.new _ F.c)) (c.old b o t e),λb e=>S.ex b (c.oex b e),λb o n t e=>k b o (λq=>n (q▸F.c)) (c.abc b o n t e),?_,S.fm.dict,c.at_.st (c.fm F RS) S⟩
 ·refine ce c.same λh t PA=>?_;obtain rfl:=PA;refine ce S.same λh' t' PI=>?_;obtain rfl:=PI;exact aG h' t' rfl
 ·exact aP c.acc λys n e r=>fw ys n (k _ _ F.dc e) (r.over (iy (F.z _ F.c) k))
def CI.back(c:CI P {X with l:=l'} OP hb N D out s')(h:∀i x,X.l i=some x→l' i=some x):CI P X OP hb N D out s':=
 ⟨c.same,c.old,c.oex,c.abc,c.acc,c.dict,⟨c.at_.T,c.at_.R,c.at_.W,λi d e=>c.at_.L i d (h i d e),c.at_.I,c.at_.tp,c.at_.tz⟩⟩
def w3{k:Nat}(e:ds[k]?=some d):ds.drop k=d::ds.drop (k+1):=by
 have Po:=(Og.mp e).1;rw[List.drop_eq_getElem_cons Po,← (Og.mp e).2]
def ko{Pa:Expr}{dep:Nat}{t:Tg}{ip:Pos}{body:Sem Unit}{pre:List PV}{s:Shared}{gb:Gh}{inner:Loc→(List PV→Prop)→Prop}{B:Nat}{R:Result→Shared→Prop}(hturn:compTurn (.ListComp Pa gens sc pos) dep (.ref I) (.ref D) X.env=(do
   standAt ip
   match ← pyNext (.ref I) with
   |none=>pure (.done .next)
   |some v=>
    letOwnedTupleGo (db P.T t) (.ref I) v
    assign (db P.T t) X.env v
    let mut ok:=true
    for c in b8 P.T Pl do
     if ok then ok ← isTrue c X.env (eval c X.env)
    if ok then body
    again (.compLoop (.ListComp Pa gens sc pos) dep (.ref I) (.ref D) X.env)))(K:In P.n X)(RS:∀x,X.ns.lookup x≠some .cell)(OZ:P.T.Nodup)(hT:lu P.T X.ns t=true)(test:Eg P Pl)(hF:fR P.T Pl X.ns X.cd=true)(F:CF P X OP N D I)(PK:Gy P.toCx gb Zn I ds hb O4 fp Pv Sv)(Vd:s.heap.get? I=O4.get? I)(hb2:∀b o,¬Zn b→hb.get? b=some o→O4.get? b=some o)(hzn:∀x o,¬Zn x→hb.get? x=some o→¬N x∧¬P.toCx.T x)(hext:∀a,X.g.Z a→gb.Z a∨hb.get? a=none)(Vf:X.g.ad=gb.ad)(Rn:∀d l',gP t X.l d=some l'→∀i x,X.l i=some x→l' i=some x)(hg:mh (λd K'=>el (gP t X.l d) λl'=>tA P.C X.H Pl l' λr=>br r (inner l' K') (K' [])) ds Kf)(QQ:pre.length+ds.length*B≤1000000)(hbody:∀l' (K':List PV→Prop) O7 OX E',(∃d,gP t X.l d=some l')→inner l' K'→CI P {X with l:=l'} OP hb N D O7 OX→O7.length+B≤1000000 →
   wpAny P.M X.A body (λ_ O0=>∃a,K' a∧a.length≤B∧CI P {X with l:=l'} OP hb N D (O7++a) O0∧∀o,OX.heap.get? I=some o→O0.heap.get? I=some o) E' OX)(h0:CI P X OP hb N D pre s)(hR:∀s h' tk Qk,Kf Qk→Qk.length≤ds.length*B→CI P X OP hb N D (pre++Qk) s→cU s.heap I→(∀b o,b≠I→s.heap.get? b=some o→h'.get? b=some o)→0<tk→R (.ok .next) {s with heap:=h',toks:=tk}):
  codeAny P.M X.A (.compLoop (.ListComp Pa gens sc pos) dep (.ref I) (.ref D) X.env) R s:=by
 have W:=PK.walks X.A K.handled;have nz:∀{x:Addr}{o:Obj},¬gb.Z x→hb.get? x=some o→¬X.g.Z x:=λz e q=>(hext _ q).elim z λq=>c8 ⟨_,e⟩ q;have keep:∀{O7:List PV}{X':Rt}{s':Shared},X'.g=X.g→CI P X' OP hb N D O7 s'→∀{x:Addr}{o:Obj},¬gb.Z x→hb.get? x=some o→s'.heap.get? x=some o:=λ{O7 X' s'} hg c {x o} z e=>
  c.abc x o (λq=>nz z e (F.z x q)) (λq=>nz z e (hg▸(c.at_.tz x q).1)) e
 have SK:∀{O7:List PV}{X':Rt}{s':Shared},X'.g=X.g→CI P X' OP hb N D O7 s'→∀{x:Addr}{o:Obj},¬Zn x→hb.get? x=some o→s'.heap.get? x=some o:=λ{O7 X' s'} hg c {x o} z e=>
  c.abc x o (hzn x o z e).1 (hzn x o z e).2 e
 obtain⟨J,hJ⟩:∃J:Nat→Shared→Prop,∀m s',J m s'↔∃k out,k≤ds.length∧m=ds.length-k∧mh (λd K'=>el (gP t X.l d) λl'=>tA P.C X.H Pl l' λr=>br r (inner l' K') (K' [])) (ds.drop k) (λb=>Kf (out++b)) ∧
  out.length≤k*B∧CI P X OP hb N D (pre++out) s'∧Sv k s'.heap:=⟨_,λ_ _=>Iff.rfl⟩
 refine codeAny_loop rfl J (λm s' Ss=>?_) ds.length ((hJ _ _).mpr (aJ 0 [] (Oc _) rfl hg (Oc _) ⟨(by simpa using h0),?_⟩))
 ·refine cA ((hJ _ _).mp Ss) λk out hk Qd TC=>?_;obtain rfl:=Qd;refine bD TC λhg OV c WO=>?_;show wpAny _ X.A ((compTurn (.ListComp Pa gens sc pos) dep (.ref I) (.ref D) X.env).onRaise (λx=>do noteFrame x X.env;theTreesLotGoes x)) _ _ s';refine wpAny_noted ?_;rw[hturn];refine nX λWu Wj R1 _=>cD (PK.fields _ _ WO) λUv Zq Zj TL _ _ TF=>?_;by_cases Po:k<ds.length
  ·refine NN (ON (NN (aW c.at_.tp (W.item k _ _ _ Po WO λv h' tk hv Ve Ts tp=>ay (PK.item k v Po hv) λd hd r=>cD (PK.fields _ _ Ve) λoI TI vsI YW ZQ ZK hdI=>?_))));have kk:∀b o,b≠I→s'.heap.get? b=some o→h'.get? b=some o:=λb o hb e=>Ts b o (by simpa using hb) e;have c':CI P X OP hb N D (pre++out) {s' with heap:=h',toks:=tk}:=c.change F F.i (.fields TL TF) ⟨_,YW⟩ kk tp (c.acc.imp λys=>.imp λn q=>⟨kk D _ F.di q.1,q.2.over (iy (F.z _ F.i) kk)⟩);refine NN (jG YW ZQ ZK ?_);have fin:∀{O7:List PV}{O0:Shared},CI P X OP hb N D O7 O0→(∀o,h'.get? I=some o→O0.heap.get? I=some o)→Sv (k+1) O0.heap:=λ{O7 O0} j e=>W.frame _ _ _ Ve λb V5 o eb=>by
    rcases PK.fp b V5 with rfl | ⟨z,ob,Un⟩
    ·exact e o eb
    ·have e1:=SK rfl c' z Un;rw[e1] at eb;cases eb;exact SK rfl j z Un
   rw[w3 hd] at hg;have hg:el (gP t X.l d) λl'=>tA P.C X.H Pl l' λr=>br r (inner l' λa=>mh _ (ds.drop (k+1)) λb=>Kf (out++(a++b))) (mh _ (ds.drop (k+1)) λb=>Kf (out++([]++b))):=hg;refine a6 hg λl' SG hg=>?_;have rr:abb X.g h' d v:=r.over ⟨λx o z e=>⟨nz z e,keep rfl c' z e⟩,λi a e=>by rw[Vf];exact e⟩;refine NN (iT (s:={s' with heap:=h',toks:=tk}) K hT (c'.fm F RS) c'.at_.L OZ tp SG rr λOX Ra=>?_);have U3:=c'.st F RS Ra;have Xp:∀o,h'.get? I=some o→OX.heap.get? I=some o:=λo e=>Ra.abc I o (λq=>F.ic (jY RS q)) e;have TP:k*B+B=(k+1)*B:=(Nat.succ_mul k B).symm;have Ug:(k+1)*B≤ds.length*B:=N9 _ Po;refine NN (test {X with l:=l'} OX _ _ _ K.to hF U3.at_ hg λb O0 YM Pn=>?_);have P1:=U3.k Pn;have VL:∀o,h'.get? I=some o→O0.heap.get? I=some o:=λo e=>Pn.abc I o (F.t _ F.i) (Xp o e);cases b with
   |false=>exact NQ (R1 _ _ (dC rfl _ (Nat.sub_lt_sub_left Po (Nat.lt_succ_self k)) ((hJ _ _).mpr (aJ (k+1) out Po rfl YM (NT OV (N9 _ (Nat.le_succ k))) ⟨(P1.back (Rn d l' SG)),(fin (P1.back (Rn d l' SG)) VL)⟩))))
   |true=>
    refine NN (OH (hbody l' _ (pre++out) O0 _ ⟨d,SG⟩ YM P1 (by rw[NP];exact ph QQ OV (TP▸Ug))) (λ_ QA SI=>c9 SI λa ha Z6 VX=>aU VX λWC Xq=>?_) λ_ _ e=>e);have T9:=WC.back (Rn d l' SG);rw[Oi] at T9;refine NQ (R1 _ _ (dC rfl _ (Nat.sub_lt_sub_left Po (Nat.lt_succ_self k)) ((hJ _ _).mpr (aJ (k+1) (out++a) Po rfl ?_ (by rw[NP];exact TP▸Nat.add_le_add OV Z6) ⟨T9,(fin T9 λo e=>Xq o (VL o e))⟩))));have e:(λb=>Kf (out++(a++b)))=λb=>Kf ((out++a)++b):=funext λb=>by rw[Oi]
    exact e▸ha
  ·obtain rfl:k=ds.length:=Nat.le_antisymm hk (Nat.not_lt.mp Po);refine NN (ON (NN (aW c.at_.tp (W.done _ _ _ WO λh' tk Ts tp=>?_))));rw[List.drop_length] at hg;have hg:Kf (out++[]):=hg;rw[N6] at hg;exact NQ (R1 _ _ (hR _ h' tk out hg OV c (.fields TL TF) (λb o hb e=>Ts b o (by simpa using hb) e) tp))
 ·exact W.frame _ _ _ PK.st0 λb V5 o eb=>by
   rcases PK.fp b V5 with rfl | ⟨z,ob,Un⟩
   ·rw[Vd];exact eb
   ·have e1:=hb2 b ob z Un;rw[e1] at eb;cases eb;exact SK rfl h0 z Un
end
def bx(X:Rt)(sc:Scope)(cap:List Nat)(D Ca I:Addr):Rt:=
 {ns:=sc.names,cd:=none,env:=compEnvC sc (clF X.env sc.names []) Ca X.env,g:=X.g.plus λa=>a=D∨a=Ca∨a=I,H:=X.H,l:=kN X.l cap,A:=X.A}
section
def cI.no(Sf:cI P.T X.ns cap sc)(x:Str):sc.names.lookup x≠some .cell:=λh=>Sf.cell _ (bp h) rfl
def ky{C:Addr}(x:Str):(compEnvC sc cl C env).kindOf x=(sc.names.lookup x).map λk=>if(k==NameKind.free&&env.scope.kind==.function&&env.kindOf x==some .cell) then NameKind.cell else k:=nP sc.names x
def oT{C:Addr}(h:sc.names.lookup x=some .free):(compEnvC sc cl C env).kindOf x=some .cell∨(compEnvC sc cl C env).kindOf x=some .free:=by
 rw[ky,h];show some (if _ then _ else _)=_∨some (if _ then _ else _)=_;split
 ·exact .inl rfl
 ·exact .inr rfl
def lJ(K:In P.n X)(Sf:cI P.T X.ns cap sc)(D Ca I:Addr):In P.n (bx X sc cap D Ca I):=by
 refine⟨K.handled,K.depth,K.units,Sf.kind,K.globals,K.builtins,λx hx=>?_,λx hx=>?_,λx hx=>?_,λx hx=>(Sf.no x hx).elim,λc h=>nomatch h⟩
 ·show(compEnvC _ _ _ _).kindOf x=_;rw[ky,show sc.names.lookup x=_ from hx];rfl
 ·show(compEnvC _ _ _ _).kindOf x=_;rw[ky,show sc.names.lookup x=_ from hx];rfl
 ·rcases hx with hx | hx
  ·exact(Sf.no x hx).elim
  ·have hm:=bp hx;exact a9 (Option.isSome_iff_exists.mp (K.cel x (Sf.free _ hm rfl)).2) λc hc=>⟨oT hx,by show((clF X.env sc.names []).lookup x).isSome=true;rw[mJ (names:=sc.names) hm hc];rfl⟩
def yB(K:In P.n X)(Sf:cI P.T X.ns cap sc)(C:Addr)(L:qB P.T X.g h X.env X.l):qB P.T X.g h (compEnvC sc (clF X.env sc.names []) C X.env) (kN X.l cap):=by
 intro i d hi;unfold kN at hi;split at hi
 ·rename_i hc;refine j7 (L i d hi) λhl v h2 h3=>aU (Sf.cap i (by simpa using hc)) λe2 e3=>?_;have hm:=bp e2;have hk:=K.cel _ (Sf.free _ hm rfl);refine dC hl v h2 ?_;rcases h3 with ⟨a,_⟩ | ⟨a,c,b,q⟩
  ·rcases hk.1 with q | q<;>· rw[a] at q;cases q
  ·exact .inr (dC ((oT e2).imp id λq=>⟨q,e3⟩) c (mJ hm b) q)
 ·cases hi
def jX(K:In P.n X)(Sf:cI P.T X.ns cap sc):closureFor sc X.env=pure (clF X.env sc.names []):=qH λy m e=>(K.cel y.1 (Sf.free y m e)).2
def kH{t:Tg}(Sf:cI P.T X.ns cap sc)(h:lu P.T sc.names t=true):∀i∈t.slots,kN X.l cap i=none:=by
 intro i hi;have e2:=(jT h hi).2;unfold kN;split
 ·rename_i hc;have f2:=(Sf.cap i (by simpa using hc)).1;rcases On.mp (ai e2) with e2 | e2<;>· rw[Ol.mp e2] at f2;cases f2
 ·rfl
def wD{t:Tg}{lc:Loc}(h:gP t lc d=some l')(i:Nat)(hn:i∉t.slots):l' i=lc i:=by
 cases t with
 |one k p=>
  cases h;exact NY λq=>hn (by simp[Tg.slots,q])
 |two j k p q r u=>
  refine ay (N8.mp h) λx _ Pt=>?_;obtain rfl:=Pt;exact(NY λq=>hn (by simp[Tg.slots,q])).trans (NY λq=>hn (by simp[Tg.slots,q]))
def pX{t:Tg}{lc:Loc}(hn:∀i∈t.slots,lc i=none)(h:gP t lc d=some l')(i:Nat)(x:PV)(hi:lc i=some x):l' i=some x:=by
 rw[wD h i λq=>by rw[hn i q] at hi;cases hi];exact hi
def m0{OX:Shared}{pre:List PV}{K':List PV→Prop}(ie:VS P Pa)(K:In P.n X)(ok:cZ P.T Pa X.ns X.cd=true)(F:CF P X OP N D I)(hp:pe P.C X.H Pa X.l λy=>K' [y])(c:CI P X OP hb N D pre OX)(QQ:pre.length≤1000000):
  wpAny P.M X.A (do let _ ← call (.builtin "list.append") [.ref D,← eval (aX P.T Pa) X.env]) (λ_ O0=>∃a,K' a∧a.length≤1∧CI P X OP hb N D (pre++a) O0∧∀o,OX.heap.get? I=some o→O0.heap.get? I=some o) E OX:=by
 refine NN (ie X OX _ _ E K ok c.at_ hp λv O0 y hy Pn Qs=>?_);have P1:=c.k Pn;refine aP P1.acc λys n e r=>NN (aW Pn.tp (wpAny_list_append_plain ⟨n,e⟩ (λh' p' P3 tp=>NQ ?_) (by rw[N4,r.length];exact NT QQ kD)));have kk:∀b o,b≠D→O0.heap.get? b=some o→h'.get? b=some o:=λb o hb e=>P3.extBut b o hb e;refine a9 p' λn' e'=>?_;have e':h'.get? D=some (cE (ys++[v]) n'):=by rw[e'];simp
 exact cb [y] hy (Oe _) (P1.change F F.d (.seq e rfl) ⟨_,e'⟩ kk tp (fw _ n' e' ((aD.append (.one Qs) r).over (iy (F.z _ F.d) kk)))) (λo e=>kk I o F.di.symm (Pn.abc _ _ (F.t _ F.i) e))
theorem xp{Pa tx ix:Expr}{rest:List Comprehension}(hI:OP.heap.objs.size=I)(K:In P.n X)(Sf:cI P.T X.ns cap sc)(a:At P X OP)(PK:Gy P.toCx X.g Zn I ds OP.heap (OP.heap.push oI) fp Pv Sv)(loop:∀(D Ca:Addr)(OX:Shared)(R:Result→Shared→Prop),CF P (bx X sc cap D Ca I) OP (λa=>a=D∨a=Ca∨a=I) D I →
   CI P (bx X sc cap D Ca I) OP OP.heap (λa=>a=D∨a=Ca∨a=I) D [] OX→OX.heap.get? I=(OP.heap.push oI).get? I →
   (∀s h' tk Qk,Kf Qk→CI P (bx X sc cap D Ca I) OP OP.heap (λa=>a=D∨a=Ca∨a=I) D Qk s→cU s.heap I→(∀b o,b≠I→s.heap.get? b=some o→h'.get? b=some o)→0<tk →
    R (.ok .next) {s with heap:=h',toks:=tk}) →
   codeAny P.M X.A (.compLoop (.ListComp Pa (⟨tx,ix,fx,0⟩::rest) sc pos) 0 (.ref I) (.ref D) (compEnvC sc (clF X.env sc.names []) Ca X.env)) R OX)(hQ:∀D Ca s' ys,Kf ys→Kp P.toCx X.g OP s'→OP.heap.get? Ca=none→OP.heap.get? D=none→D≠Ca→abb (X.g.plus λa=>a=Ca) s'.heap (.lst ys) (.ref D)→(∃m,s'.heap.Ns Ca m)→P.TI (X.g.plus λa=>a=Ca) s'.heap→compPost P.M X.A E use Q (.ref D) Ca (.ok .next) s'){O9:Heap}{mC:Str→Option Value}(dc:D≠Ca)(di:D≠I)(ic:I≠Ca)(Ri:O9.get? D=some (cE [] 0))(Qx:O9.Ns Ca mC)(old2:∀b o,(OP.heap.push oI).get? b=some o→O9.get? b=some o)(fD:OP.heap.get? D=none)(fC:OP.heap.get? Ca=none)(fI:OP.heap.get? I=none){k:Nat}:
  codeAny P.M X.A (.compStart (.ListComp Pa (⟨tx,ix,fx,0⟩::rest) sc pos) 0 (.ref I) (.ref D) (compEnvC sc (clF X.env sc.names []) Ca X.env)) (compPost P.M X.A E use Q (.ref D) Ca) {OP with heap:=O9,toks:=OP.toks+k}:=by
 refine a5 (PK.fields 0 _ PK.st0) λoJ _ _ WK _=>?_;have old:∀b o,OP.heap.get? b=some o→O9.get? b=some o:=λb o e=>old2 b o (NS _ e);have hN:∀b,(b=D∨b=Ca∨b=I)→OP.heap.get? b=none:=by
  rintro b (rfl | rfl | rfl)<;>assumption
 have F:CF P (bx X sc cap D Ca I) OP (λa=>a=D∨a=Ca∨a=I) D I:=
  ⟨λb hb=>.inr hb,λb hb w=>c8 (a.T b (X.g.sub b w)) (hN b hb),λb hb t=>c8 ((a.tab t).imp' _ λ_=>id) (hN b hb),hN,.inl rfl,.inr (.inl rfl),.inr (.inr rfl),dc,di,ic⟩
 have c0:∀tk,0<tk→CI P (bx X sc cap D Ca I) OP OP.heap (λa=>a=D∨a=Ca∨a=I) D [] {OP with heap:=O9,toks:=tk}:=λtk tp=>by
  have a':At P {X with g:=X.g.plus λa=>a=D∨a=Ca∨a=I} {OP with heap:=O9,toks:=tk}:=a.plus hN (λb hb=>by
   rcases hb with rfl | rfl | rfl
   ·exact⟨_,Ri⟩
   ·refine a5 Qx λo _ _ e _=>⟨o,e⟩
   ·exact⟨_,old2 _ _ WK⟩) old tp
  exact⟨aG _ _ rfl,λb o _ e=>old b o e,λb e=>e.imp λo=>old b o,λb o _ _ e=>old b o e,fw [] 0 Ri rfl,⟨_,Qx⟩,a'.T,a'.R,a'.W,yB (X:={X with g:=X.g.plus λa=>a=D∨a=Ca∨a=I}) K.to Sf Ca a'.L,a'.I,tp,a'.tz⟩
 have ZH:O9.get? I=(OP.heap.push oI).get? I:=by rw[WK];exact old2 _ _ WK
 have go:∀OX:Shared,OX={OP with heap:=O9,toks:=OP.toks+k} →
   codeAny P.M X.A (.compLoop (.ListComp Pa (⟨tx,ix,fx,0⟩::rest) sc pos) 0 (.ref I) (.ref D) (compEnvC sc (clF X.env sc.names []) Ca X.env))
    (compPost P.M X.A E use Q (.ref D) Ca) OX:=by
  rintro OX rfl;refine loop D Ca _ _ F (c0 _ (OC a.tp (Nat.le_add_right _ _))) ZH λs' h' tk Qk ht c nv kk tp=>a9 c.dict λm hm=>aP c.acc λzs nz ez rz=>?_;have ov:aC (X.g.plus λa=>a=D∨a=Ca∨a=I) (X.g.plus λa=>a=Ca) s'.heap h':=⟨λb o z e=>⟨λq=>z (q.imp id λq=>.inr (.inl q)),kk b o (λq=>z (.inr (.inr (.inr q)))) e⟩,λ_ _ e=>e⟩;have ti:P.TI (X.g.plus λa=>a=Ca) h':=c.at_.I.over ov.obj λb o t e=>kk b o (λq=>F.t b (.inr (.inr q)) t) e;refine hQ D Ca _ Qk ht ⟨⟨?_,λb o t e=>kk b o (λq=>c8 ⟨o,e⟩ (q▸fI)) (c.old b o t e),λb e=>(c.oex b e).imp λo=>kk b o (λq=>c8 e (q▸fI)),λ_=>ti.over (λb o z e=>⟨λq=>z (.inl q),e⟩) λb o t e=>e⟩,tp⟩ fC fD dc
   (aH _ zs nz rfl (λq=>q.elim (λq=>c8 (a.T _ q) fD) dc) (kk _ _ di ez) (rz.over ov)) ⟨m,fh hm λo e=>kk _ o ic.symm e⟩ ti
  refine ce c.same λh t O8=>?_;obtain rfl:=O8;exact aG h' tk rfl
 exact codeAny_compStart_list (go _ rfl) ((PK.walks X.A K.handled).self 0 _ _ _ ((PK.walks X.A K.handled).frame _ _ _ PK.st0 λb V5 o eb=>old2 b o eb) (go _ rfl))
def ml{Pa tx ix:Expr}{rest:List Comprehension}(hI:OP.heap.objs.size=I)(K:In P.n X)(Sf:cI P.T X.ns cap sc)(a:At P X OP)(PK:Gy P.toCx X.g Zn I ds OP.heap (OP.heap.push oI) fp Pv Sv)(loop:∀(D Ca:Addr)(OX:Shared)(R:Result→Shared→Prop),CF P (bx X sc cap D Ca I) OP (λa=>a=D∨a=Ca∨a=I) D I →
   CI P (bx X sc cap D Ca I) OP OP.heap (λa=>a=D∨a=Ca∨a=I) D [] OX→OX.heap.get? I=(OP.heap.push oI).get? I →
   (∀s h' tk Qk,Kf Qk→CI P (bx X sc cap D Ca I) OP OP.heap (λa=>a=D∨a=Ca∨a=I) D Qk s→cU s.heap I→(∀b o,b≠I→s.heap.get? b=some o→h'.get? b=some o)→0<tk →
    R (.ok .next) {s with heap:=h',toks:=tk}) →
   codeAny P.M X.A (.compLoop (.ListComp Pa (⟨tx,ix,fx,0⟩::rest) sc pos) 0 (.ref I) (.ref D) (compEnvC sc (clF X.env sc.names []) Ca X.env)) R OX)(hQ:∀D Ca s' ys,Kf ys→Kp P.toCx X.g OP s'→OP.heap.get? Ca=none→OP.heap.get? D=none→D≠Ca→abb (X.g.plus λa=>a=Ca) s'.heap (.lst ys) (.ref D)→(∃m,s'.heap.Ns Ca m)→P.TI (X.g.plus λa=>a=Ca) s'.heap→compPost P.M X.A E use Q (.ref D) Ca (.ok .next) s'):
  wpAny P.M X.A (newList []) (λacc OX=>wpAny P.M X.A (newFunctionEnv sc X.env.globals (clF X.env sc.names []) [] X.env.qual none .none (some X.env)) (λU2 O0=>
   codeAny P.M X.A (.compStart (.ListComp Pa (⟨tx,ix,fx,0⟩::rest) sc pos) 0 (.ref I) acc {U2 with scope:=relabel sc X.env}) (compPost P.M X.A E use Q acc U2.locals) O0) E OX) E {OP with heap:=OP.heap.push oI}:=by
 refine wpAny_newObj_type (wpAny_newFunctionEnv Sf.cell (by intro y hy;simp at hy) (λO9 Qx SE=>?_) Sf.kind);dsimp only at Qx SE ⊢;have zD:(OP.heap.push oI).objs.size=I+1:=by rw[Heap.size_push,hI]
 have fresh:∀(b:Nat),I≤b→OP.heap.get? b=none:=λb hb=>Heap.get?_none_of_le (hI▸hb);have Zi:∀b o,b≠((OP.heap.push oI).push {cls:=.type "list",dict:=none,data:=.seq ([]:List Value).toArray}).objs.size→((OP.heap.push oI).push {cls:=.type "list",dict:=none,data:=.seq ([]:List Value).toArray}).get? b=some o→O9.get? b=some o:=λb o hb e=>SE.extBut b o hb (NS _ e);have zC:=Heap.size_push (OP.heap.push oI) {cls:=.type "list",dict:=none,data:=.seq ([]:List Value).toArray};have dc:(OP.heap.push oI).objs.size≠((OP.heap.push oI).push {cls:=.type "list",dict:=none,data:=.seq ([]:List Value).toArray}).objs.size:=by rw[zC];exact Nat.ne_of_lt (Nat.lt_succ_self _)
 subst hI;exact xp rfl K Sf a PK loop hQ dc (by rw[zD];exact Nat.succ_ne_self _) (by rw[zC,zD];exact Nat.ne_of_lt (Nat.lt_succ_of_lt (Nat.lt_succ_self _))) (Zi _ _ dc (NZ _ rfl)) Qx (λb o e=>Zi b o (Nat.ne_of_lt (OC (Heap.lt_size e) (by rw[zC];exact Nat.le_succ _))) (NS _ e)) (fresh _ (by rw[zD];exact Nat.le_succ _)) (fresh _ (by rw[zC,zD];exact Nat.le_succ_of_le (Nat.le_succ _))) (fresh _ (Oe _)) (k:=([]:List (Str×Value)).length)
end
section
def uG{w:World}{A:Around}{R:Result→Shared→Prop}{Pa target PO t0 i0:Expr}{f0 Pl:List Expr}{scope:Scope}{it acc:Value}(h0:codeAny (model prog w) A (.compLoop (.ListComp Pa [⟨t0,i0,f0,0⟩,⟨target,PO,Pl,0⟩] scope pos) 1 it acc env) R s)(h:wpAny (model prog w) A (pyIter it) (λXo s'=>codeAny (model prog w) A (.compLoop (.ListComp Pa [⟨t0,i0,f0,0⟩,⟨target,PO,Pl,0⟩] scope pos) 1 Xo acc env) R s')
   (notedBy (model prog w) A env λx s'=>R (.error x) s') s):
  codeAny (model prog w) A (.compStart (.ListComp Pa [⟨t0,i0,f0,0⟩,⟨target,PO,Pl,0⟩] scope pos) 1 it acc env) R s:=by
 refine codeAny_of_tree ?_;show wpAny _ _ ((compStart (.ListComp Pa [⟨t0,i0,f0,0⟩,⟨target,PO,Pl,0⟩] scope pos) 1 it acc env).onRaise (λx=>do noteFrame x env;standAt theWindowsPlace)) _ _ s;refine wpAny_notedAt ?_;unfold compStart;show wpAny _ _ (ask>>=_) _ _ s;refine NN (wpAny_askSetting (wpAny_ite ?_));split
 ·first
   |exact NN (NQ (NQ (And.intro rfl h0)))
   |exact NQ (And.intro rfl h0)
 ·first
   |exact NN (wpAny_rule (NN (ON (NN (OH h (λXo s' h'=>NQ (And.intro rfl h')) λ_ _ x=>x)))))
   |(refine NN (wpAny_rule ?_);show wpAny _ _ (standAt PO.pos>>=_) _ _ s;exact NN (ON (NN (OH h (λXo s' h'=>NQ (And.intro rfl h')) λ_ _ x=>x))))
def vi(Pa target PO t2 i2:Expr)(Pl f2:List Expr)(scope:Scope)(pos:Pos)(it acc:Value)(env:Env):
  compTurn (.ListComp Pa [⟨target,PO,Pl,0⟩,⟨t2,i2,f2,0⟩] scope pos) 0 it acc env=(do
   standAt PO.pos
   match ← pyNext it with
   |none=>pure (.done .next)
   |some v=>
    letOwnedTupleGo target it v
    assign target env v
    let mut ok:=true
    for c in Pl do
     if ok then ok ← isTrue c env (eval c env)
    if ok then
     let x ← eval i2 env
     standAt i2.pos
     let x ← foldedSetIterable i2 env x
     let _ ← runOwn (.compStart (.ListComp Pa [⟨target,PO,Pl,0⟩,⟨t2,i2,f2,0⟩] scope pos) 1 (← holding [x] (pyIter x)) acc env) env
    again (.compLoop (.ListComp Pa [⟨target,PO,Pl,0⟩,⟨t2,i2,f2,0⟩] scope pos) 0 it acc env)):=by rfl
noncomputable def lZ(Pa target PO t2 i2:Expr)(Pl f2:List Expr)(scope:Scope)(pos:Pos)(acc:Value)(env:Env):Sem Unit:=do
 let x ← eval i2 env
 standAt i2.pos
 let x ← foldedSetIterable i2 env x
 let _ ← runOwn (.compStart (.ListComp Pa [⟨target,PO,Pl,0⟩,⟨t2,i2,f2,0⟩] scope pos) 1 (← holding [x] (pyIter x)) acc env) env
def xj(Pa target PO t2 i2:Expr)(Pl f2:List Expr)(scope:Scope)(pos:Pos)(it acc:Value)(env:Env):
  compTurn (.ListComp Pa [⟨target,PO,Pl,0⟩,⟨t2,i2,f2,0⟩] scope pos) 0 it acc env=(do
   standAt PO.pos
   match ← pyNext it with
   |none=>pure (.done .next)
   |some v=>
    letOwnedTupleGo target it v
    assign target env v
    let mut ok:=true
    for c in Pl do
     if ok then ok ← isTrue c env (eval c env)
    if ok then lZ Pa target PO t2 i2 Pl f2 scope pos acc env
    again (.compLoop (.ListComp Pa [⟨target,PO,Pl,0⟩,⟨t2,i2,f2,0⟩] scope pos) 0 it acc env)):=by
 rw[vi];simp only[lZ,bind_assoc,pure_bind]
def xf(Pa target PO t2 i2:Expr)(Pl f2:List Expr)(scope:Scope)(pos:Pos)(it acc:Value)(env:Env):
  compTurn (.ListComp Pa [⟨target,PO,Pl,0⟩,⟨t2,i2,f2,0⟩] scope pos) 1 it acc env=(do
   standAt i2.pos
   match ← pyNext it with
   |none=>pure (.done .next)
   |some v=>
    letOwnedTupleGo t2 it v
    assign t2 env v
    let mut ok:=true
    for c in f2 do
     if ok then ok ← isTrue c env (eval c env)
    if ok then(do let _ ← call (.builtin "list.append") [acc,← eval Pa env])
    again (.compLoop (.ListComp Pa [⟨target,PO,Pl,0⟩,⟨t2,i2,f2,0⟩] scope pos) 1 it acc env)):=by rfl
noncomputable def kr:Expr→Env→Option (Value→Sem Unit)→Sem Value
 |.ListComp Pa gens sc p,env,use=>comprehension (.ListComp Pa gens sc p) sc env (firstIterPos gens p) (newList []) (firstAsync gens) (firstIter gens env) use
 |_,_,_=>pure .none
noncomputable def gZ:ME→Bool
 |.comp .. | .abt ..=>true
 |_=>false
section
variable(P) in
def CS(e:ME):Prop:=∀(X:Rt)(s:Shared)(K:PV→Prop)(use:Option (Value→Sem Unit))(Q E:Value→Shared→Prop),In P.n X→cZ P.T e X.ns X.cd=true→At P X s→pe P.C X.H e X.l K →
 (∀D Ca s' d,K d→Kp P.toCx X.g s s'→s.heap.get? Ca=none→s.heap.get? D=none→D≠Ca→abb (X.g.plus λa=>a=Ca) s'.heap d (.ref D)→(∃m,s'.heap.Ns Ca m)→P.TI (X.g.plus λa=>a=Ca) s'.heap→compPost P.M X.A E use Q (.ref D) Ca (.ok .next) s') →
 wpAny P.M X.A (kr (aX P.T e) X.env use) Q E s
def VS.acD(h:CS P e)(he:∀env,kr (aX P.T e) env none=eval (aX P.T e) env):VS P e:=by
 intro X s K Q E i ok a hp hQ;rw[← he];refine h X s K none Q E i ok a hp λD Ca s' d hd k hC hD Ue r ⟨m,hm⟩ ti=>ak m hm (λh' P3=>?_);have kk:∀b o,b≠Ca→s'.heap.get? b=some o→h'.get? b=some o:=λb o hb e=>P3.extBut b o hb e;have ov:aC (X.g.plus λa=>a=Ca) X.g s'.heap h':=gx λb o hb e=>kk b o hb e;have ht:¬P.toCx.T Ca:=λt=>c8 ((a.tab t).imp' _ λ_=>id) hC;refine hQ _ _ d hd ⟨⟨ce k.same λh t Pt=>?_,λb o t e=>kk b o (λq=>c8 ⟨o,e⟩ (q▸hC)) (k.abc b o t e),λb e=>(k.ex b e).imp λo=>kk b o (λq=>c8 e (q▸hC)),λ_=>ti.over ov.obj λb o t e=>kk b o (λq=>ht (q▸t)) e⟩,k.tp⟩ (r.over ov);obtain rfl:=Pt;exact aG h' t rfl
def lz(k:Kp S g s s')(h:s'.heap.get? a=none):s.heap.get? a=none:=by
 cases e:s.heap.get? a with
 |none=>rfl
 |some o=>exact c8 (k.ex a ⟨o,e⟩) h
def CF.to(F:CF P X OP N D I):CF P {X with l:=l} OP N D I:=⟨F.z,F.w,F.t,F.new,F.d,F.c,F.i,F.dc,F.di,F.ic⟩
def vl(OZ:P.T.Nodup){t:Tg}(ie:VS P Pa)(ii:VS P it)(tf:Eg P Pl):CS P (.comp Pa t it Pl cap sc p):=by
 intro X s K use Q E i ok h hp hQ;have Sf:=k9 (ai ok);have hT:=ai (ae ok);have QJ:=ae (ae ok);show wpAny P.M X.A (comprehension (.ListComp (aX P.T Pa) [⟨db P.T t,aX P.T it,b8 P.T Pl,0⟩] sc p) sc X.env (firstIterPos [⟨db P.T t,aX P.T it,b8 P.T Pl,0⟩] p) (newList []) false (eval (aX P.T it) X.env) use) Q E s;refine wpAny_comprehension_free (g:=⟨db P.T t,aX P.T it,b8 P.T Pl,0⟩) (gs:=[]) (use:=use) rfl (λx=>df P.T it x) (jX i Sf) Sf.kind Sf.loc (ii X s _ _ E i (ai QJ) h hp λPQ OP x hx OQ OT=>a6 hx λds hi hx=>rR (h.k OQ).tz (h.k OQ).R hi (bk hx) OT λoI fp Pv Sv PK=>?_);have Qw:=h.k OQ;refine ml (Kf:=λys=>cG (aE ys.length) (K (.lst ys))) rfl i Sf Qw PK (λD Ca OX R F c Vd Uj=>?_) λD Ca s' ys hy k hC hD Ue r Q8 ti=>hQ D Ca s' _ (aY hy) (OQ.trans k) (lz OQ hC) (lz OQ hD) Ue r Q8 ti;refine ko (X:=bx X sc cap D Ca OP.heap.objs.size) (B:=1) (pre:=[]) (gb:=X.g) (inner:=λl' K'=>pe P.C X.H Pa l' λy=>K' [y]) (compTurn_list ..) (lJ i Sf D Ca _) Sf.no OZ hT tf (ai (ae QJ)) F PK Vd (λb o _ e=>NS _ e) (λx o z e=>⟨λq=>c8 ⟨o,e⟩ (F.new x q),z⟩)
  (λa z=>z.imp id (F.new a)) rfl (λd l' h i x=>pX (kH Sf hT) h i x) (aY hx) (by have:=dq (bk hx);simpa using this) (λl' K' O7 OX E' _ hp c QQ=>?_) c λs h' tk Qk ht _ c nv kk tp=>Uj s h' tk Qk ht (by simpa using c) nv kk tp
 exact m0 (X:={bx X sc cap D Ca OP.heap.objs.size with l:=l'}) ie (lJ i Sf D Ca _).to (ae (ae QJ)) F.to hp c (a8 QQ)
def cU.held{c:Addr}(nv:cU h c)(k:∀b o,b≠c→h.get? b=some o→h'.get? b=some o){n:Str}{v:Value}(x:ff h env n v):ff h' env n v:=
 x.at (λm hm o e=>k _ o (λq=>nv.1 m (q▸hm)) e) λb u hb o e=>k _ o (λq=>nv.2 _ (q▸hb)) e
def At.minus(a:At P {X with g:=X.g.plus N} s)(hW:∀b,N b→¬X.g.W b)(hT:∀b,N b→¬P.toCx.T b)(hv:∀n v,ff s.heap X.env n v→ff h' X.env n v)(zk:∀b,X.g.Z b→¬N b)(k:∀b o,¬N b→s.heap.get? b=some o→h'.get? b=some o)(tp:0<tk):At P X {s with heap:=h',toks:=tk}:=by
 have ov:aC (X.g.plus N) X.g s.heap h':=gx k;exact⟨λb z=>(a.T b (.inl z)).imp λo=>k b o (zk b z),a.R.over ov rfl (λ_ z=>z) λb o w e=>k b o (λq=>hW b q w) e,a.W.over ov,a.L.over ov hv,
  a.I.over ov.obj λb o t e=>k b o (λq=>hT b q t) e,tp,λb t=>⟨(a.tz b t).1.elim id λq=>absurd t (hT b q),(a.tz b t).2⟩⟩
theorem At.A{A:Around}(a:At P X s):At P {X with A:=A} s:=⟨a.T,a.R,a.W,a.L,a.I,a.tp,a.tz⟩
def sL(OZ:P.T.Nodup){t:Tg}{t2:Tg}{Qo:ME}{PC:hV}(ie:VS P Pa)(ii:VS P it)(tf:Eg P Pl)(ii2:VS P Qo)(tf2:Eg P PC):CS P (.abt Pa t it Pl t2 Qo PC cap sc p):=by
 intro X s K use Q E i ok h hp hQ;have Sf:=k9 (ai ok);have hT:=ai (ae ok);have YK:=ai (ae (ae ok));have Vh:=ai (ae (ae (ae ok)));have QJ:=ae (ae (ae (ae ok)));have UU:=ae (ae QJ);have Za:=ae UU;show wpAny P.M X.A (comprehension (.ListComp (aX P.T Pa) [⟨db P.T t,aX P.T it,b8 P.T Pl,0⟩,⟨db P.T t2,aX P.T Qo,b8 P.T PC,0⟩] sc p) sc X.env (firstIterPos [⟨db P.T t,aX P.T it,b8 P.T Pl,0⟩,⟨db P.T t2,aX P.T Qo,b8 P.T PC,0⟩] p) (newList []) false (eval (aX P.T it) X.env) use) Q E s;refine wpAny_comprehension_free (g:=⟨db P.T t,aX P.T it,b8 P.T Pl,0⟩) (gs:=[⟨db P.T t2,aX P.T Qo,b8 P.T PC,0⟩]) (use:=use) rfl (λx=>df P.T it x) (jX i Sf) Sf.kind Sf.loc (ii X s _ _ E i (ai QJ) h hp λPQ OP x hx OQ OT=>a6 hx λds hi hx=>?_);have Tc:ds.length≤1000:=NV (bk hx);refine gz hi (au (az Tc)) OT λoI fp Pv Sv PK=>?_;have Qw:=h.k OQ;refine ml (Kf:=λys=>cG (aE ys.length) (K (.lst ys))) rfl i Sf Qw PK (λD Ca OX R F c Vd Uj=>?_) λD Ca s' ys hy k hC hD Ue r Q8 ti=>hQ D Ca s' _ (aY hy) (OQ.trans k) (lz OQ hC) (lz OQ hD) Ue r Q8 ti;refine ko (X:=bx X sc cap D Ca OP.heap.objs.size) (B:=1000) (pre:=[]) (gb:=X.g) (inner:=λl' K'=>pe P.C X.H Qo l' λx2=>el (iF x2) λUa=>cG (decide (Ua.length≤1000)) (mh (λd K'=>el (gP t2 l' d) λl'=>tA P.C X.H PC l' λr=>br r (pe P.C X.H Pa l' λy=>K' [y]) (K' [])) Ua K'))
  (xj ..) (lJ i Sf D Ca _) Sf.no OZ hT tf (ai (ae QJ)) F PK Vd (λb o _ e=>NS _ e) (λx o z e=>⟨λq=>c8 ⟨o,e⟩ (F.new x q),λt=>z (Qw.tz x t).1⟩)
  (λa z=>z.imp id (F.new a)) rfl (λd l' h i x=>pX (kH Sf hT) h i x) (aY hx) (by rw[List.length_nil];exact a8 (N9 1000 Tc)) (λl' K' O7 OX E' SG hp c QQ=>?_) c λs h' tk Qk ht _ c nv kk tp=>Uj s h' tk Qk ht (by simpa using c) nv kk tp
 have Kc:In P.n {bx X sc cap D Ca OP.heap.objs.size with l:=l'}:=(lJ i Sf D Ca _).to;unfold lZ;refine NN (ii2 {bx X sc cap D Ca OP.heap.objs.size with l:=l'} OX _ _ E' Kc (ai UU) c.at_ hp λUx O0 x2 hx Pn Qs=>NN (ON (NN (Oo (df P.T Qo Ux) (a6 hx λUa Z0 hx=>?_)))));have Ui:Ua.length≤1000:=NV (bk hx);have P1:=c.k Pn;refine NN (Om (gz Z0 (au (az Ui)) Qs λoJ fp2 Pv2 Sv2 SQ=>NN (wpAny_onRaise (wpAny_run ?_))));have hJ:=be O0.heap;refine a5 (SQ.fields 0 _ SQ.st0) λoK _ _ ZI _=>?_;generalize O0.heap.objs.size=J at *
 have Qz:∀b o,O0.heap.get? b=some o→(O0.heap.push oJ).get? b=some o:=λb o e=>NS _ e;have SM:∀{b:Addr},(∃o,O0.heap.get? b=some o)→b≠J:=λ{b} hb q=>c8 hb (q▸hJ);have jC:J≠Ca:=(SM (P1.dict.elim λm h=>h.elim λo h=>h.elim λ_ h=>h.elim λ_ h=>⟨o,h.1⟩)).symm;have jD:D≠J:=SM (P1.acc.elim λys h=>h.elim λn h=>⟨_,h.1⟩);have j1:OP.heap.get? J=none:=by
  cases q:OP.heap.get? J with
  |none=>rfl
  |some o=>exact c8 (P1.oex J ⟨o,q⟩) hJ
 have WM:∀a,a=J→O0.heap.get? a=none:=λa e=>e▸hJ;have F2:CF P {bx X sc cap D Ca OP.heap.objs.size with l:=l',g:=(bx X sc cap D Ca OP.heap.objs.size).g.plus λa=>a=J,A:=X.A.mark none} OP (λa=>a=D∨a=Ca∨a=J) D J:=by
  refine⟨?_,?_,?_,?_,.inl rfl,.inr (.inl rfl),.inr (.inr rfl),F.dc,jD,jC⟩
  ·rintro b (rfl | rfl | rfl)
   ·exact .inl (F.z _ F.d)
   ·exact .inl (F.z _ F.c)
   ·exact .inr rfl
  ·rintro b (rfl | rfl | rfl)
   ·exact F.w _ F.d
   ·exact F.w _ F.c
   ·exact λw=>c8 (Qw.T _ (X.g.sub _ w)) j1
  ·rintro b (rfl | rfl | rfl)
   ·exact F.t _ F.d
   ·exact F.t _ F.c
   ·exact λt=>c8 ((Qw.tab t).imp' _ λ_=>id) j1
  ·rintro b (rfl | rfl | rfl)
   ·exact F.new _ F.d
   ·exact F.new _ F.c
   ·exact j1
 have c':CI P {bx X sc cap D Ca OP.heap.objs.size with l:=l',g:=(bx X sc cap D Ca OP.heap.objs.size).g.plus λa=>a=J,A:=X.A.mark none} OP O0.heap (λa=>a=D∨a=Ca∨a=J) D O7 {O0 with heap:=O0.heap.push oJ}:=by
  refine⟨ce P1.same λh t O8=>?_,λb o t e=>Qz b o (P1.old b o t e),λb e=>(P1.oex b e).imp λo=>Qz b o,λb o _ _ e=>Qz b o e,P1.acc.imp λys=>.imp λn q=>⟨Qz _ _ q.1,q.2.over (pC WM Qz)⟩,P1.dict.imp λm x=>fh x λo=>Qz _ o,((P1.at_.plus WM (λb hb=>⟨_,hb▸ZI⟩) Qz P1.at_.tp).A)⟩;obtain rfl:=O8;exact aG _ t rfl
 have go:∀Yw:Value→Shared→Prop,codeAny P.M (X.A.mark none) (.compLoop (.ListComp (aX P.T Pa) [⟨db P.T t,aX P.T it,b8 P.T Pl,0⟩,⟨db P.T t2,aX P.T Qo,b8 P.T PC,0⟩] sc p) 1 (.ref J) (.ref D) (compEnvC sc (clF X.env sc.names []) Ca X.env))
   (λr s'=>match r with
    |.ok f=>∃a,K' a∧a.length≤1000∧CI P {bx X sc cap D Ca OP.heap.objs.size with l:=l'} OP OP.heap (λa=>a=D∨a=Ca∨a=OP.heap.objs.size) D (O7++a) s'∧∀o,OX.heap.get? OP.heap.objs.size=some o→s'.heap.get? OP.heap.objs.size=some o
    |.error e=>Yw e s') {O0 with heap:=O0.heap.push oJ}:=by
  intro Yw;refine ko (X:={bx X sc cap D Ca OP.heap.objs.size with l:=l',g:=(bx X sc cap D Ca OP.heap.objs.size).g.plus λa=>a=J,A:=X.A.mark none}) (B:=1) (pre:=O7) (gb:=(bx X sc cap D Ca OP.heap.objs.size).g) (inner:=λl' K'=>pe P.C X.H Pa l' λy=>K' [y])
   (xf ..) ⟨Kc.handled,Kc.depth,Kc.units,Kc.kind,Kc.globals,Kc.builtins,Kc.glob,Kc.loc,Kc.cel,Kc.hkc,Kc.code⟩ Sf.no OZ YK tf2 (ai Za) F2 SQ rfl (λb o _ e=>Qz b o e) (λx o z e=>⟨λq=>q.elim (λq=>z (q▸F.z _ F.d)) λq=>q.elim (λq=>z (q▸F.z _ F.c)) λq=>SM ⟨o,e⟩ q,λt=>z (.inl (Qw.tz x t).1)⟩)
   (λa z=>z.imp id λq=>WM a q) rfl (λd Sj h=>pX (λi hi=>?_) h) (aY hx) (bu Ui QQ) (λSj K'' Zg VV Zl _ hp c QQ=>?_) c' λSR Xn aaR Qk ht hl Qf nv kk tp=>?_
  ·refine a9 SG λd SG=>?_;have VC:i∉t.slots:=λq=>by
    have:=Ob.mp Vh i q;simp at this;exact this hi
   show l' i=none;rw[wD SG i VC];exact kH Sf YK i hi
  ·exact m0 (X:={bx X sc cap D Ca OP.heap.objs.size with l:=Sj,g:=(bx X sc cap D Ca OP.heap.objs.size).g.plus λa=>a=J,A:=X.A.mark none}) ie ⟨Kc.handled,Kc.depth,Kc.units,Kc.kind,Kc.globals,Kc.builtins,Kc.glob,Kc.loc,Kc.cel,Kc.hkc,Kc.code⟩ (ae Za) F2.to hp c (a8 QQ)
  ·have nJ:∀{b:Addr},(∃o,OP.heap.get? b=some o)→b≠J:=λhb q=>c8 hb (q▸j1);have ov:aC ((bx X sc cap D Ca OP.heap.objs.size).g.plus λa=>a=J) (bx X sc cap D Ca OP.heap.objs.size).g SR.heap Xn:=gx λb o hb e=>kk b o hb e;have zk:∀b,(bx X sc cap D Ca OP.heap.objs.size).g.Z b→¬b=J:=λb z=>SM (P1.at_.T b z);refine cb Qk ht (bu hl Ui) ⟨?_,λb o t e=>kk b o (nJ ⟨o,e⟩) (Qf.old b o t e),λb e=>(Qf.oex b e).imp λo=>kk b o (nJ e),λb o _ t e=>kk b o (nJ ⟨o,e⟩) (Qf.old b o t e),Qf.acc.imp λys=>.imp λn q=>⟨kk _ _ jD q.1,q.2.over ov⟩,Qf.dict.imp λm x=>fh x λo e=>kk _ o jC.symm e,
    At.minus (N:=λa=>a=J) (X:={bx X sc cap D Ca OP.heap.objs.size with l:=l'}) ⟨Qf.at_.T,Qf.at_.R,Qf.at_.W,Qf.at_.L,Qf.at_.I,Qf.at_.tp,Qf.at_.tz⟩ (λb e=>e▸F2.w _ F2.i) (λb e=>e▸F2.t _ F2.i) (λn v x=>nv.held kk x) zk (λb o hb e=>kk b o hb e) tp⟩ (λo e=>?_)
   ·refine ce Qf.same λh t Pq=>?_;obtain rfl:=Pq;exact aG _ _ rfl
   ·have e4:=Pn.abc _ _ (F.t _ F.i) e;have iJ:=SM ⟨o,e4⟩;exact kk _ o iJ (Qf.abc _ o (λq=>q.elim (λq=>F.di q.symm) λq=>q.elim F.ic iJ) (F.t _ F.i) e4)
 refine codeAny_mono (uG (go λ_ _=>False) ((SQ.walks (X.A.mark none) i.handled).self 0 _ _ _ SQ.st0 (go λ_ _=>False))) λr s' hr=>?_;cases r with
 |ok f=>exact NQ hr
 |error e=>exact hr.elim
def Ga{t:Tg}(h:CS P (.comp Pa t it Pl cap sc p)):VS P (.comp Pa t it Pl cap sc p)∧TS P (.comp Pa t it Pl cap sc p):=
 TS.plain (VS.acD h λ_=>rfl) λ_=>rfl
def BD{t:Tg}{t2:Tg}{Qo:ME}{PC:hV}(h:CS P (.abt Pa t it Pl t2 Qo PC cap sc p)):VS P (.abt Pa t it Pl t2 Qo PC cap sc p)∧TS P (.abt Pa t it Pl t2 Qo PC cap sc p):=
 TS.plain (VS.acD h λ_=>rfl) λ_=>rfl
def aR(OZ:P.T.Nodup)(hC:ah P.toCx P.n P.C)(e:ME):VS P e∧TS P e:=by
 induction e using ME.rec (motive_2:=λes=>PS P es∧Eg P es) with
 |c=>exact Ms
 |v=>exact MF
 |gv=>exact Kr hC
 |neg=>exact Ih
 |js=>exact L6
 |abQ=>exact FD
 |att _ _ _ o=>exact Hr hC o.1
 |rx _ _ _ _ _ _ es=>exact Lv hC es.1
 |abz _ _ _ _ _ _ _ es e=>exact Cy hC es.1 e.1
 |bin _ _ _ _ a b=>exact II a.1 b.1
 |cmp _ _ _ _ a b=>exact I7 a.1 b.1
 |abU _ _ _ _ _ _ a b c=>exact EM a.1 b.1 c.1
 |not _ _ a=>exact Hl a
 |and _ _ _ a b=>exact H1 a b
 |or _ _ _ a b=>exact LV a b
 |ife _ _ _ _ t a b=>exact Jt t.2 a b
 |idx _ _ _ a b=>exact G9 a.1 b.1
 |abG _ _ _ _ a b=>exact DM a.1 b.1
 |abp _ _ _ _ a b=>exact xx a.1 b.1
 |tup _ _ _ es=>exact G4 es.1
 |lst _ _ es=>exact G' es.1
 |call _ _ _ _ es=>exact Fn hC es.1
 |bi _ _ _ _ es=>exact Le hC es.1
 |mth _ _ _ _ _ o es=>exact Jh o.1 es.1
 |abm _ _ _ _ _ _ _ o=>exact Dn o.1
 |abR _ _ _ _ _ _ _ e=>exact Dt hC e.1
 |comp _ _ _ _ _ _ _ Pa it Pl=>exact Ga (vl OZ Pa.1 it.1 Pl.2)
 |abt _ _ _ _ _ _ _ _ _ _ Pa it Pl Qo PC=>exact BD (sL OZ Pa.1 it.1 Pl.2 Qo.1 PC.2)
 |nil=>exact Cs
 |cons _ _ a es=>exact vM a es
theorem eA(OZ:P.T.Nodup)(hC:ah P.toCx P.n P.C):∀es:hV,PS P es∧Eg P es
 |.nil=>Cs
 |.cons a es=>vM (aR OZ hC a) (eA OZ hC es)
set_option tactic.hygienic true in
def tq(OZ:P.T.Nodup)(hC:ah P.toCx P.n P.C)(e:ME)(h:gZ e=true):CS P e:=by
 cases e;case comp Pa _ it Pl _ _ _=>exact vl OZ (aR OZ hC Pa).1 (aR OZ hC it).1 (eA OZ hC Pl).2
 case abt Pa _ it Pl _ Qo PC _ _ _=>exact sL OZ (aR OZ hC Pa).1 (aR OZ hC it).1 (eA OZ hC Pl).2 (aR OZ hC Qo).1 (eA OZ hC PC).2
 all_goals exact absurd h N'
end
end
section
inductive XE where
 |pl (e:ME) | abq (p:Pos) | newD (p:Pos) | ab6 (q p:Pos) | own (e:ME)
 |mc (o:ME) (m:Str) (ap:Pos) (l:hV) (p:Pos) | mcs (o:ME) (m:Str) (ap:Pos) (l:hV) (e:ME) (sp p:Pos)
 |new (x:Str) (q:Pos) (l:hV) (p:Pos) | srt (q:Pos) (o:ME) (m:Str) (ap r p:Pos) | nxt (q:Pos) (o:ME) (p ap:Pos)
inductive XK where
 |asg (t:Tg) (x:XE) (p:Pos) | set (o:ME) (n:Str) (q:Pos) (x:XE) (p:Pos) | ab7 (o k:ME) (r:Pos) (i:Nat) (q:Pos) (x:XE) (p:Pos)
 |aug (o:ME) (n:Str) (q:Pos) (sub:Bool) (e:ME) (p:Pos) | app (o:ME) (ap:Pos) (x:XE) (p r:Pos) | expr (x:XE) (r:Pos) | clr (o:ME) (ap p r:Pos) | ab0 (o:ME) (ap:Pos) (e:ME) (p r:Pos)
 |ifN (i:Nat) (q:Pos) (e:ME) (w nq cq p:Pos) | ab2 (t:Tg) (it:ME) (p:Pos) | abI (x:XE) (p:Pos)
mutual
inductive MS where
 |never (st:Stmt) | ext (st:Stmt) (gs:List Str) (is:List Nat) | xk (k:XK) (b:MB) | asg (t:Tg) (e:ME) (p:Pos) | abq (i:Nat) (q r p:Pos) | newD (i:Nat) (q r p:Pos)
 |app (i:Nat) (q ap:Pos) (e:ME) (p r:Pos) | abT (i:Nat) (q:Pos) (k:ME) (r:Pos) (e:ME) (p:Pos)
 |ifS (c:ME) (a b:MB) (p:Pos) | abw (t:Tg) (it:ME) (b:MB) (p:Pos) | ab1 (t:Tg) (q:Pos) (it:ME) (r:Pos) (b:MB) (p:Pos) | aby (c:ME) (b:MB) (p:Pos)
 |ret (e:ME) (p:Pos) | brk (p:Pos) | cont (p:Pos) | abS (c:ME) (m:Option Expr) (p:Pos) | ab9 (b:MB) (Qb:ExceptHandler) (hs:List ExceptHandler) (p:Pos)
inductive MB where
 |nil | cons (s:MS) (b:MB)
end
def eM(again:Loc→AH→Prop)(K:Fl→Loc→AH→Prop)(fl:Fl)(l:Loc)(H:AH):Prop:=match fl with
 |.next=>again l H
 |.cont=>again l H
 |.brk=>K .next l H
 |.ret d=>K (.ret d) l H
noncomputable def abM(f:PV→Loc→AH→(Fl→Loc→AH→Prop)→Prop):List PV→Loc→AH→(Fl→Loc→AH→Prop)→Prop
 |[],l,H,K=>K .next l H
 |d::r,l,H,K=>f d l H (eM (λl' H'=>abM f r l' H' K) K)
def ab'(c:Loc→AH→(Bool→Prop)→Prop)(f:Loc→AH→(Fl→Loc→AH→Prop)→Prop)(l:Loc)(H:AH)(K:Fl→Loc→AH→Prop):Prop:=
 ∃I:Nat→Loc→AH→Prop,(∃n,I n l H)∧∀n l H,I n l H→c l H λr=>br r (f l H (eM (λl' H'=>∃m,m<n∧I m l' H') K)) (K .next l H)
noncomputable def PV.acI:PV→Option (List PV)
 |.lst l=>some l
 |_=>Option.none
def PV.abW{x:List PV}(h:d.acI=some x):d=.lst x:=by cases d<;>first | (cases h;rfl) | cases h
noncomputable def Gz:Tg→Bool
 |.one ..=>false
 |.two ..=>true
noncomputable def eg(n:Nat):List PV→List PV
 |[]=>[]
 |d::r=>.tup [.int n,d]::eg (n+1) r
def sK(C:cu)(H:AH)(d:PV)(m:Str)(c:Addr):Prop:=∃i fs ss,d=.obj i∧H[i]?=some (.inst c fs ss)∧C.ma c m=true∧aM m fs=none
def xe(C:cu)(x:XE)(l:Loc)(H:AH)(K:PV→AH→Prop):Prop:=match x with
 |.pl e=>pe C H e l λd=>K d H
 |.abq _=>K (.obj H.length) (H++[.lst []])
 |.newD _=>∀ep,K (.obj H.length) (H++[.dict [] ep])
 |.ab6 _ _=>K (.obj H.length) (H++[.set []])
 |.own e=>pe C H e l λd=>el d.acI λds=>el (dP ds) λ_=>K (.obj H.length) (H++[.lst ds])
 |.mc o m _ es _=>pe C H o l λd=>∃c,sK C H d m c∧pg C H es l λds=>C.mt c m H (d::ds) K
 |.mcs o m _ es e _ _=>pe C H o l λd=>∃c,sK C H d m c∧pg C H es l λds=>pe C H e l λu=>el (items H u) λus=>cG (aE us.length) (C.mt c m H (d::(ds++us)) K)
 |.new x _ es _=>cG (C.na x) (pg C H es l λds=>C.nt x H ds K)
 |.srt _ o m _ _ _=>pe C H o l λd=>∃c,sK C H d m c∧C.mt c m H [d] λr H'=>el (CX H' .sorted [r]) λu=>K u H'
 |.nxt _ o _ _=>pe C H o l λd=>el d.abA λi=>el (listItems H d) λ_=>K (.obj H.length) (H++[.nxt i 0])
def iZ(C:cu)(H:AH)(o:PV)(n:Str)(d:PV)(K:AH→Prop):Prop:=
 ∃i c fs ss,o=.obj i∧H[i]?=some (.inst c fs ss)∧(match C.sl c n with
  |some j=>j≤ss.length∧K (H.set i (.inst c fs (putAt ss j d)))
  |none=>C.ia c n=true∧fs.length≤100∧K (H.set i (.inst c (b9 n d fs) ss)))
noncomputable def jO(H:AH)(i:Nat):Option (List PV):=match H[i]? with
 |some (.lst l)=>some l
 |some (.dict l _)=>some (l.map λx=>.str x.1)
 |_=>none
noncomputable def setItems(H:AH)(i:Nat):Option (List Str):=match H[i]? with
 |some (.set l)=>some l
 |_=>none
def Ny(C:cu)(k:XK)(f:Loc→AH→(Fl→Loc→AH→Prop)→Prop)(l:Loc)(H:AH)(K:Fl→Loc→AH→Prop):Prop:=match k with
 |.asg t x _=>xe C x l H λd H'=>el (gP t l d) λl'=>K .next l' H'
 |.set o n _ x _=>xe C x l H λd H'=>pe C H' o l λod=>iZ C H' od n d λH''=>K .next l H''
 |.ab7 o k _ i _ x _=>xe C x l H λd H'=>pe C H' o l λod=>pe C H' k l λkd=>el od.abA λj=>el kd.abx λy=>el (bf H' od) λm=>cG (aE m.length) (∀ep,K .next (upd l i d) (H'.set j (.dict (b9 y d m) ep)))
 |.aug o n _ sub e _=>pe C H o l λod=>el (nV C H od n) λa=>el a.int? λx=>pe C H e l λb=>el b.int? λy=>iZ C H od n (.int (if sub then x-y else x+y)) λH'=>K .next l H'
 |.app o _ x _ _=>pe C H o l λod=>el od.abA λj=>el (listItems H od) λ_=>xe C x l H λd H'=>el (listItems H' od) λys=>cG (aE ys.length) (K .next l (H'.set j (.lst (ys++[d]))))
 |.expr x _=>xe C x l H λ_ H'=>K .next l H'
 |.clr o _ _ _=>pe C H o l λod=>el od.abA λj=>el (listItems H od) λys=>cG (aE ys.length) (K .next l (H.set j (.lst [])))
 |.ab0 o _ e _ _=>pe C H o l λod=>el od.abA λj=>el (setItems H j) λys=>pe C H e l λd=>el d.abx λy=>cG (decide (ys.length<4000)) (K .next l (H.set j (.set (y::ys))))
 |.ifN i _ e _ _ _ _=>pe C H e l λd=>el d.isNone λr=>br r (f (upd l i d) H K) (K .next (upd l i d) H)
 |.ab2 t it _=>pe C H it l λd=>el d.abA λj=>el (jO H j) λds=>cG (aE ds.length) (abM (λd l' H' K'=>el (gP t l' d) λSj=>f Sj H' λfl l₂ Pd=>Pd[j]?=H[j]?∧K' fl l₂ Pd) ds l H K)
 |.abI x _=>∃I:Nat→Loc→AH→Prop,(∃n,I n l H)∧∀n l H,I n l H→xe C x l H λd H'=>el (bB H' d) λr=>br r (f l H' (eM (λl' H''=>∃m,m<n∧I m l' H'') K)) (K .next l H')
mutual
noncomputable def xs(C:cu):MS→Loc→AH→(Fl→Loc→AH→Prop)→Prop
 |.never _,_,_,_=>False
 |.ext st gs is,l,H,K=>C.xt st gs is l H K
 |.xk k b,l,H,K=>Ny C k (λl H K=>xb C b l H K) l H K
 |.asg t e _,l,H,K=>pe C H e l λd=>el (gP t l d) λl'=>K .next l' H
 |.abq i _ _ _,l,H,K=>K .next (upd l i (.obj H.length)) (H++[.lst []])
 |.newD i _ _ _,l,H,K=>∀ep,K .next (upd l i (.obj H.length)) (H++[.dict [] ep])
 |.app i _ _ e _ _,l,H,K=>el (l i) λo=>el o.abA λj=>el (listItems H o) λys=>cG (aE ys.length) (pe C H e l λd=>K .next l (H.set j (.lst (ys++[d]))))
 |.abT i _ k _ e _,l,H,K=>pe C H e l λd=>el (l i) λo=>el o.abA λj=>el (bf H o) λm=>pe C H k l λkd=>el kd.abx λx=>cG (aE m.length) (∀ep,K .next l (H.set j (.dict (b9 x d m) ep)))
 |.ifS c a b _,l,H,K=>yQ C H c l λr=>br r (xb C a l H K) (xb C b l H K)
 |.abw t it b _,l,H,K=>pe C H it l λx=>el (iF x) λds=>cG (aE ds.length) (abM (λd l H K'=>el (gP t l d) λl'=>xb C b l' H K') ds l H K)
 |.ab1 t _ it _ b _,l,H,K=>pe C H it l λx=>el x.acI λds=>cG (aE ds.length) (abM (λd l H K'=>el (gP t l d) λl'=>xb C b l' H K') (eg 0 ds) l H K)
 |.aby c b _,l,H,K=>ab' (λl H K=>yQ C H c l K) (λl H K=>xb C b l H K) l H K
 |.ret e _,l,H,K=>pe C H e l λd=>K (.ret d) l H
 |.brk _,l,H,K=>K .brk l H
 |.cont _,l,H,K=>K .cont l H
 |.abS c _ _,l,H,K=>yQ C H c l λr=>br r (K .next l H) False
 |.ab9 b _ _ _,l,H,K=>xb C b l H K
noncomputable def xb(C:cu):MB→Loc→AH→(Fl→Loc→AH→Prop)→Prop
 |.nil,l,H,K=>K .next l H
 |.cons s b,l,H,K=>xs C s l H λfl l' H'=>match fl with
  |.next=>xb C b l' H' K
  |fl=>K fl l' H'
end
def fH(T:List Str):XE→Expr
 |.pl e=>aX T e
 |.abq p=>.List [] p
 |.newD p=>.Dict [] [] p
 |.ab6 q p=>.Call (.Name ("set":Str) q) [] [] p
 |.own e=>aX T e
 |.mc o m ap l p=>.Call (.Attribute (aX T o) m ap) (b8 T l) [] p
 |.mcs o m ap l e sp p=>.Call (.Attribute (aX T o) m ap) (b8 T l++[.Starred (aX T e) sp]) [] p
 |.new x q l p=>.Call (.Name x q) (b8 T l) [] p
 |.srt q o m ap r p=>.Call (.Name ("sorted":Str) q) [.Call (.Attribute (aX T o) m ap) [] [] r] [] p
 |.nxt q o p ap=>.Attribute (.Call (.Name ("iter":Str) q) [aX T o] [] p) ("__next__":Str) ap
def M4(T:List Str)(b:List Stmt):XK→Stmt
 |.asg t x p=>.Assign [db T t] (fH T x) p
 |.set o n q x p=>.Assign [.Attribute (aX T o) n q] (fH T x) p
 |.ab7 o k r i q x p=>.Assign [.Subscript (aX T o) (aX T k) r,.Name (nm T i) q] (fH T x) p
 |.aug o n q sub e p=>.AugAssign (.Attribute (aX T o) n q) (if sub then .Sub else .Add) (aX T e) p
 |.app o ap x p r=>.Expr (.Call (.Attribute (aX T o) ("append":Str) ap) [fH T x] [] p) r
 |.expr x r=>.Expr (fH T x) r
 |.clr o ap p r=>.Expr (.Call (.Attribute (aX T o) ("clear":Str) ap) [] [] p) r
 |.ab0 o ap e p r=>.Expr (.Call (.Attribute (aX T o) ("add":Str) ap) [aX T e] [] p) r
 |.ifN i q e w nq cq p=>.If (.Compare (.NamedExpr (.Name (nm T i) q) (aX T e) w) [.Is] [.Constant .none 0 nq] cq) b [] p
 |.ab2 t it p=>.For (db T t) (aX T it) b [] p
 |.abI x p=>.While (fH T x) b [] p
mutual
noncomputable def IW(T:List Str):MS→Stmt
 |.never st=>st
 |.ext st _ _=>st
 |.xk k b=>M4 T (iY T b) k
 |.asg t e p=>.Assign [db T t] (aX T e) p
 |.abq i q r p=>.Assign [.Name (nm T i) q] (.List [] r) p
 |.newD i q r p=>.Assign [.Name (nm T i) q] (.Dict [] [] r) p
 |.app i q ap e p r=>.Expr (.Call (.Attribute (.Name (nm T i) q) ("append":Str) ap) [aX T e] [] p) r
 |.abT i q k r e p=>.Assign [.Subscript (.Name (nm T i) q) (aX T k) r] (aX T e) p
 |.ifS c a b p=>.If (aX T c) (iY T a) (iY T b) p
 |.abw t it b p=>.For (db T t) (aX T it) (iY T b) [] p
 |.ab1 t q it r b p=>.For (db T t) (.Call (.Name ("enumerate":Str) q) [aX T it] [] r) (iY T b) [] p
 |.aby c b p=>.While (aX T c) (iY T b) [] p
 |.ret e p=>.Return (some (aX T e)) p
 |.brk p=>.Break p
 |.cont p=>.Continue p
 |.abS c m p=>.Assert (aX T c) m p
 |.ab9 b Qb hs p=>.Try (iY T b) (Qb::hs) [] [] p
noncomputable def iY(T:List Str):MB→List Stmt
 |.nil=>[]
 |.cons s b=>IW T s::iY T b
end
noncomputable def IA:ME→Bool
 |.tup ..=>true
 |_=>false
def wz(T:List Str)(ns:kF)(t:Tg)(e:ME):Bool:=match t with
 |.one ..=>true
 |.two i j _ _ _ _=>!IA e||(ns.lookup (nm T i)==some .cell||ns.lookup (nm T j)==some .cell)
noncomputable def og:XE→Bool
 |.pl _=>false
 |.own _=>false
 |_=>true
def vV(T:List Str)(o:ME)(ap p:Pos)(ns:kF)(cd:Option (Addr×Str)):Bool:=gH (aX T o)&&(ap.endLine==p.line&&cZ T o ns cd)
def xX(T:List Str)(ns:kF)(cd:Option (Addr×Str)):XE→Bool
 |.pl e=>cZ T e ns cd
 |.abq _=>true
 |.newD _=>true
 |.ab6 _ _=>o0 ns ("set":Str)
 |.own e=>gZ e&&cZ T e ns cd
 |.mc o _ ap l p=>vV T o ap p ns cd&&(decide (rZ l<30)&&fR T l ns cd)
 |.mcs o _ ap l e _ p=>vV T o ap p ns cd&&(decide (rZ l<2)&&(fR T l ns cd&&cZ T e ns cd))
 |.new x _ l _=>o0 ns x&&fR T l ns cd
 |.srt _ o _ ap r _=>o0 ns ("sorted":Str)&&vV T o ap r ns cd
 |.nxt _ o _ _=>o0 ns ("iter":Str)&&cZ T o ns cd
def NH(T:List Str)(ns:kF)(cd:Option (Addr×Str)):XK→Bool
 |.asg t x _=>lu T ns t&&(og x&&xX T ns cd x)
 |.set o _ _ x _=>cZ T o ns cd&&xX T ns cd x
 |.ab7 o k _ i q x _=>lu T ns (.one i q)&&(cZ T o ns cd&&(cZ T k ns cd&&(og x&&xX T ns cd x)))
 |.aug o _ _ _ e _=>cZ T o ns cd&&cZ T e ns cd
 |.app o ap x p _=>vV T o ap p ns cd&&xX T ns cd x
 |.expr x _=>og x&&xX T ns cd x
 |.clr o ap p _=>vV T o ap p ns cd
 |.ab0 o ap e p _=>vV T o ap p ns cd&&cZ T e ns cd
 |.ifN i q e _ _ _ _=>lu T ns (.one i q)&&cZ T e ns cd
 |.ab2 t it _=>lu T ns t&&cZ T it ns cd
 |.abI x _=>og x&&xX T ns cd x
mutual
noncomputable def MT(T:List Str):MS→kF→Option (Addr×Str)→Bool
 |.never _,_,_=>true
 |.ext _ gs is,ns,_=>gs.all (o0 ns)&&is.all λi=>decide (i<T.length)&&gE ns (nm T i)
 |.xk k b,ns,cd=>NH T ns cd k&&sS T b ns cd
 |.asg t e _,ns,cd=>lu T ns t&&(wz T ns t e&&cZ T e ns cd)
 |.abq i q _ _,ns,_=>lu T ns (.one i q)
 |.newD i q _ _,ns,_=>lu T ns (.one i q)
 |.app i _ ap e p _,ns,cd=>!(nm T i==xi)&&(ap.endLine==p.line&&cZ T e ns cd)
 |.abT i _ k _ e _,ns,cd=>!(nm T i==xi)&&(cZ T k ns cd&&cZ T e ns cd)
 |.ifS c a b _,ns,cd=>cZ T c ns cd&&(sS T a ns cd&&sS T b ns cd)
 |.abw t it b _,ns,cd=>lu T ns t&&(cZ T it ns cd&&sS T b ns cd)
 |.ab1 t _ it _ b _,ns,cd=>(Gz t&&lu T ns t)&&(o0 ns ("enumerate":Str)&&(cZ T it ns cd&&sS T b ns cd))
 |.aby c b _,ns,cd=>cZ T c ns cd&&sS T b ns cd
 |.ret e _,ns,cd=>cZ T e ns cd
 |.brk _,_,_=>true
 |.cont _,_,_=>true
 |.abS c _ _,ns,cd=>cZ T c ns cd
 |.ab9 b _ _ _,ns,cd=>sS T b ns cd
noncomputable def sS(T:List Str):MB→kF→Option (Addr×Str)→Bool
 |.nil,_,_=>true
 |.cons s b,ns,cd=>MT T s ns cd&&sS T b ns cd
end
structure Ok(P:Pk)(X:Rt)(s:Shared):Prop extends At P X s where
 fm:Fm X s.heap
 cs:∀n c,(X.env.kindOf n=some .cell∨X.env.kindOf n=some .free)→X.env.cells.lookup n=some c→ox X.ns X.env c
 fr:x7 P.C X.g X.A s.heap
 hd:P.C.fr=true→∃Qa,X.A.frames=some (X.env::Qa)∧X.env.frame=some X.env.locals
structure Ev(P:Pk)(X:Rt)(s:Shared)(g':Gh)(s':Shared):Prop where
 same:∃h tk,s'={s with heap:=h,toks:=tk}
 abc:∀b o,¬X.g.W b→¬ox X.ns X.env b→¬P.toCx.T b→¬gR X.A b→s.heap.get? b=some o→s'.heap.get? b=some o
 slot:∀b o,¬X.g.W b→¬ox X.ns X.env b→¬P.toCx.T b→gR X.A b→s.heap.get? b=some o→∃sl,s'.heap.get? b=some {o with slots:=sl}
 z:∀b,X.g.Z b→g'.Z b
 zn:∀b,(∃o,s.heap.get? b=some o)→g'.Z b→X.g.Z b
 wn:∀b,(∃o,s.heap.get? b=some o)→g'.W b→X.g.W b
 ad:∀(i:Nat)(p:Addr×Addr),X.g.ad[i]?=some p→g'.ad[i]?=some p
 ex:∀b,(∃o,s.heap.get? b=some o)→∃o,s'.heap.get? b=some o
section
def Ev.trans(a:Ev P X s g' s')(b:Ev P {X with g:=g',l:=l,H:=H} s' Ud s''):Ev P X s Ud s'':=by
 refine⟨ce a.same λh t Pt=>?_,λx o w n t f e=>b.abc x o (λq=>w (a.wn x ⟨o,e⟩ q)) n t f (a.abc x o w n t f e),λx o w n t f e=>(a.slot x o w n t f e).elim λsl q=>b.slot x {o with slots:=sl} (λq=>w (a.wn x ⟨o,e⟩ q)) n t f q,λx q=>b.z x (a.z x q),λx e q=>a.zn x e (b.zn x (a.ex x e) q),λx e q=>a.wn x e (b.wn x (a.ex x e) q),λi x e=>b.ad i x (a.ad i x e),λx e=>b.ex x (a.ex x e)⟩;obtain rfl:=Pt;refine ce b.same λh' t' O8=>?_;obtain rfl:=O8;exact aG h' t' rfl
def Ev.kp(k:Kp P.toCx X.g s s'):Ev P X s X.g s':=⟨k.same,λb o _ _ t _ e=>k.abc b o t e,λb o _ _ t _ e=>⟨o.slots,k.abc b o t e⟩,λ_ q=>q,λ_ _ q=>q,λ_ _ q=>q,λ_ _ e=>e,k.ex⟩
def Ev.over(a:Ev P X s g' s')(O:Ok P X s):aC X.g g' s.heap s'.heap:=
 ⟨λb o z e=>⟨λq=>z (a.zn b ⟨o,e⟩ q),a.abc b o (λq=>z (X.g.sub b q)) (λq=>z (O.fm.z b q)) (λq=>z (O.tz b q).1) (λq=>z (O.fr.at q).1) e⟩,a.ad⟩
def Ok.kp(O:Ok P X s)(k:Kp P.toCx X.g s s'):Ok P X s':=⟨O.toAt.k k,O.fm.keeps λb o hb e=>k.abc b o (O.fm.abe O.toAt hb) e,O.cs,O.fr.over λb o _ z w e d=>dK z w o (k.abc b o (λt=>(O.tab t).elim λvs y=>by rw[e] at y;cases y;exact d _ rfl) e) d,O.hd⟩
end
def fE(g:Gh)(h:Heap):Fl→Flow→Prop
 |.next,f=>f=.next
 |.brk,f=>f=.brk
 |.cont,f=>f=.cont
 |.ret d,f=>∃v,f=.ret v∧abb g h d v
section
variable(P:Pk)
def XS(st:MS):Prop:=∀(X:Rt)(s:Shared)(K:Fl→Loc→AH→Prop)(Q:Flow→Shared→Prop)(E:Value→Shared→Prop),In P.n X→MT P.T st X.ns X.cd=true→Ok P X s→xs P.C st X.l X.H K →
 (∀f fl s' g' l' H',K fl l' H'→Ok P {X with g:=g',l:=l',H:=H'} s'→Ev P X s g' s'→fE g' s'.heap fl f→Q f s')→wpAny P.M X.A (exec (IW P.T st) X.env) Q E s
def XB(b:MB):Prop:=∀(X:Rt)(s:Shared)(K:Fl→Loc→AH→Prop)(Q:Flow→Shared→Prop)(E:Value→Shared→Prop),In P.n X→sS P.T b X.ns X.cd=true→Ok P X s→xb P.C b X.l X.H K →
 (∀f fl s' g' l' H',K fl l' H'→Ok P {X with g:=g',l:=l',H:=H'} s'→Ev P X s g' s'→fE g' s'.heap fl f→Q f s')→wpAny P.M X.A (execs (iY P.T b) X.env) Q E s
end
section
def z0:XB P .nil:=λX s K Q E i ok O hx hQ=>wpAny_execs_nil (hQ _ .next s X.g X.l X.H hx O (Ev.kp O.refl) rfl)
def wo{st:MS}{b:MB}(hs:XS P st)(hb:XB P b):XB P (.cons st b):=by
 refine λX s K Q E i ok O hx hQ=>wpAny_execs_cons (hs X s _ _ E i (ai ok) O hx λf fl OP Pw l₁ O1 hk OS Pb OT=>?_);cases fl with
 |next=>
  cases OT;exact hb {X with g:=Pw,l:=l₁,H:=O1} OP K Q E i.to (ae ok) OS hk λf fl OR Pp l₂ Pd hk OW O2 OY=>hQ f fl OR Pp l₂ Pd hk OW (Pb.trans O2) OY
 |brk=>cases OT;exact hQ _ .brk _ _ _ _ hk OS Pb rfl
 |cont=>cases OT;exact hQ _ .cont _ _ _ _ hk OS Pb rfl
 |ret d=>
  refine ay OT λv PA r=>?_;obtain rfl:=PA;exact hQ _ (.ret d) _ _ _ _ hk OS Pb (ak v rfl r)
def HR:XS P (.brk p):=λX s K Q E i ok O hx hQ=>wpAny_Break (hQ _ .brk s X.g X.l X.H hx O (Ev.kp O.refl) rfl)
def FY:XS P (.cont p):=λX s K Q E i ok O hx hQ=>wpAny_Continue (hQ _ .cont s X.g X.l X.H hx O (Ev.kp O.refl) rfl)
def IT(ie:VS P e):XS P (.ret e p):=λX s K Q E i ok O hx hQ=>
 wpAny_Return_some (ie X s _ _ E i ok O.toAt hx λv s' d hk k r=>hQ _ (.ret d) s' X.g X.l X.H hk (O.kp k) (Ev.kp k) (ak v rfl r))
def Er{c:ME}{m:Option Expr}(ic:TS P c):XS P (.abS c m p):=λX s K Q E i ok O hx hQ=>
 wpAny_Assert_holds (ic X s _ _ E i ok O.toAt hx λd hd=>a6 hd λr hr hk=>ak r hr (λs' k=>by cases r;exact hk.elim;exact⟨rfl,hQ _ .next s' X.g X.l X.H hk (O.kp k) (Ev.kp k) rfl⟩))
def Ku{c:ME}{a b:MB}(ic:TS P c)(ia:XB P a)(ib:XB P b):XS P (.ifS c a b p):=λX s K Q E i ok O hx hQ=>
 wpAny_If (ic X s _ _ E i (ai ok) O.toAt hx λd hd=>a6 hd λr hr hk=>ak r hr (λOP k=>by
  cases r
  ·exact ib X OP K Q E i (ae (ae ok)) (O.kp k) hk λf fl OR Pp l₂ Pd hk OW O2 OY=>hQ f fl OR Pp l₂ Pd hk OW ((Ev.kp k).trans O2) OY
  ·exact ia X OP K Q E i (ai (ae ok)) (O.kp k) hk λf fl OR Pp l₂ Pd hk OW O2 OY=>hQ f fl OR Pp l₂ Pd hk OW ((Ev.kp k).trans O2) OY))
end
end
variable{b rest:MB}
section
noncomputable def Gh.grow(g:Gh)(P:Addr→Prop)(p:Addr×Addr):Gh:=⟨λx=>g.Z x∨P x,λx=>g.W x∨P x,g.ad++[p],λx h=>h.imp (g.sub x) id⟩
def eC{α:Type}{l:List α}{x y:α}(h:(l++[x])[i]?=some y):(i<l.length∧l[i]?=some y)∨(i=l.length∧x=y):=by
 rcases Nat.lt_trichotomy i l.length with q | q | q
 ·rw[Ow q] at h;exact .inl ⟨q,h⟩
 ·subst q;simp at h;exact .inr ⟨rfl,h⟩
 ·rw[List.getElem?_eq_none (by rw[NP,List.length_singleton];exact q)] at h;cases h
def fV{α:Type}{l:List α}{y:α}(h:l[i]?=some y):i<l.length:=(Og.mp h).1
section
variable{Q:Flow→Shared→Prop}
def kq{p:Addr×Addr}(hN:∀x,N x→h.get? x=none)(k:∀b o,h.get? b=some o→h'.get? b=some o):aC g (g.grow N p) h h':=
 ⟨λx o z e=>⟨λq=>q.elim z λq=>c8 ⟨o,e⟩ (hN x q),k x o e⟩,λi x e=>by
  show(g.ad++[p])[i]?=some x;rw[Ow (fV e)];exact e⟩
theorem bG.grow{p:Addr×Addr}{o:AO}(R:bG S g H h)(ex:∀(i:Nat)(q:Addr×Addr),g.ad[i]?=some q→(∃o,h.get? q.1=some o)∧∃o,h.get? q.2=some o)(hN:∀x,N x→h.get? x=none)(k:∀b o,h.get? b=some o→h'.get? b=some o)(ha:h.get? p.1=none)(hb:h.get? p.2=none)(r:mG S (g.grow N p) h' p o):bG S (g.grow N p) (H++[o]) h':=by
 have U7:∀{q:Addr×Addr}{i:Nat},g.ad[i]?=some q→Apart q p:=λe=>by
  exact aU (ex _ _ e) λe1 e2=>aS (λq=>c8 e1 (q▸ha)) (λq=>c8 e1 (q▸hb)) (λq=>c8 e2 (q▸ha)) (λq=>c8 e2 (q▸hb))
 refine⟨?_,λi j q r RR e1 e2=>?_,λi Rr q e1 e2=>?_⟩
 ·show(g.ad++[p]).length=_;rw[NP,NP,R.len];rfl
 ·rcases eC (l:=g.ad) e1 with ⟨p1,q1⟩ | ⟨p1,rfl⟩<;>rcases eC (l:=g.ad) e2 with ⟨p2,q2⟩ | ⟨p2,rfl⟩
  ·exact R.sep i j q r RR q1 q2
  ·exact U7 q1
  ·exact(U7 q2).symm
  ·exact absurd (p1.trans p2.symm) RR
 ·rcases eC e1 with ⟨p1,q1⟩ | ⟨p1,rfl⟩<;>rcases eC (l:=g.ad) e2 with ⟨p2,q2⟩ | ⟨p2,rfl⟩
  ·exact(R.at_ i Rr q q1 q2).over (kq hN k) (λ_=>.inl) (λx=>k _ x) (λx=>k _ x)
  ·have:=R.len;lia
  ·have:=R.len;lia
  ·exact r
def Ok.abY(O:Ok P X s){q:Addr×Addr}(e:X.g.ad[i]?=some q):(∃o,s.heap.get? q.1=some o)∧∃o,s.heap.get? q.2=some o:=
 have w:=O.R.w e
 ⟨O.T _ (X.g.sub _ w.1),O.T _ (X.g.sub _ w.2)⟩
theorem Ok.grow{p:Addr×Addr}{o:AO}(O:Ok P X s)(hN:∀x,N x→s.heap.get? x=none)(WL:∀x,N x→∃o,h'.get? x=some o)(k:∀b o,s.heap.get? b=some o→h'.get? b=some o)(ha:s.heap.get? p.1=none)(hb:s.heap.get? p.2=none)(tp:0<tk)(r:mG P.toCx (X.g.grow N p) h' p o):Ok P {X with g:=X.g.grow N p,H:=X.H++[o]} {s with heap:=h',toks:=tk}∧Ev P X s (X.g.grow N p) {s with heap:=h',toks:=tk}:=by
 have ov:=kq (g:=X.g) (p:=p) hN k;refine⟨⟨⟨λx hx=>hx.elim (λhx=>(O.T x hx).imp λo=>k x o) (WL x),O.R.grow (λi q e=>O.abY e) hN k ha hb r,O.W.over ov,O.L.over ov λn v x=>x.keeps k,O.I.over ov.obj λb o _ e=>k b o e,tp,λb t=>⟨.inl (O.tz b t).1,λq=>q.elim (O.tz b t).2 λq=>c8 ((O.tab t).imp' _ λ_=>id) (hN b q)⟩⟩,?_,O.cs,O.fr.over λb o _ z w e d=>dK (.inl z) (λq=>q.elim w λq=>c8 ⟨o,e⟩ (hN b q)) o (k b o e) d,O.hd⟩,?_⟩
 ·have F:=O.fm.keeps λb o _ e=>k b o e;exact⟨λx hx=>.inl (F.z x hx),λx hx q=>q.elim (F.w x hx) λq=>c8 (O.fm.ex hx) (hN x q),F.dict,F.cells,F.apart⟩
 ·exact⟨aG h' tk rfl,λb o _ _ _ _ e=>k b o e,λb o _ _ _ _ e=>⟨o.slots,k b o e⟩,λb q=>.inl q,λb e q=>q.elim id λq=>c8 e (hN b q),λb e q=>q.elim id λq=>c8 e (hN b q),ov.ad,λb e=>e.imp λo=>k b o⟩
theorem Ok.st(O:Ok P X s)(S:St P X s s' l'):Ok P {X with l:=l'} s':=⟨O.toAt.st O.fm S,⟨S.fm.z,S.fm.w,S.fm.dict,S.fm.cells,S.fm.apart⟩,O.cs,O.fr.over λb o _ z w e d=>⟨z,w,by
 by_cases q:ox X.ns X.env b
 ·exact S.fm.nf q
 ·exact ak o (S.abc b o q e) d⟩,O.hd⟩
def Ev.st(S:St P X s s' l'):Ev P X s X.g s':=⟨S.same,λb o _ n _ _ e=>S.abc b o n e,λb o _ n _ _ e=>⟨o.slots,S.abc b o n e⟩,λ_ q=>q,λ_ _ q=>q,λ_ _ q=>q,λ_ _ e=>e,S.ex⟩
def abo{t:Tg}{v:Value}(i:In P.n X)(hm:lu P.T X.ns t=true)(OZ:P.T.Nodup)(O:Ok P X s)(ht:gP t X.l d=some l')(r:abb X.g s.heap d v)(hQ:∀s',Ok P {X with l:=l'} s'→Ev P X s X.g s'→Q .next s'):wpAny P.M X.A (assign (db P.T t) X.env v) (λ_=>Q .next) E s:=
 iT i hm O.fm O.L OZ O.tp ht r λs' S=>hQ s' (O.st S) (Ev.st S)
def c5{M:Model}{A:Around}{tx x:Expr}(htx:(∃y p,tx=.Name y p)∨∃es k p,tx=.Tuple es k p)(hs:swapsWith x (some tx) pos.line env=pure false)(hw:swappedStores [tx] x env=pure none)(h:wpAny M A (eval x env) (λv OP=>wpAny M A (assign tx env v) (λ_=>Q .next) E OP) E s):wpAny M A (exec (.Assign [tx] x pos) env) Q E s:=by
 rw[exec_Assign];refine NN (ON ?_);rw[show swapsWithSole [tx] x pos.line env=swapsWith x (some tx) pos.line env from rfl,hs];refine NN (NQ ?_);rw[NY kD];refine NN (OH h (λv OP O9=>?_) λ_ _ x=>x);rw[hw];refine NN (NQ ?_);rcases htx with ⟨y,p,rfl⟩ | ⟨es,k,p,rfl⟩
 ·show wpAny _ A (do assignAll v [assign (.Name y p) env];pure .next) Q E OP;exact NN (OH O9 (λ_ _ x=>NQ x) λ_ _ x=>x)
 ·show wpAny _ A (do assignAll v [assign (.Tuple es k p) env];pure .next) Q E OP;exact NN (OH O9 (λ_ _ x=>NQ x) λ_ _ x=>x)
def jq(T:List Str)(t:Tg):(∃y p,db T t=.Name y p)∨∃es k p,db T t=.Tuple es k p:=by
 cases t
 ·exact .inl (aG _ _ rfl)
 ·exact .inr (aG _ _ ⟨_,rfl⟩)
def k8(T:List Str){t:Option Expr}(h:gZ e=false):swapsWith (aX T e) t ln env=pure false:=by
 cases e<;>first | rfl | exact absurd h.symm N'
def sw{x:Expr}{es:List Expr}{k:Nat}:swapsWith x (some (.Tuple es k p)) ln env=pure false:=by
 cases x<;>rfl
def dE{x:Expr}:swappedStores [.Name y p] x env=pure none:=by
 cases x<;>rfl
def CN{α β:Type}{g:α→Option β}{x y:α}(h:g x=none∨g y=none):((List.filterMap g [x,y]).length !=[x,y].length)=true:=by
 rcases h with h | h
 ·rw[List.filterMap_cons_none h];cases hy:g y<;>simp[hy]
 ·cases hx:g x<;>simp[h,hx]
def m4{α:Type}{c:Prop}[Decidable c]{a b x:α}(ha:a=x)(hb:¬c→b=x):(if c then a else b)=x:=by
 by_cases h:c
 ·rw[N1 h];exact ha
 ·rw[NY h];exact hb h
def qz{vs:List Expr}{k':Nat}{a b:Str}{p:Pos}{k:Nat}(h:env.kindOf a≠some .local∨env.kindOf b≠some .local):swappedStores [.Tuple [.Name a p,.Name b q] k r] (.Tuple vs k' p') env=pure none:=by
 have n:∀{y:Str}{c:Bool}{p:Pos},env.kindOf y≠some .local→(if(env.kindOf y==some NameKind.local&&c)=true then some y else none)=none:=λh=>NY (by rw[OG h];exact N');exact m4 rfl λ_=>m4 rfl λ_=>m4 rfl λhc=>(hc (On.mpr (.inl (CN (h.imp (λh=>n (p:=p) h) λh=>n (p:=p) h))))).elim
def oL{t:Tg}(i:In P.n X)(h:wz P.T X.ns t e=true):swappedStores [db P.T t] (aX P.T e) X.env=pure none:=by
 cases t with
 |one k p=>exact dE
 |two k j p q m r=>
  cases e<;>first
   |rfl
   |exact qz ((On.mp (show(X.ns.lookup (nm P.T k)==some .cell||X.ns.lookup (nm P.T j)==some .cell)=true from h)).imp (λq=>by rw[i.hkc _ (Ol.mp q)];decide) λq=>by rw[i.hkc _ (Ol.mp q)];decide)
def Ok.acR(O:Ok P X s)(k:Kp P.toCx X.g s s')(hC:s.heap.get? Ca=none)(Q8:∃m,s'.heap.Ns Ca m)(ti:P.TI (X.g.plus λa=>a=Ca) s'.heap):Ok P {X with g:=X.g.plus λa=>a=Ca} s':=by
 have ov:aC X.g (X.g.plus λa=>a=Ca) s.heap s'.heap:=⟨λa o z e=>⟨λq=>q.elim z λq=>c8 ⟨o,e⟩ (q▸hC),k.abc a o (λt=>z (O.tz a t).1) e⟩,λ_ _ e=>e⟩;have F:=(O.kp k).fm;refine⟨⟨λb z=>z.elim (λz=>k.ex b (O.T b z)) λq=>Q8.elim λm h=>h.elim λo h=>h.elim λ_ h=>h.elim λ_ h=>⟨o,q▸h.1⟩,O.R.over ov rfl (λ_ z=>z) λb o w e=>k.abc b o (λt=>(O.tz b t).2 w) e,O.W.over ov,O.L.over ov λ_ _ x=>O.held k x,ti,k.tp,λb t=>⟨.inl (O.tz b t).1,(O.tz b t).2⟩⟩,⟨λx hx=>.inl (F.z x hx),F.w,F.dict,F.cells,F.apart⟩,O.cs,(O.kp k).fr.over λb o _ z w e d=>dK (.inl z) w o e d,O.hd⟩
def Ok.noC(O:Ok P X s)(hC:s.heap.get? Ca=none):¬X.g.W Ca∧¬P.toCx.T Ca∧¬gR X.A Ca∧¬ox X.ns X.env Ca:=
 (aS (λw=>c8 (O.T _ (X.g.sub _ w)) hC) (λt=>c8 ((O.tab t).imp' _ λ_=>id) hC) (λq=>(O.fr.at q).2.2.elim λo e=>c8 ⟨o,e.1⟩ hC) (λq=>c8 (O.fm.ex q) hC))
def Ok.acX{m:Str→Option Value}(O:Ok P X s)(k:Kp P.toCx X.g s s')(hC:s.heap.get? Ca=none)(OW:Ok P {X with g:=X.g.plus λa=>a=Ca,l:=l'} OR)(O2:Ev P {X with g:=X.g.plus λa=>a=Ca} s' (X.g.plus λa=>a=Ca) OR)(hm:OR.heap.Ns Ca m)(kk:∀b o,b≠Ca→OR.heap.get? b=some o→h'.get? b=some o):Ok P {X with l:=l'} {OR with heap:=h'}∧Ev P X s X.g {OR with heap:=h'}:=by
 refine bD (O.noC hC) λXz Xy Y' noC=>?_;have VN:∀{b:Addr},(∃o,s.heap.get? b=some o)→b≠Ca:=λe q=>c8 e (q▸hC);have WB:At P {X with l:=l'} {OR with heap:=h',toks:=OR.toks}:=At.minus (N:=λa=>a=Ca) (X:={X with l:=l'}) ⟨OW.T,OW.R,OW.W,OW.L,OW.I,OW.tp,OW.tz⟩ (λb e=>e▸Xz) (λb e=>e▸Xy) (λn v x=>x.at (λm _ o e=>kk _ o (λq=>noC (.inl q.symm)) e) λc u hc o e=>kk _ o (λq=>iB hm (q▸hc)) e)
  (λb z=>VN (O.T b z)) (λb o hb e=>kk b o hb e) OW.tp
 have F:Fm {X with g:=X.g.plus λa=>a=Ca,l:=l'} h':=OW.fm.keeps λb o hb e=>kk b o (λq=>noC (q▸hb)) e;refine⟨⟨WB,⟨O.fm.z,O.fm.w,F.dict,F.cells,F.apart⟩,O.cs,O.fr.over λb o f z w e d=>⟨z,w,(OW.fr.at f).2.2.imp λo' q=>⟨kk b o' (VN ⟨o,e⟩) q.1,q.2⟩⟩,O.hd⟩,ce k.same λO9 t₁ Pt=>?_,λb o nw no nt f e=>kk b o (VN ⟨o,e⟩) (O2.abc b o nw no nt f (k.abc b o nt e)),λb o nw no nt f e=>(O2.slot b o nw no nt f (k.abc b o nt e)).imp λsl q=>kk b _ (VN ⟨o,e⟩) q,λ_ q=>q,λ_ _ q=>q,λ_ _ q=>q,λ_ _ e=>e,λb e=>(O2.ex b (k.ex b e)).imp λo=>kk b o (VN e)⟩;obtain rfl:=Pt;refine ce O2.same λO4 t₂ O8=>?_;obtain rfl:=O8;exact aG h' t₂ rfl
def Ap(OZ:P.T.Nodup)(ZS:CS P e){G:Shared→Prop}(i:In P.n X)(hm:lu P.T X.ns (.one j p)=true)(Ty:cZ P.T e X.ns X.cd=true)(O:Ok P X s)(hx:pe P.C X.H e X.l λd=>el (gP (.one j p) X.l d) λl'=>K .next l' X.H)(hQ:∀s' l',K .next l' X.H→Ok P {X with l:=l'} s'→Ev P X s X.g s'→G s'):wpAny P.M X.A (kr (aX P.T e) X.env (some λv=>assign (.Name (nm P.T j) p) X.env v)) (λ_ s'=>G s') E s:=
 ZS X s _ (some λv=>assign (.Name (nm P.T j) p) X.env v) _ E i Ty O.toAt hx λD Ca s' d hd k hC hD Ue r Q8 ti=>a6 hd λl' ht hk=>by
  have OS:=O.acR k hC Q8 ti;show wpAny P.M X.A (assign (.Name (nm P.T j) p) X.env (.ref D)) _ E s';refine OH (abo (t:=.one j p) (X:={X with g:=X.g.plus λa=>a=Ca}) (Q:=λf s''=>f=Flow.next∧Ok P {X with g:=X.g.plus λa=>a=Ca,l:=l'} s''∧Ev P {X with g:=X.g.plus λa=>a=Ca} s' (X.g.plus λa=>a=Ca) s'') i.to hm OZ OS ht r λOR OW O2=>⟨rfl,OW,O2⟩) (λ_ OR O4=>bD (O.noC hC) λXz Xy Y' noC=>a9 Q8 λm Se=>?_) λ_ _ e=>e;have TK:OR.heap.Ns Ca m:=fh Se λo e=>O4.2.2.abc Ca o Xz noC Xy Y' e;exact ak m TK (λh' P3=>have q:=O.acX k hC O4.2.1 O4.2.2 TK λb o hb e=>P3.extBut b o hb e;hQ _ _ hk q.1 q.2)
def Bb{A:Around}{x Pa:Expr}(he:x=.ListComp Pa gens sc q)(hb:swapsWith x (some (.Name y p)) pos.line env=pure true)(key:wpAny P.M A (kr x env (some λv=>assign (.Name y p) env v)) (λ_ s'=>Q .next s') E s):
  wpAny P.M A (exec (.Assign [.Name y p] x pos) env) Q E s:=by
 subst he;rw[exec_Assign];refine NN (ON ?_);rw[show swapsWithSole [.Name y p] (.ListComp Pa gens sc q) pos.line env=swapsWith (.ListComp Pa gens sc q) (some (.Name y p)) pos.line env from rfl,hb];refine NN (NQ ?_);rw[N1 rfl];refine NN ?_;show wpAny _ A (do let _ ← kr (.ListComp Pa gens sc q) env (some λv=>assign (.Name y p) env v)) _ E s;exact NN (OH key (λ_ _ h=>NQ (NQ h)) λ_ _ e=>e)
def tD(T:List Str)(hc:gZ e=true):∃Pa gens sc q,aX T e=.ListComp Pa gens sc q:=by
 cases e<;>first | exact aG _ _ (aG _ _ rfl) | exact absurd hc N'
def tX{Pa:Expr}{x:Expr}(he:x=.ListComp Pa gens sc q):∃b,swapsWith x (some (.Name y p)) n env=pure b:=he▸⟨_,rfl⟩
def HU(OZ:P.T.Nodup){t:Tg}(ie:VS P e)(ic:gZ e=true→CS P e):XS P (.asg t e pos):=by
 intro X s K Q E i ok O hx hQ;have hm:=ai ok;have Ty:=ae (ae ok);have plain:swapsWith (aX P.T e) (some (db P.T t)) pos.line X.env=pure false→wpAny P.M X.A (exec (.Assign [db P.T t] (aX P.T e) pos) X.env) Q E s:=λhs=>
  c5 (jq P.T t) hs (oL i (ai (ae ok))) (ie X s _ _ E i Ty O.toAt hx λv OP d hd OQ OT=>a6 hd λl' ht hk=>
   abo i hm OZ (O.kp OQ) ht OT λOR OW O2=>hQ _ .next OR X.g l' X.H hk OW ((Ev.kp OQ).trans (l:=X.l) (H:=X.H) O2) rfl)
 cases hc:gZ e with
 |false=>exact plain (k8 P.T hc)
 |true=>
  cases t with
  |two=>exact plain sw
  |one j p=>
   refine bh (tD P.T hc) λPa gens sc q he=>a9 (tX (y:=nm P.T j) (p:=p) (n:=pos.line) (env:=X.env) he) λb hb=>?_;cases b with
   |false=>exact plain hb
   |true=>exact Bb he hb (Ap OZ (ic hc) i hm Ty O hx λs' l' hk O' e'=>hQ _ .next s' X.g l' X.H hk O' e' rfl)
end
end
section
section
variable{Q:Flow→Shared→Prop}
def EQ(OZ:P.T.Nodup){p:Pos}:XS P (.abq j q r p):=by
 refine λX s K Q E i ok O hx hQ=>c5 (.inl (aG _ _ rfl)) rfl dE (wpAny_List_spliced (spliced_nil ⟨kD,?_⟩));have hD:(s.heap.push (cE [] 0)).get? s.heap.objs.size=some (cE [] 0):=NZ _ rfl;refine aU (O.grow (N:=λx=>x=s.heap.objs.size) (p:=(s.heap.objs.size,s.heap.objs.size)) (o:=.lst []) (h':=s.heap.push (cE [] 0)) (λx e=>e▸be s.heap) (λx e=>⟨_,e▸hD⟩) (λb o e=>NS _ e) (be _) (be _) O.tp
  (dp (.inr rfl) rfl [] 0 hD rfl)) λOS Pb=>?_
 refine abo (X:={X with g:=X.g.grow (λx=>x=s.heap.objs.size) (s.heap.objs.size,s.heap.objs.size),H:=X.H++[.lst []]}) (t:=.one j q) (d:=.obj X.H.length) i.to ok OZ OS rfl (ak (s.heap.objs.size,s.heap.objs.size) rfl ?_) λOR OW O2=>hQ _ .next OR _ _ _ hx OW (Pb.trans (l:=X.l) (H:=X.H++[.lst []]) O2) rfl;show(X.g.ad++[_])[X.H.length]?=_;rw[O.R.len.symm];simp
def ES(OZ:P.T.Nodup)(Uo:∃a o,sysModules≤a∧¬P.toCx.T a∧P.base.get? a=some o){p:Pos}:XS P (.newD j q r p):=by
 refine λX s K Q E i ok O hx hQ=>c5 (.inl (aG _ _ rfl)) rfl dE (wpAny_Dict_empty ?_);have hD:(s.heap.push {cls:=.type "dict",data:=.dict #[]}).get? s.heap.objs.size=some {cls:=.type "dict",data:=.dict #[]}:=NZ _ rfl;have PH:(s.heap.objs.size==sysModules)=false:=by
  exact cA Uo λa o le nt e=>OG λq=>absurd (q▸Heap.lt_size (O.W _ _ nt e).1:a<sysModules) (Nat.not_lt.mpr le)
 refine a9 ((Heap.DictOf.new (knd:=strKind P.prog P.w) s.heap).dictAt) λep he=>?_;refine aU (O.grow (N:=λx=>x=s.heap.objs.size) (p:=(s.heap.objs.size,s.heap.objs.size)) (o:=.dict [] ep) (h':=s.heap.push {cls:=.type "dict",data:=.dict #[]}) (λx e=>e▸be s.heap) (λx e=>⟨_,e▸hD⟩) (λb o e=>NS _ e) (be _) (be _) O.tp
  (aS (.inr rfl) rfl PH (ak [] he rfl))) λOS Pb=>?_
 refine abo (X:={X with g:=X.g.grow (λx=>x=s.heap.objs.size) (s.heap.objs.size,s.heap.objs.size),H:=X.H++[.dict [] ep]}) (t:=.one j q) (d:=.obj X.H.length) i.to ok OZ OS rfl (ak (s.heap.objs.size,s.heap.objs.size) rfl ?_) λOR OW O2=>hQ _ .next OR _ _ _ (hx ep) OW (Pb.trans (l:=X.l) (H:=X.H++[.dict [] ep]) O2) rfl;show(X.g.ad++[_])[X.H.length]?=_;rw[O.R.len.symm];simp
def g9(h:Heap)(a:Addr):Prop:=∀v,¬h.IsCell a v
def Ok.put{p:Addr×Addr}{o:AO}{h':Heap}(O:Ok P X s)(ha:X.g.ad[j]?=some p)(k:∀b o,b≠p.1→b≠p.2→s.heap.get? b=some o→h'.get? b=some o)(nv:g9 s.heap p.1∧g9 s.heap p.2)(ex:(∃o,h'.get? p.1=some o)∧∃o,h'.get? p.2=some o)(tp:0<tk)(r:aC X.g X.g s.heap h'→mG P.toCx X.g h' p o):Ok P {X with H:=X.H.set j o} {s with heap:=h',toks:=tk}∧Ev P X s X.g {s with heap:=h',toks:=tk}:=by
 have w:=O.R.w ha;have z1:=X.g.sub _ w.1;have z2:=X.g.sub _ w.2;have ov:aC X.g X.g s.heap h':=⟨λb o z e=>⟨z,k b o (λq=>z (q▸z1)) (λq=>z (q▸z2)) e⟩,λ_ _ e=>e⟩;have Sp:∀b,(∃o,s.heap.get? b=some o)→∃o,h'.get? b=some o:=λb hb=>by
  by_cases q:b=p.1
  ·subst q;exact ex.1
  ·by_cases q':b=p.2
   ·subst q';exact ex.2
   ·exact hb.imp λo=>k b o q q'
 have hj:j<X.H.length:=by rw[O.R.len.symm];exact fV ha
 refine⟨⟨⟨λb z=>Sp b (O.T b z),⟨by rw[List.length_set];exact O.R.len,O.R.sep,λi Rr q e f=>?_⟩,O.W.over ov,O.L.over ov λn v x=>x.at (λm hm o e=>k _ o (λq=>O.fm.w _ (.inl rfl) (q▸w.1)) (λq=>O.fm.w _ (.inl rfl) (q▸w.2)) e) λc u hc o e=>k _ o (λq=>nv.1 _ (q▸hc)) (λq=>nv.2 _ (q▸hc)) e,
  O.I.over ov.obj λb o t e=>k b o (λq=>(O.tz b t).2 (q▸w.1)) (λq=>(O.tz b t).2 (q▸w.2)) e,tp,O.tz⟩,?_,O.cs,O.fr.over λb o _ z nw e d=>dK z nw o (k b o (λq=>nw (q▸w.1)) (λq=>nw (q▸w.2)) e) d,O.hd⟩,⟨aG h' tk rfl,λb o nw _ _ _ e=>k b o (λq=>nw (q▸w.1)) (λq=>nw (q▸w.2)) e,λb o nw _ _ _ e=>⟨o.slots,k b o (λq=>nw (q▸w.1)) (λq=>nw (q▸w.2)) e⟩,λ_ q=>q,λ_ _ q=>q,λ_ _ q=>q,λ_ _ e=>e,Sp⟩⟩
 ·by_cases RR:i=j
  ·subst RR;rw[List.getElem?_set_self hj] at e;cases e;rw[ha] at f;cases f;exact r ov
  ·rw[List.getElem?_set_ne (Ne.symm RR)] at e;exact bD (O.R.sep i j q p RR f ha) λn1 n2 n3 n4=>(O.R.at_ i Rr q e f).over ov (λ_ z=>z) (λx=>k _ x n1 n2) (λx=>k _ x n3 n4)
 ·have F:=O.fm.keeps (h':=h') λb o hb e=>k b o (λq=>O.fm.w b hb (q▸w.1)) (λq=>O.fm.w b hb (q▸w.2)) e;exact⟨F.z,F.w,F.dict,F.cells,F.apart⟩
def Ik(ie:VS P e):XS P (.app j q ap e p r):=by
 refine λX s K Q E i ok O hx hQ=>a6 hx λo ho VK=>a6 VK λk hk Up=>a6 Up λys Uq Wa=>?_;clear hx VK Up;obtain rfl:=PV.abk hk;have hf:=bk Wa;have hH:=cv Uq;refine wpAny_Expr_any ?_ (by unfold interactive;rw[i.kind];rfl) rfl;have Ty:=ae (ae ok);refine ch (o:=.Name (nm P.T j) q) rfl (by show 1<30;decide) (ai (ae ok)) (by show(cm X.env p [aX P.T e]).all _=true;exact bb P.T (.cons e .nil)) (j7 (O.L j _ ho) λ_ v TD hh=>?_);obtain⟨pa,rfl,ha⟩:=TD;refine cT (O.R.at_ k _ pa hH ha) λzw hb vs Tx ea qa=>hh.name i (eN (ai ok)) λpl=>getMethod_builtin (T:="list") (ak _ ea rfl) F.plainAttrs_list slot_list_append type_list_append (λa' e'=>by cases e';exact ak _ ea rfl) (ak _ rfl ?_);show wpAny P.M X.A (spliced (cm X.env p [aX P.T e])) _ E s;rw[bM];refine spliced_cons (ie X s _ _ E i Ty O.toAt (aY Wa) λu OR d hd OU OY=>spliced_nil ?_);have OW:=O.kp OU;refine cT (OW.R.at_ k _ pa hH ha) λ_ _ QE Rp P6 Q5=>aW OU.tp (wpAny_list_append_plain ⟨Rp,P6⟩ (λh' p' P3 tp=>a9 p' λSN Pi=>?_) (by rw[N4,Q5.length];exact aO hf));have Pi:h'.get? pa.1=some (cE (QE++[u]) SN):=by rw[Pi];simp
 exact aU (OW.put (o:=.lst (ys++[d])) ha (λb o hb _ e=>P3.extBut b o hb e) ⟨(cU.seq P6 rfl).2,hb▸(cU.seq P6 rfl).2⟩ ⟨⟨_,Pi⟩,hb▸⟨_,Pi⟩⟩ tp λov=>dp zw hb _ SN Pi ((aD.append (.one OY) Q5).over ov)) λO6 Pg=>hQ _ .next _ X.g X.l _ hd O6 ((Ev.kp OU).trans (l:=X.l) (H:=X.H) Pg) rfl
def s4{x:Str×Value}{es:List (Str×Value)}{k:Str}{v:Value}(hn:(x::es).map (·.1) |>.Nodup):stored (x::es) k v=if x.1=k then(k,v)::es else x::stored es k v:=by
 unfold stored;by_cases q:x.1=k
 ·have hm:∀y∈es,¬y.1=k:=λy hy e=>by
   simp only[OF,OE] at hn;exact hn.1 (q▸e▸Oj.mpr (ak y hy rfl))
  have:es.map (λkv=>if kv.1=k then(kv.1,v) else kv)=es:=by
   conv=>rhs;rw[← List.map_id es]
   exact List.map_congr_left λy hy=>NY (hm y hy)
  simp only[List.any_cons,q,decide_true,Bool.true_or,if_true,OF,this]
 ·simp only[List.any_cons,q,decide_false,Bool.false_or,if_false,OF];split<;>rfl
def cV.put{k:Str}{v:Value}(r:abb g h d v):∀{m:List (Str×PV)}{es:List (Str×Value)},(es.map (·.1)).Nodup→cV g h m es→cV g h (b9 k d m) (stored es k v):=by
 intro m;induction m with
 |nil=>
  intro _ _ q;cases q;exact aN v [] rfl r rfl
 |cons x m ihr=>
  intro _ hn q;refine aP q λu es Pq UM=>?_;obtain rfl:=Pq;refine aU UM λa q=>?_;rw[s4 hn];rw[lC];by_cases e:x.1=k
  ·rw[N1 e,N1 e];exact aN v es rfl r q
  ·rw[NY e,NY e];exact aN u _ rfl a (ihr (by simp only[OF,OE] at hn;exact hn.2) q)
def dz{es:List (Str×Value)}(e:h.DictOf (strKind S.prog S.w) a es):g9 h a:=λv ⟨o',e',hd⟩=>by
 refine cD e λo es ep e1 _ e2 _=>?_;rw[e1] at e';cases e';rw[e2] at hd;cases hd
def iS{es:List (Str×Value)}(e:h.DictOf (strKind S.prog S.w) a es):∃o,h.get? a=some o:=e.imp λo h=>h.elim λ_ h=>h.elim λ_ h=>h.1
def Fh{k:ME}(ik:VS P k)(ie:VS P e)(hsw:∀env ln,swapsWith (aX P.T e) (some (.Subscript (.Name (nm P.T j) q) (aX P.T k) r)) ln env=pure false):XS P (.abT j q k r e p):=by
 refine λX s K Q E i ok O hx hQ=>wpAny_Assign_Subscript (ie X s _ _ E i (ae (ae ok)) O.toAt hx λv OP d hd OQ OT=>a6 hd λo ho VK=>a6 VK λn hn Up=>a6 Up λm hm Wa=>?_) (hsw _ _);clear hx hd VK Up;obtain rfl:=PV.abk hn;have OS:=O.kp OQ;refine aP (dk hm) λi' Sn RQ hH=>?_;cases RQ;refine j7 (OS.L j _ ho) λ_ u UR hh=>?_;obtain⟨pa,rfl,ha⟩:=UR;refine hh.name i (eN (ai ok)) (ik X OP _ _ E i (ai (ae ok)) OS.toAt Wa λkv OR kd hk OU OY=>a6 hk λx hx4 YS=>?_);clear hk;obtain rfl:=PV.abg hx4;refine a9 OY λt PI=>?_;obtain rfl:=PI;have OW:=OS.kp OU;refine bD (OW.R.at_ n _ pa hH ha) λzw hb hs R7=>ay R7 λes O2 qa=>?_;have O2:=O2.dictOf;have OZ:(es.map (·.1)).Nodup:=by refine cD O2 λ_ _ _ _ _ _ TB=>bV TB λ_ _ h=>h
 exact aW OU.tp (wpAny_setItem_pairs (strKind_is P.prog P.w x t) O2 (λh' QP P3 tp=>a9 QP.dictAt λep hd=>aU (OW.put (o:=.dict (b9 x d m) ep) ha (λb o hb _ e=>P3.extBut b o hb e) ⟨dz O2,hb▸dz O2⟩ ⟨iS QP,hb▸iS QP⟩ tp λov=>aS zw hb hs (ak _ hd ((cV.put (OT.over (OS.over OU)) OZ qa).over ov))) λO6 Pg=>hQ _ .next _ X.g X.l _ (aY YS ep) O6 ((Ev.kp (OQ.trans OU)).trans (l:=X.l) (H:=X.H) Pg) rfl) (by rw[qa.length];exact aO (bk YS)))
end
end
noncomputable def Gh.drop(g:Gh)(N:Addr→Prop):Gh:=⟨λa=>g.Z a∧¬N a,λa=>g.W a∧¬N a,g.ad,λa h=>⟨g.sub a h.1,h.2⟩⟩
section
def Ok.changes(O:Ok P X s)(hz:∀c,N c→X.g.Z c)(nw:∀c,N c→¬X.g.W c)(nt:∀c,N c→¬P.toCx.T c)(no:∀c,N c→¬ox X.ns X.env c)(nf:∀c,N c→¬gR X.A c)(nv:∀c,N c→cU s.heap c)(ex:∀c,N c→∃o,h'.get? c=some o)(k:∀b o,¬N b→s.heap.get? b=some o→h'.get? b=some o)(tp:0<tk):Ok P X {s with heap:=h',toks:=tk}:=by
 have ov:aC X.g X.g s.heap h':=⟨λb o z e=>⟨z,k b o (λq=>z (hz b q)) e⟩,λ_ _ e=>e⟩;refine⟨⟨λb zb=>?_,O.R.over ov rfl (λ_ z=>z) λb o w e=>k b o (λq=>nw b q w) e,O.W.over ov,O.L.over ov λn v x=>x.at (λm hm o e=>k _ o (λq=>(nv _ q).1 m hm) e) λb u hb o e=>k _ o (λq=>(nv _ q).2 _ hb) e,O.I.over ov.obj λb o t e=>k b o (λq=>nt b q t) e,tp,O.tz⟩,O.fm.keeps λb o hb e=>k b o (λq=>no b q hb) e,O.cs,O.fr.over λb o f z w e d=>dK z w o (k b o (λq=>nf b q f) e) d,O.hd⟩;by_cases q:N b
 ·exact ex b q
 ·exact(O.T b zb).imp λo e=>k b o q e
theorem Ok.drop{h':Heap}(O:Ok P X s)(hz:∀c,N c→X.g.Z c)(nw:∀c,N c→¬X.g.W c)(nt:∀c,N c→¬P.toCx.T c)(no:∀c,N c→¬ox X.ns X.env c)(nf:∀c,N c→¬gR X.A c)(nv:∀c,N c→cU s.heap c)(k:∀b o,¬N b→s.heap.get? b=some o→h'.get? b=some o)(tp:0<tk):Ok P {X with g:=X.g.drop N} {s with heap:=h',toks:=tk}:=by
 have ov:aC X.g (X.g.drop N) s.heap h':=⟨λb o z e=>⟨λq=>z q.1,k b o (λq=>z (hz b q)) e⟩,λ_ _ e=>e⟩;refine⟨⟨λb zb=>(O.T b zb.1).imp λo e=>k b o zb.2 e,O.R.over ov rfl (λb w=>⟨w,λq=>nw b q w⟩) λb o w e=>k b o (λq=>nw b q w) e,O.W.over ov,O.L.over ov λn v x=>x.at (λm hm o e=>k _ o (λq=>(nv _ q).1 m hm) e) λb u hb o e=>k _ o (λq=>(nv _ q).2 _ hb) e,
  O.I.over ov.obj λb o t e=>k b o (λq=>nt b q t) e,tp,λb t=>⟨⟨(O.tz b t).1,λq=>nt b q t⟩,λq=>(O.tz b t).2 q.1⟩⟩,?_,O.cs,O.fr.over λb o f z w e d=>dK ⟨z,λq=>nf b q f⟩ (λq=>w q.1) o (k b o (λq=>nf b q f) e) d,O.hd⟩
 have F:=O.fm.keeps (h':=h') λb o hb e=>k b o (λq=>no b q hb) e;exact⟨λb hb=>⟨F.z b hb,λq=>no b q hb⟩,λb hb q=>F.w b hb q.1,F.dict,F.cells,F.apart⟩
structure LS(P:Pk)(X:Rt)(OP:Shared)(Kc:AH→Prop)(I:Addr)(tx:Expr)(ds:List PV)(wr:List Addr)(Sv:Nat→Heap→Prop):Prop where
 new:∀b∈wr,OP.heap.get? b=none
 nv:∀i h,Sv i h→∀b∈wr,cU h b∧∃o,h.get? b=some o
 back:∀i (Pp Ps:Gh) (OR O0:Shared) (l':Loc) (H':AH),Sv i OR.heap→Ev P X OP Pp OR→Ev P X OP Ps O0→(∀c∈wr,∀o,OR.heap.get? c=some o→O0.heap.get? c=some o)→Ok P {X with g:=Ps,l:=l',H:=H'} O0→Kc H'→Sv i O0.heap
 item:∀i (g':Gh) (l':Loc) (H':AH) (s:Shared) (Q:Value→Shared→Prop) (Q':Option Value→Shared→Prop) (E:Value→Shared→Prop),i<ds.length→Sv i s.heap→Ok P {X with g:=g',l:=l',H:=H'} s→Kc H'→aC X.g g' OP.heap s.heap→(∀b∈wr,g'.Z b) →
  (∀v d h' tk,ds[i]?=some d→abb g' h' d v→Sv (i+1) h'→(∀b o,b∉wr→s.heap.get? b=some o→h'.get? b=some o)→0<tk→Q v {s with heap:=h',toks:=tk}) →
  (∀v OR,wpAny P.M X.A (letOwnedTupleGo tx (.ref I) v) (λ_ OX=>Q v OX) E OR→Q' (some v) OR)→wpAny P.M X.A (pyNext (.ref I)) Q' E s
 done:∀(s:Shared)(Q:Option Value→Shared→Prop)(E:Value→Shared→Prop),Sv ds.length s.heap→0<s.toks→(∀h' tk,(∀b o,b∉wr→s.heap.get? b=some o→h'.get? b=some o)→0<tk→Q none {s with heap:=h',toks:=tk})→wpAny P.M X.A (pyNext (.ref I)) Q E s
def xY{R:Result→Shared→Prop}{tx:Expr}{body:List Stmt}(I':Nat→Shared→Prop)(turn:∀n s,I' n s→wpAny P.M X.A (pyNext (.ref I)) (λr OP=>match r with
   |none=>R (.ok .next) OP
   |some v=>wpAny P.M X.A (letOwnedTupleGo tx (.ref I) v) (λ_ OP=>wpAny P.M X.A (assign tx X.env v) (λ_ OR=>wpAny P.M X.A (execs body X.env) (λf OX=>match f with
     |.next | .cont=>∃m,m<n∧I' m OX
     |.brk=>R (.ok .next) OX
     |.ret v=>R (.ok (.ret v)) OX) (notedBy P.M X.A X.env λe s'=>R (.error e) s') OR) (notedBy P.M X.A X.env λe s'=>R (.error e) s') OP) (notedBy P.M X.A X.env λe s'=>R (.error e) s') OP) (notedBy P.M X.A X.env λe s'=>R (.error e) s') s)(n:Nat)(h:I' n s):codeAny P.M X.A (.forLoop tx (.ref I) body [] X.env) R s:=by
 refine codeAny_loop' rfl I' (λn s hI=>?_) n h;show wpAny _ _ ((forTurn tx (.ref I) body [] X.env).onRaise (λx=>do noteFrame x X.env;theTreesLotGoes x)) _ _ s;refine wpAny_noted ?_;simp only[forTurn];refine NN (ON (NN (wpAny_onRaise (OH (turn n s hI) (λr OP O9=>?_) λ_ _ h'=>ON h'))));cases r with
 |none=>exact NQ (.inr ⟨rfl,codeAny_block (wpAny_execs_nil O9)⟩)
 |some v=>
  refine NN (OH O9 (λ_ OP O9=>NN (OH O9 (λ_ OR O4=>NN (OH O4 (λf OX Tv=>?_) λ_ _ h'=>h')) λ_ _ h'=>h')) λ_ _ h'=>h');cases f with
  |next=>exact NQ (.inl ⟨rfl,Tv⟩)
  |cont=>exact NQ (.inl ⟨rfl,Tv⟩)
  |brk=>exact NQ Tv
  |ret v=>exact NQ Tv
def iM(OZ:P.T.Nodup){t:Tg}{wr:List Addr}{Kc:AH→Prop}{Kx:(Fl→Loc→AH→Prop)→Fl→Loc→AH→Prop}{R:Result→Shared→Prop}(ib:XB P b)(i:In P.n X)(okt:lu P.T X.ns t=true)(TW:sS P.T b X.ns X.cd=true)(OS:Ok P X OP)(ls:LS P X OP Kc I (db P.T t) ds wr Sv)(kc0:Kc X.H)(hKx:∀K' fl l H,Kx K' fl l H→Kc H∧K' fl l H)(st0:Sv 0 OR.heap)(OU:∀b o,OP.heap.get? b=some o→OR.heap.get? b=some o)(same:∃h tk,OR={OP with heap:=h,toks:=tk})(tp₂:0<OR.toks)(hf:abM (λd l H K'=>el (gP t l d) λl'=>xb P.C b l' H (Kx K')) ds X.l X.H K)(hR:∀f fl s' g' l' H',K fl l' H'→Ok P {X with g:=g',l:=l',H:=H'} s'→Ev P X OP g' s'→fE g' s'.heap fl f→R (.ok f) s'):
  codeAny P.M X.A (.forLoop (db P.T t) (.ref I) (iY P.T b) [] X.env) R OR:=by
 have Tw:∀c∈wr,¬ox X.ns X.env c:=λc hc q=>c8 (OS.fm.ex q) (ls.new c hc);have nF:∀c∈wr,¬gR X.A c:=λc hc q=>by refine fN (OS.fr.at q) λ_ _ o e _=>c8 ⟨o,e⟩ (ls.new c hc)
 have nW:∀c∈wr,¬X.g.W c:=λc hc q=>c8 (OS.T _ (X.g.sub _ q)) (ls.new c hc);have nT:∀c∈wr,¬P.toCx.T c:=λc hc q=>c8 ((OS.tab q).imp' _ λ_=>id) (ls.new c hc);have TV:∀{c:Addr},(∃o,OP.heap.get? c=some o)→c∉wr:=λe q=>c8 e (ls.new _ q);obtain⟨J,hJ⟩:∃J:Nat→Shared→Prop,∀m s',J m s'↔∃k g' l' H',k≤ds.length∧m=ds.length-k∧Ok P {X with g:=g',l:=l',H:=H'} s'∧Ev P X OP g' s'∧(∀c∈wr,g'.Z c)∧(∀c∈wr,¬g'.W c)∧Sv k s'.heap∧Kc H' ∧
   abM (λd l H K'=>el (gP t l d) λl'=>xb P.C b l' H (Kx K')) (ds.drop k) l' H' K:=⟨_,λ_ _=>Iff.rfl⟩
 refine xY J ?_ ds.length ?_
 ·refine λm s' hj=>bl ((hJ _ _).mp hj) λk g' l' H' hk R5=>aU R5 λPA Qe=>?_;obtain rfl:=PA;refine dO Qe λV2 ev zI wI QI=>bV QI λst kc TG=>?_;by_cases Po:k<ds.length
  ·refine ls.item k g' l' H' s' _ _ _ Po st V2 kc (ev.over OS) zI (λv d h' tk hd r PX kk tp=>?_) λv OR h=>h;have OW:Ok P {X with g:=g',l:=l',H:=H'} {s' with heap:=h',toks:=tk}:=V2.changes (N:=λc=>c∈wr) zI wI nT Tw nF (λc hc=>(ls.nv _ _ st c hc).1) (λc hc=>(ls.nv _ _ PX c hc).2) kk tp;have PZ:Ev P X OP g' {s' with heap:=h',toks:=tk}:=by
    refine⟨ce ev.same λQb XH P2=>?_,λc o nw no nt f e=>kk c o (TV ⟨o,e⟩) (ev.abc c o nw no nt f e),λc o nw no nt f e=>(ev.slot c o nw no nt f e).imp λsl q=>kk c _ (TV ⟨o,e⟩) q,ev.z,ev.zn,ev.wn,ev.ad,λc hc=>(ev.ex c hc).imp λo=>kk c o (TV hc)⟩;obtain rfl:=P2;exact aG h' tk rfl
   rw[w3 hd] at TG;have TG:el (gP t l' d) λSj=>xb P.C b Sj H' (Kx (eM (λl H=>abM _ (ds.drop (k+1)) l H K) K)):=TG;refine a6 TG λl₂ SG TG=>iT (X:={X with g:=g',l:=l',H:=H'}) (s:={s' with heap:=h',toks:=tk}) i.to okt OW.fm OW.L OZ tp SG r λOX Ra=>?_;have O6:Ok P {X with g:=g',l:=l₂,H:=H'} OX:=OW.st Ra;refine ib {X with g:=g',l:=l₂,H:=H'} OX _ _ _ i.to TW O6 TG λf fl O0 Ps PP PB PE Pe P0 PM=>aU (hKx _ _ _ _ PE) λTR PE=>?_;have PD:Ev P X OP Ps O0:=(PZ.trans (l:=l') (H:=H') (Ev.st Ra)).trans (l:=l₂) (H:=H') P0;have Yv:∀c∈wr,Ps.Z c:=λc hc=>P0.z c (zI c hc);have kept:∀c∈wr,∀o,h'.get? c=some o→O0.heap.get? c=some o:=λc hc o e=>P0.abc c o (wI c hc) (Tw c hc) (nT c hc) (nF c hc) (Ra.abc c o (Tw c hc) e);have XJ:∀c∈wr,¬Ps.W c:=λc hc q=>wI c hc (P0.wn c (Ra.ex c (ls.nv _ _ PX c hc).2) q);have VU:Sv (k+1) O0.heap:=ls.back (k+1) g' Ps {s' with heap:=h',toks:=tk} O0 PP PB PX PZ PD kept Pe TR;have next:eM (λl H=>abM (λd l H K'=>el (gP t l d) λl'=>xb P.C b l' H (Kx K')) (ds.drop (k+1)) l H K) K .next PP PB→∃m,m<ds.length-k∧J m O0:=λh=>
    (ak _ (Nat.sub_lt_sub_left Po (Nat.lt_succ_self k)) ((hJ _ _).mpr (aG (k+1) Ps (aJ PP PB Po rfl Pe PD (bY Yv XJ VU TR h)))))
   cases fl with
   |next=>cases PM;exact next PE
   |cont=>cases PM;exact next PE
   |brk=>cases PM;exact hR _ .next O0 Ps PP PB PE Pe PD rfl
   |ret d=>
    refine ay PM λu Qh r=>?_;obtain rfl:=Qh;exact hR _ (.ret d) O0 Ps PP PB PE Pe PD (ak u rfl r)
  ·obtain rfl:k=ds.length:=Nat.le_antisymm hk (Nat.not_lt.mp Po);rw[List.drop_length] at TG;refine ls.done _ _ _ st V2.tp λh' tk kk tp=>hR .next .next _ (g'.drop λc=>c∈wr) l' H' TG (V2.drop (N:=λc=>c∈wr) zI wI nT Tw nF (λc hc=>(ls.nv _ _ st c hc).1) kk tp) ⟨ce ev.same λQb XH SZ=>?_,λc o nw no nt f e=>kk c o (TV ⟨o,e⟩) (ev.abc c o nw no nt f e),λc o nw no nt f e=>(ev.slot c o nw no nt f e).imp λsl q=>kk c _ (TV ⟨o,e⟩) q,λc z=>⟨ev.z c z,TV (OS.T c z)⟩,λc hc q=>ev.zn c hc q.1,λc hc q=>ev.wn c hc q.1,ev.ad,λc hc=>(ev.ex c hc).imp λo=>kk c o (TV hc)⟩ rfl;obtain rfl:=SZ;exact aG h' tk rfl
 ·refine ce same λO4 t₂ Pm=>?_;obtain rfl:=Pm;have hN:∀a,a∈wr→OP.heap.get? a=none:=ls.new;refine(hJ _ _).mpr (aG 0 (X.g.plus λa=>a∈wr) (aJ X.l X.H (Oc _) rfl ⟨OS.toAt.plus hN (λa ha=>(ls.nv _ _ st0 a ha).2) OU tp₂,?_,OS.cs,OS.fr.over λb o _ z w e d=>dK (.inl z) w o (OU b o e) d,OS.hd⟩ ⟨aG O4 t₂ rfl,λc o _ _ _ _ e=>OU c o e,λc o _ _ _ _ e=>⟨o.slots,OU c o e⟩,λc z=>.inl z,λc hc q=>q.elim id λq=>absurd q (TV hc),λc hc q=>q,λ_ _ e=>e,λc hc=>hc.imp λo=>OU c o⟩ (bY (λc hc=>.inr hc) nW st0 kc0 hf)));have F:=OS.fm.keeps λb o _ e=>OU b o e;exact⟨λx hx=>.inl (F.z x hx),F.w,F.dict,F.cells,F.apart⟩
end
section
section
variable{M:Model}{A:Around}
def eV(M:Model)(h:Heap)(v:Value):Prop:=∃k,(k=Keeper.frame∨k=Keeper.machine∨k=Keeper.boundFrame)∧Looks M h (keeperOf v) k
theorem mM{o:Expr}{m:Str}{l:List Expr}(hc:gH o=true)(hl:l.length<30)(hn:(ap.endLine==p.line)=true)(hp:(cm env p l).all (λx=>!x.1)=true)(h:wpAny M A (eval o env) (λv OP=>∀pl,wpAny M A (getMethod v m pl) (λr OR=>wpAny M A (spliced (cm env p l)) (λvs OX=>eV M OX.heap r.1∧wpAny M A (call r.1 (r.2++vs)) Q E OX) E OR) E OP) E s):
  wpAny M A (eval (.Call (.Attribute o m ap) l [] p) env) Q E s:=by
 rw[arm_eval_Call,d5 hc];refine NN (OH h (λv OP O9=>NN (ON ?_)) λ_ _ e=>e);have Q2:methodCallForm (l.length+([]:List Keyword).length) (backTo p (starEach l env)) (backToKw p (keywordEach [] env))=true:=by
  unfold methodCallForm;rw[Bool.and_eq_true,Bool.and_eq_true];exact⟨⟨hp,rfl⟩,N0 hl⟩
 have RU:methodCallPos true o env ap p=pure p:=by unfold methodCallPos;simp[hn]
 have W8:(backTo p (starEach l env)).any (·.1)=false:=d8 hp;unfold methodCall;rw[Q2];exact NN (Om (OH (O9 _) (λr OR O4=>NN (Oo RU (callWith_of (P:=λh=>eV M h r.1) (by rw[W8];rfl) (λ_ h=>h) (bo hp O4)))) λ_ _ e=>e))
end
section
def mA.over{A:Around}(m:mA S A g s g' s')(tz:∀b,S.T b→g.Z b∧¬g.W b)(fz:∀b,gR A b→g.Z b):aC g g' s.heap s'.heap:=
 ⟨λb o z e=>⟨λq=>z (m.zn b ⟨o,e⟩ q),m.abc b o (λq=>z (g.sub b q)) (λt=>z (tz b t).1) (λf=>z (fz b f)) e⟩,m.ad⟩
def Ev.acd(m:mA P.toCx X.A X.g s g' s'):Ev P X s g' s':=⟨m.same,λb o nw _ nt f e=>m.abc b o nw nt f e,λb o nw _ nt f e=>m.slot b o nw nt f e,m.z,m.zn,m.wn,m.ad,m.ex⟩
def GL{m:Str→Option Value}(x:h.Ns a m)(k:∀o,h.get? a=some o→∃sl,h'.get? a=some {o with slots:=sl}):h'.Ns a m:=by
 exact a5 x λo es ep e q=>a9 (k o e) λsl e'=>aG _ es (ak ep e' q)
def vY{v:Option Value}(x:h.IsCell a v)(k:∀o,h.get? a=some o→∃sl,h'.get? a=some {o with slots:=sl}):h'.IsCell a v:=by
 exact ay x λo e q=>a9 (k o e) λsl e'=>ak _ e' q
def x7.abe(O:Ok P X s){b:Addr}{o:Obj}(e:s.heap.get? b=some o)(d:∀vs,o.data≠.fields vs):¬P.toCx.T b:=λt=>(O.tab t).elim λvs y=>by rw[e] at y;cases y;exact d _ rfl
theorem Ok.m(O:Ok P X s)(m:mA P.toCx X.A X.g s g' s')(w:Wl P.toCx g' s')(R:bG P.toCx g' H' s'.heap):Ok P {X with g:=g',H:=H'} s':=by
 have kp:∀b o,ox X.ns X.env b→s.heap.get? b=some o→∃sl,s'.heap.get? b=some {o with slots:=sl}:=λb o hb e=>by
  by_cases f:gR X.A b
  ·exact m.slot b o (O.fm.w b hb) (O.fm.abe O.toAt hb) f e
  ·exact⟨o.slots,m.abc b o (O.fm.w b hb) (O.fm.abe O.toAt hb) f e⟩
 refine⟨⟨w.T,R,w.W,λi d e=>?_,w.I,w.tp,w.tz⟩,⟨λb hb=>m.z b (O.fm.z b hb),λb hb q=>O.fm.w b hb (m.wn b (O.fm.ex hb) q),O.fm.dict.imp λmm x=>GL x (kp _ · (.inl rfl)),λx c h1 h2=>(O.fm.cells x c h1 h2).imp λv y=>vY y (kp _ · (.inr (ak x h1 h2))),O.fm.apart⟩,O.cs,
  O.fr.over λb o f z nw e d=>⟨m.z b z,λq=>nw (m.wn b ⟨o,e⟩ q),(m.slot b o nw (x7.abe O e d) f e).elim λsl q=>ak _ q d⟩,O.hd⟩
 refine j7 (O.L i d e) λh1 v r hv=>dC h1 v (r.over (m.over O.tz λb f=>(O.fr.at f).1)) ?_;rcases hv with ⟨k,q⟩ | ⟨k,c,hc,q⟩
 ·exact .inl ⟨k,q.imp λmm q=>⟨GL q.1 λo e=>kp _ o (.inl rfl) e,q.2⟩⟩
 ·exact .inr (dC k c hc (vY q λo e=>kp _ o (O.cs _ c (k.imp id λk=>k.1) hc) e))
def mS.at{v:Value}(k:mS P.toCx v)(W:Wd P.toCx X.g s.heap):eV P.M s.heap v:=k s.heap λb o t e=>(W b o t e).1
variable(P) in
def EV(x:XE):Prop:=∀(X:Rt)(s:Shared)(K:PV→AH→Prop)(Q E:Value→Shared→Prop),In P.n X→xX P.T X.ns X.cd x=true→Ok P X s→xe P.C x X.l X.H K →
 (∀v s' g' d H',K d H'→Ok P {X with g:=g',H:=H'} s'→Ev P X s g' s'→abb g' s'.heap d v→Q v s')→wpAny P.M X.A (eval (fH P.T x) X.env) Q E s
def Ka(ie:VS P e):EV P (.pl e):=λX s K Q E i ok O hx hQ=>ie X s _ Q E i ok O.toAt hx λv s' d hk k r=>hQ v s' X.g d X.H hk (O.kp k) (Ev.kp k) r
def qX{o:AO}{v:Value}(O:Ok P X s)(r:mG P.toCx (X.g.grow (λx=>x=s.heap.objs.size) (s.heap.objs.size,s.heap.objs.size)) (s.heap.push ob) (s.heap.objs.size,s.heap.objs.size) o)(hnf:ob.isFreed=false)(hQ:Ok P {X with g:=X.g.grow (λx=>x=s.heap.objs.size) (s.heap.objs.size,s.heap.objs.size),H:=X.H++[o]} {s with heap:=s.heap.push ob}→Ev P X s (X.g.grow (λx=>x=s.heap.objs.size) (s.heap.objs.size,s.heap.objs.size)) {s with heap:=s.heap.push ob} →
   abb (X.g.grow (λx=>x=s.heap.objs.size) (s.heap.objs.size,s.heap.objs.size)) (s.heap.push ob) (.obj X.H.length) (.ref s.heap.objs.size)→Q (.ref s.heap.objs.size) {s with heap:=s.heap.push ob}):Q (.ref s.heap.objs.size) {s with heap:=s.heap.push ob}:=by
 have hD:(s.heap.push ob).get? s.heap.objs.size=some ob:=NZ _ hnf;refine aU (O.grow (N:=λx=>x=s.heap.objs.size) (p:=(s.heap.objs.size,s.heap.objs.size)) (o:=o) (h':=s.heap.push ob) (λx e=>e▸be s.heap) (λx e=>⟨_,e▸hD⟩) (λb o e=>NS _ e) (be _) (be _) O.tp r) λOS Pb=>hQ OS Pb (ak (s.heap.objs.size,s.heap.objs.size) rfl ?_);show(X.g.ad++[_])[X.H.length]?=_;rw[O.R.len.symm];simp
def FA:EV P (.abq p):=λX s K Q E i ok O hx hQ=>
 wpAny_List_spliced (spliced_nil ⟨kD,qX (o:=.lst []) (v:=.none) O (dp (.inr rfl) rfl [] 0 (NZ _ rfl) rfl) rfl λOS Pb r=>hQ _ _ _ _ _ hx OS Pb r⟩)
def Hm(Uo:∃a o,sysModules≤a∧¬P.toCx.T a∧P.base.get? a=some o)(O:Ok P X s):(s.heap.objs.size==sysModules)=false:=by
 exact cA Uo λa o le nt e=>OG λq=>absurd (q▸Heap.lt_size (O.W _ _ nt e).1:a<sysModules) (Nat.not_lt.mpr le)
def qf(hC:ah P.toCx P.n P.C):EV P (.newD p):=λX s K Q E i ok O hx hQ=>
 (Heap.DictOf.new (knd:=strKind P.prog P.w) s.heap).dictAt.elim λep he=>wpAny_Dict_empty (qX (o:=.dict [] ep) (v:=.none) O (aS (.inr rfl) rfl (Hm hC.sys O) (ak [] he rfl)) rfl λOS Pb r=>hQ _ _ _ _ _ (hx ep) OS Pb r)
def Fu(hC:ah P.toCx P.n P.C):EV P (.ab6 q p):=λX s K Q E i ok O hx hQ=>by
 refine wpAny_Call_Name_kw (bC.name hC.aca i ok O.W (dL (.inr ⟨_,rfl⟩) rfl (bo rfl ?_)));show wpAny P.M X.A (spliced []) _ E s;exact spliced_nil (call_set_0 λled=>qX (o:=.set []) (v:=.none) O (dK (.inr rfl) rfl 0 (Oe _) (aG _ (#[]) (aJ 0 _ (NZ _ rfl) ⟨rfl,rfl,rfl⟩ rfl (by intro e he;simp at he) (aS (by intro k;simp) kD (by cases led<;>rfl) rfl)))) rfl λOS Pb r=>hQ _ _ _ _ _ hx OS Pb r)
end
end
section
section
variable{M:Model}{q:Addr}{o:Obj}{fd:FuncData}
def mW(e:h.get? a=some o)(hd:o.data=.func fd):eV M h (.ref a):=by
 refine ak .frame (.inl rfl) (λA Q E s k hQ=>?_);unfold keeperOf;refine NN (wpAny_load (k _ _ e) ?_);rw[hd];exact NQ hQ
def tQ(e:h.get? q=some (methodObj (.ref a) self))(ea:h.get? a=some o)(hd:o.data=.func fd):eV M h (.ref q):=by
 refine ak .boundFrame (.inr (.inr rfl)) (λA Q E s k hQ=>?_);unfold keeperOf;refine NN (wpAny_load (k _ _ e) (NN (m:=load a) (wpAny_load (k _ _ ea) ?_)));rw[hd];exact NQ hQ
end
section
structure Jq(P:Pk)(X:Rt)(s:Shared)(d:PV)(m:Str)(c:Addr)(v:Value)(a x:Addr)(of:Obj)(fd:FuncData):Prop where
 e:v=.ref x
 gm:∀(A:Around)(E:Value→Shared→Prop)(Q:Value×List Value→Shared→Prop)(pl:Sem Bool),Q (.ref a,[v]) s→wpAny P.M A (getMethod v m pl) Q E s
 gb:∀(A:Around)(E Q:Value→Shared→Prop),(∀tk,Q (.ref s.heap.objs.size) {s with heap:=s.heap.push (methodObj (.ref a) v),toks:=tk})→wpAny P.M A (getAttr v m true) Q E s
 ob:∀OP,Ok P X OP→OP.heap.get? a=some of
 fn:of.data=.func fd
 run:∀(OP:Shared)(vs:List Value)(ds:List PV)(K:PV→AH→Prop)(Q E:Value→Shared→Prop),Ok P X OP→abb X.g OP.heap d v→aD X.g OP.heap ds vs→P.C.mt c m X.H (d::ds) K →
  (∀u s' g' r H',K r H'→Ok P {X with g:=g',H:=H'} s'→Ev P X OP g' s'→abb g' s'.heap r u→Q u s')→codeAny P.M X.A (.call (.ref a) ⟨v::vs,[]⟩) (wants Q E) OP
def qQ(hC:ah P.toCx P.n P.C){m:Str}{c:Addr}{v:Value}(i:In P.n X)(O:Ok P X s)(hx:sK P.C X.H d m c)(r:abb X.g s.heap d v):∃a x of fd,Jq P X s d m c v a x of fd:=by
 refine a5 hx λj fs ss O8 Qe=>?_;obtain rfl:=O8;refine bV Qe λhH Z9 hn=>ay r λp PA hp=>?_;obtain rfl:=PA;obtain⟨P8,a,nt,⟨of,fd,ho,Tr⟩,k2,k3,k4⟩:=hC.m c m Z9;exact bD (lI O.R O.W hH hp) λ_ _ _ QI=>a5 QI λws es k I _=>⟨a,p.1,of,fd,rfl,λA E Q pl h=>k2 I hn h,λA E Q h=>k3 I hn h,λOP OS=>(OS.W _ _ nt ho).1,Tr,λOP vs ds K Q E OS OT rs hx hQ=>k4 (ds:=.obj j::ds) i.room (OS.fr.1 P8) OS.toAt.wl OS.R (aN _ _ rfl OT rs) hx λu OR Pp r' H' hk mv w R OY=>hQ u OR Pp r' H' hk (OS.m mv w R) (Ev.acd mv) OY⟩
theorem La(hC:ah P.toCx P.n P.C){o:ME}{m:Str}(io:VS P o)(ie:PS P es):EV P (.mc o m ap es p):=by
 intro X s K Q E i ok O hx hQ;have Pu:vV P.T o ap p X.ns X.cd=true:=ai ok;refine mM (ai Pu) (by rw[jL];exact NV (ai (ae ok))) (ai (ae Pu)) (bb P.T es) (io X s _ _ E i (ae (ae Pu)) O.toAt hx λv OP d hd OQ OT pl=>ay hd λc hm hd=>?_);have OS:=O.kp OQ;refine bh (qQ hC i OS hm OT) λa x of fd N=>N.gm _ _ _ _ (ie X p OP _ _ E i (ae (ae ok)) OS.toAt hd λvs OR ds Tc OU OY=>?_);have OW:=OS.kp OU;exact⟨mW (N.ob _ OW) N.fn,wpAny_call (N.run OR vs ds K Q E OW (OT.over (OS.toAt.over OU)) OY Tc λu OX PN r QL hk O6 Pi Pf=>hQ u OX PN r QL hk O6 ((Ev.kp (OQ.trans OU)).trans (l:=X.l) (H:=X.H) Pi) Pf)⟩
def zG(hC:ah P.toCx P.n P.C){q:Pos}(ie:PS P es):EV P (.new x q es p):=by
 intro X s K Q E i ok O hx hQ;obtain⟨P8,a,gn,kf,hc⟩:=hC.nw x (bk hx);have W8:(backTo p (starEach (b8 P.T es) X.env)).any (·.1)=false:=d8 (bb P.T es);refine wpAny_Call_Name_kw (bC.name gn i (ai ok) O.W (callWith_of (P:=λh=>eV P.M h (.ref a)) (by rw[W8];rfl) (λ_ h=>h) (bo (bb P.T es) (ie X p s _ _ E i (ae ok) O.toAt (aY hx) λvs OP ds hd OQ OT=>?_))));have OS:=O.kp OQ;exact⟨kf.at OS.W,wpAny_call (hc i.room (OS.fr.1 P8) OS.toAt.wl OS.R OT hd λu OR Pp r' H' hk mv w R OY=>hQ u OR Pp r' H' hk (OS.m mv w R) ((Ev.kp OQ).trans (l:=X.l) (H:=X.H) (Ev.acd mv)) OY)⟩
theorem Hc(hC:ah P.toCx P.n P.C){q:Pos}{o:ME}{m:Str}(io:VS P o):EV P (.srt q o m ap r p):=by
 intro X s K Q E i ok O hx hQ;have Pu:vV P.T o ap r X.ns X.cd=true:=ae ok;refine wpAny_Call_Name_kw (bC.name (hC.bi .sorted) i (ai ok) O.W (dL (.inl ⟨_,rfl⟩) rfl (bo rfl ?_)));show wpAny P.M X.A (spliced ((false,eval (.Call (.Attribute (aX P.T o) m ap) [] [] r) X.env)::cm X.env p [])) _ E s;refine spliced_cons (mM (ai Pu) (by show 0<30;decide) (ai (ae Pu)) rfl (io X s _ _ E i (ae (ae Pu)) O.toAt hx λv OP d hd OQ OT pl=>ay hd λc hm hd=>?_));have OS:=O.kp OQ;refine bh (qQ hC i OS hm OT) λa x of fd N=>N.gm _ _ _ _ ?_;show wpAny P.M X.A (spliced []) _ E OP;exact spliced_nil ⟨mW (N.ob _ OS) N.fn,wpAny_call (N.run OP [] [] (λr H'=>el (CX H' .sorted [r]) λu=>K u H') _ E OS OT rfl hd λu OX PN r QL hk O6 Pi Pf=>spliced_nil (a6 hk λd' hb hk=>O6.toAt.run (td (b:=.sorted) i.handled O6.T O6.R hb (.one Pf) λv' O0 Pn Qs tp=>hQ v' O0 PN d' QL hk (O6.kp ⟨Pn,tp⟩) (((Ev.kp OQ).trans (l:=X.l) (H:=X.H) Pi).trans (l:=X.l) (H:=QL) (Ev.kp ⟨Pn,tp⟩)) Qs)))⟩
def sd{v:Value}{Q:List Value→Shared→Prop}(O:Ok P X s)(hi:items X.H d=some us)(hf:aE us.length=true)(r:abb X.g s.heap d v)(hQ:∀vs s',Kp P.toCx X.g s s'→aD X.g s'.heap us vs→Q vs s'):StarOf P.M X.A E v Q s:=by
 refine a5 (jV O.R hi r) λa vs n Qd TC=>?_;obtain rfl:=Qd;refine aU TC λe q=>?_;have hz:vs.toArray.size≤sizeLine:=by rw[N4,q.length];exact aO hf
 have z:∀T o,(T="list"∨T="tuple")→s.heap.get? a=some o→o.cls=.type T→o.data=.seq vs.toArray n→wpAny P.M X.A (collect (.ref a)) Q E s:=λT o hT e hc hd=>
  wpAny_collect_seq a hT e hc hd (λh' hk=>hQ _ _ ⟨Kp0.of (tk:=s.toks) hk,O.tp⟩ (q.over (.of hk))) hz
 unfold StarOf notIterableAtAll;rcases e with e | e
 ·exact NN (wpAny_specialOf (T:="list") (ak _ e rfl) PySem.F.slot_list_iter.lookup (NQ ⟨rfl,z "list" _ (.inl rfl) e rfl rfl⟩))
 ·exact NN (wpAny_specialOf (T:="tuple") (ak _ e rfl) PySem.F.slot_tuple_iter.lookup (NQ ⟨rfl,z "tuple" _ (.inr rfl) e rfl rfl⟩))
theorem jj(T:List Str){sp:Pos}{u:ME}:∀es:hV,cm env p (b8 T es++[.Starred (aX T u) sp])=cm env p (b8 T es)++[(true,(do let v ← eval (aX T u) env;standAt p;pure v))]
 |.nil=>rfl
 |.cons a es=>by
  show cm env p (aX T a::(b8 T es++_))=cm env p (aX T a::b8 T es)++_;rw[bM,bM,jj T es];rfl
end
end
section
def zi(iv:∀e,VS P e){u:ME}{sp:Pos}{Kk:List PV→Prop}{Q:Args→Shared→Prop}(hl:rZ es<2)(i:In P.n X)(ok:fR P.T es X.ns X.cd=true)(Zb:cZ P.T u X.ns X.cd=true)(O:Ok P X s)(hx:pg P.C X.H es X.l λds=>pe P.C X.H u X.l λd=>el (items X.H d) λus=>cG (aE us.length) (Kk (ds++us)))(hQ:∀vs s' as,Kk as→Kp P.toCx X.g s s'→aD X.g s'.heap as vs→Q ⟨vs,[]⟩ s'):
  wpAny P.M X.A (evalArgs f true (cm X.env p (b8 P.T es++[.Starred (aX P.T u) sp])) []) Q E s:=by
 rw[jj];match es,hl,ok,hx with
 |.nil,_,ok,hx=>
  exact ks_lone (iv u X s _ _ E i Zb O.toAt hx λv OP d hd OQ OT=>a6 hd λus hi hd=>sd (O.kp OQ) hi (bk hd) OT λvs OR OU OY=>hQ vs OR us (aY hd) (OQ.trans OU) OY)
 |.cons a .nil,_,ok,hx=>
  have h1:pe P.C X.H a X.l λx=>pe P.C X.H u X.l λd=>el (items X.H d) λus=>cG (aE us.length) (Kk ([x]++us)):=hx;have e:cm X.env p (b8 P.T (.cons a .nil))=[(false,eval (aX P.T a) X.env)]:=bM P.T a;rw[e];refine evalArgs_plain (spliced_cons (iv a X s _ _ E i (ai ok) O.toAt h1 λw O5 x hx PT XC=>ks_spliced (iv u X O5 _ _ E i Zb (O.kp PT).toAt hx λv OP d hd OQ OT=>a6 hd λus hi hd=>?_)));have OU:=PT.trans OQ;refine sd (O.kp OU) hi (bk hd) OT λvs OR O3 OY=>spliced_nil ?_;have rx:abb X.g OR.heap x w:=XC.over ((O.kp PT).toAt.over (OQ.trans O3));have rs:aD X.g OR.heap (x::us) (w::vs):=aN w vs rfl rx OY;have:=hQ (w::vs) OR (x::us) (aY hd) (OU.trans O3) rs;show Q ⟨w::(vs++[]),[]⟩ OR;rw[N6];exact this
theorem Il(hC:ah P.toCx P.n P.C)(iv:∀e,VS P e){o:ME}{m:Str}{u:ME}{sp:Pos}:EV P (.mcs o m ap es u sp p):=by
 intro X s K Q E i ok O hx hQ;have Pu:vV P.T o ap p X.ns X.cd=true:=ai ok;have QJ:=ae (ae ok);have hl:rZ es<2:=NV (ai (ae ok));have Qi:(cm X.env p (b8 P.T es++[.Starred (aX P.T u) sp])).any (·.1)=true:=by rw[jj,List.any_append];simp
 rw[show fH P.T (.mcs o m ap es u sp p)=.Call (.Attribute (aX P.T o) m ap) (b8 P.T es++[.Starred (aX P.T u) sp]) [] p from rfl,arm_eval_Call,d5 (ai Pu)];refine NN (iv o X s _ _ E i (ae (ae Pu)) O.toAt hx λv OP d hd OQ OT=>NN (ON (ay hd λc hm hd=>?_)));have OS:=O.kp OQ;refine bh (qQ hC i OS hm OT) λa x of fd N=>?_;obtain rfl:=N.e;have Q2:methodCallForm ((b8 P.T es++[Expr.Starred (aX P.T u) sp]).length+([]:List Keyword).length) (backTo p (starEach (b8 P.T es++[.Starred (aX P.T u) sp]) X.env)) (backToKw p (keywordEach [] X.env))=false:=by
  unfold methodCallForm;have:(backTo p (starEach (b8 P.T es++[.Starred (aX P.T u) sp]) X.env)).all (!·.1)=false:=by
   rw[← Bool.not_eq_true,Ob];refine ay (List.any_eq_true.mp Qi) λy hy e=>?_;intro h;have:=h y hy;rw[e] at this;cases this
  rw[this,Bool.false_and,Bool.false_and]
 unfold methodCall;rw[Q2];refine NN (Om ?_);show wpAny _ _ (getAttr (.ref x) m true>>=λr=>pure (r,[])) _ _ _;refine NN (aW OS.tp (N.gb _ _ _ λtk tp=>NQ (NN (Oo (a:=p) rfl ?_))));have OW:Ok P X {OP with heap:=OP.heap.push (methodObj (.ref a) (.ref x)),toks:=tk}:=OS.kp ⟨Kp0.push,tp⟩;have hq:(OP.heap.push (methodObj (.ref a) (.ref x))).get? OP.heap.objs.size=some (methodObj (.ref a) (.ref x)):=NZ _ rfl;have nq:¬P.toCx.T OP.heap.objs.size:=λt=>c8 ((OS.tab t).imp' _ λ_=>id) (be _);refine ks_call (P:=λh=>eV P.M h (.ref OP.heap.objs.size)) Qi (λ_ h=>h) (zi (Kk:=λas=>P.C.mt c m X.H (d::as) K) iv hl i (ai QJ) (ae QJ) OW hd λvs OR as hk OU OY=>?_);have O6:=OW.kp OU;have Rv:=OU.abc _ _ nq hq;exact⟨tQ Rv (N.ob _ O6) N.fn,wpAny_call (method_call Rv (N.run OR vs as K Q E O6 (OT.over (.trans (g':=X.g) (h':=OP.heap.push (methodObj (.ref a) (.ref x))) .push (OW.toAt.over OU))) OY hk λu OX PN r QL hk Pe Pi Pf=>hQ u OX PN r QL hk Pe (((Ev.kp OQ).trans (l:=X.l) (H:=X.H) (Ev.kp (P:=P) (X:=X) (s:=OP) ⟨Kp0.push,tp⟩)).trans (l:=X.l) (H:=X.H) ((Ev.kp OU).trans (l:=X.l) (H:=X.H) Pi)) Pf))⟩
end
section
open Builtin
def nK:Slot "list_iterator" "__getattribute__" "object.__getattribute__":=
 .of (owner:="object") (n:="__getattribute__") (by rw[Ox,Of];kernel_rfl) kE kE kE (by first | exact .inl kE | exact .inr kE) (by rw[isSubtype_type];kernel_rfl)
def kT:Slot "wrapper_descriptor" "__get__" "wrapper_descriptor.__get__":=
 .of (owner:="wrapper_descriptor") (n:="__get__") (by rw[Ox,Of];kernel_rfl) kE kE kE (by first | exact .inl kE | exact .inr kE) (by rw[isSubtype_type];kernel_rfl)
def ET:typeLookup (.type "list_iterator") "__next__"=pure (some (.builtin "list_iterator.__next__")):=by rw[Ox,Of];kernel_rfl
def lN:typeOf (.builtin "list_iterator.__next__")=pure (.type "wrapper_descriptor"):=by show builtinType _=_;rw[builtinType_eq_fast];kernel_rfl
def HL:typeLookup (.type "wrapper_descriptor") "__set__"=pure none:=by rw[Ox,Of];kernel_rfl
def G5:typeLookup (.type "wrapper_descriptor") "__delete__"=pure none:=by rw[Ox,Of];kernel_rfl
def ux:entryFor table "wrapper_descriptor.__get__"=some Builtin.«wrapper_descriptor.__get__»:=entryFor_of_tree kR
def x6(a b c:Value):argsOk "wrapper_descriptor.__get__" ⟨[a,b,c],[]⟩:=by unfold argsOk;kernel_rfl
def FC:isSubtype (.type "list_iterator") (.type "list_iterator")=pure true:=by rw[isSubtype_type];kernel_rfl
def Fz:∃t:Sem Unit,«wrapper_descriptor.__get__» ⟨[.builtin "list_iterator.__next__",.ref I,.type "list_iterator"],[]⟩=((isInstance (.ref I) (.type "list_iterator")>>=λb=>if(!b)=true then t else pure ())>>=λ_=>newFields "method-wrapper" [.builtin "list_iterator.__next__",.ref I]>>=λr=>ret r):=⟨_,rfl⟩
section
variable{A:Around}{vs:Array Value}
def yl{Q:ObjectAttr.Found→Shared→Prop}(e:s.heap.get? I=some {cls:=.type "list_iterator",data:=.fields vs})(hQ:Q (.bind (.builtin "wrapper_descriptor.__get__") (.builtin "list_iterator.__next__")) s):wpAny S.M A (ObjectAttr.find (.ref I) (.type "list_iterator") ("__next__":PySem.Str)) Q E s:=by
 unfold ObjectAttr.find;refine NN (Oo ET (NN (fj (s:=s) (T:="wrapper_descriptor") lN kT.lookup (NN (NN (m:=ObjectAttr.takesStores (.builtin "list_iterator.__next__")) (NN (fj (s:=s) (T:="wrapper_descriptor") lN HL (NN (fj (s:=s) (T:="wrapper_descriptor") lN G5 (NQ (NQ ?_)))))))))));have own:∀{Q':Option Value→Shared→Prop},Q' none s→wpAny S.M A (ObjectAttr.inOwnDict "__next__" (.ref I)) Q' E s:=λ{Q'} h=>by
  show wpAny S.M A (ObjectAttr.ownDict I>>=ObjectAttr.inDict "__next__") _ _ _;refine NN ?_;unfold ObjectAttr.ownDict;refine NN (m:=loadHead I) (wpAny_loadPart e ?_);show wpAny S.M A (instanceDict I false) _ _ _;unfold instanceDict;exact NN (wpAny_loadPart e (NQ (NQ h)))
 refine NN (m:=ObjectAttr.inOwnDict "__next__" (.ref I)) (own ?_);show wpAny S.M A (ObjectAttr.copiedAttributeGuard "__next__" (.ref I)>>=λ_=>ObjectAttr.byTheClass _ _) _ _ _;refine NN (Oo (a:=()) rfl (NN (wpAny_rule (NQ hQ))))
def xU{R:Result→Shared→Prop}(e:s.heap.get? I=some {cls:=.type "list_iterator",data:=.fields vs})(h:R (.ok (.ret (.ref s.heap.objs.size))) {s with heap:=s.heap.push (gX I)}):
  codeAny S.M A (.call (.builtin "wrapper_descriptor.__get__") ⟨[.builtin "list_iterator.__next__",.ref I,.type "list_iterator"],[]⟩) R s:=by
 refine codeAny_call_builtin kT.plain ux (kT.check _ _ _ _ _ _ _ _ lN (x6 _ _ _) (a9 (Fz (I:=I)) λt ht=>?_));rw[ht];exact NN (NN (wpAny_isInstance (T:="list_iterator") (b:=true) (ak _ e rfl) FC (bm_if_false rfl (NQ (NN (wpAny_newObj_type (NQ h) (by show 2≤sizeLine+2;exact Nat.le_add_left _ _)))))))
def AN(e:s.heap.get? I=some {cls:=.type "list_iterator",data:=.fields vs})(h:∀k,Q (.ref s.heap.objs.size) {s with heap:=s.heap.push (gX I),toks:=k}):wpAny S.M A (getAttr (.ref I) ("__next__":PySem.Str) true) Q E s:=by
 unfold getAttr getAttrBy;refine NN (wpAny_mkText (Om (NN (wpAny_typeOf (T:="list_iterator") (ak _ e rfl) (NN (Oo nK.lookup ?_))))));show wpAny _ _ (getAttrByItsOwn (.ref I) (.str "__next__" s.toks) (.type "list_iterator") (.builtin "object.__getattribute__") true true) _ _ _;unfold getAttrByItsOwn;refine NN (m:=hookBefore (.type "list_iterator")) (NQ (NN (wpAny_attempt (Om ?_))));show wpAny _ _ (bindSpecial (.builtin "object.__getattribute__") (.ref I)>>=λr=>call r.1 (r.2++[.str "__next__" s.toks])) _ _ _;refine NN (Oo (nK.bind (.ref I)) (call_meets nK (ak _ e rfl) F.entry_object_getattribute (F.args_object_getattribute_2 _ _) (S:=λ_ R s'=>s'.heap=s.heap∧R (.ok (.ret (.ref s.heap.objs.size))) {s' with heap:=s'.heap.push (gX I)}) (.of_wp λprog w A R s' hS=>aU hS λeh hS=>?_) ⟨rfl,NQ (h _)⟩));rw[← eh] at e hS;unfold Builtin.«object.__getattribute__»;refine NN (Oo (a:=(Value.ref I,[Value.str "__next__" s.toks])) rfl (NN (m:=ObjectAttr.attrName _) (NQ (NN (wpAny_typeOf (T:="list_iterator") (ak _ e rfl) (NN (yl (S:=⟨prog,w,s'.heap,[]⟩) e ?_)))))));show wpAny _ _ (holding [_] (call (.builtin "wrapper_descriptor.__get__") [.builtin "list_iterator.__next__",.ref I,.type "list_iterator"])>>=λv=>ret v) _ _ _;exact NN (Om (wpAny_call (xU (S:=⟨prog,w,s'.heap,[]⟩) e (NQ (ak _ rfl hS)))))
end
end
def mV{A:Around}{a:Addr}(e:s.heap.get? a=some (cE vs n))(h:Q (.ref s.heap.objs.size) {s with heap:=s.heap.push (d6 a 0)}):wpAny S.M A (call (.builtin "iter") [.ref a]) Q E s:=by
 refine call_function_entry kE kE kdk_entry_iter (kdk_args_iter _) ?_;unfold Builtin.«iter»;refine NN (m:=someArgs "iter" 1 2 _) (Oo (a:=[Value.ref a]) (by first | rfl | kernel_rfl) ?_);show wpAny _ _ (pyIter (.ref a)>>=_) _ _ _;exact NN (wpAny_pyIter_list (items:=vs.toArray) (bS _ e rfl n rfl) (NQ (ak _ rfl h)))
section
theorem IS(hC:ah P.toCx P.n P.C){o:ME}{p:Pos}(io:VS P o):EV P (.nxt q o p ap):=by
 intro X s K Q E i ok O hx hQ;rw[show fH P.T (.nxt q o p ap)=.Attribute (.Call (.Name ("iter":Str) q) [aX P.T o] [] p) ("__next__":Str) ap from rfl,arm_eval_Attribute,d5 rfl];refine NN (wpAny_Call_Name_kw (bC.name hC.abV i (ai ok) O.W (dL (.inl ⟨_,rfl⟩) (d8 (bb P.T (.cons o .nil))) (bo (bb P.T (.cons o .nil)) ?_))));show wpAny P.M X.A (spliced (cm X.env p [aX P.T o])) _ E s;rw[bM];refine spliced_cons (io X s _ _ E i (ae ok) O.toAt hx λv OP d hd OQ OT=>spliced_nil (a6 hd λj hj hd=>a6 hd λl hl hk=>?_));obtain rfl:=PV.abk hj;have OS:=O.kp OQ;refine ay OT λpa O8 ha=>?_;obtain rfl:=O8;refine cT (OS.R.at_ j _ pa (cv hl) ha) λ_ _ vs n ea _=>mV ea (NN (ON (NN (Om ?_))));generalize hI:OP.heap.objs.size=I;have eI:(OP.heap.push (d6 pa.1 0)).get? I=some (d6 pa.1 0):=hI▸NZ _ rfl;have zI:(OP.heap.push (d6 pa.1 0)).objs.size=I+1:=by rw[Heap.size_push,hI]
 have fI:OP.heap.get? I=none:=hI▸be _;have fW:OP.heap.get? (I+1)=none:=Heap.get?_none_of_le (by rw[hI];exact Nat.le_succ _);refine aW (s:={OP with heap:=OP.heap.push (d6 pa.1 0)}) OS.tp (AN eI λk tp=>NN (wpAny_letTemporaryGo (NQ ?_)));have eW:((OP.heap.push (d6 pa.1 0)).push (gX I)).get? (I+1)=some (gX I):=zI▸NZ _ rfl;have up:∀b o,OP.heap.get? b=some o→((OP.heap.push (d6 pa.1 0)).push (gX I)).get? b=some o:=λb o e=>NS _ (NS _ e);have Yy:=NS (gX I) eI;show Q (.ref (OP.heap.push (d6 pa.1 0)).objs.size) _;rw[zI];refine aU (OS.grow (N:=λx=>x=I+1∨x=I) (p:=(I+1,I)) (o:=.nxt j 0) (h':=(OP.heap.push (d6 pa.1 0)).push (gX I)) (tk:=k) (λx e=>by rcases e with rfl | rfl;exact fW;exact fI) (λx e=>by rcases e with rfl | rfl;exact⟨_,eW⟩;exact⟨_,Yy⟩) up fW fI tp
  (aS (.inr (.inl rfl)) (.inr (.inr rfl)) (Nat.succ_ne_self I) (aV pa eW Yy (by show(X.g.ad++[_])[j]?=_;rw[Ow (fV ha)];exact ha)))) λOW O2=>?_
 refine hQ _ _ _ _ _ hk OW ((Ev.kp OQ).trans (l:=X.l) (H:=X.H) O2) (ak (I+1,I) rfl ?_);show(X.g.ad++[_])[X.H.length]?=_;rw[O.R.len.symm];simp
def rI:∀{ds:List PV}{ts:List Str}{vs:List Value},dP ds=some ts→aD g h ds vs→aD g' h' ds vs:=by
 intro ds;induction ds with
 |nil=>
  intro _ _ _ r;exact r
 |cons d ds ihr=>
  intro _ _ e r;refine ay (Oh.mp e) λx hx e=>ay (N8.mp e) λb hb Pq=>?_;obtain rfl:=Pq;obtain rfl:=PV.abg hx;exact r.imp λ_=>.imp λ_ q=>⟨q.1,q.2.1,ihr hb q.2.2⟩
theorem Ok.adopt(O:Ok P X s)(k:Kp P.toCx X.g s s')(hD:s.heap.get? D=none)(e:s'.heap.get? D=some (cE vs n))(hs:dP ds=some ts)(r:aD X.g s'.heap ds vs):
  Ok P {X with g:=X.g.grow (λx=>x=D) (D,D),H:=X.H++[.lst ds]} s'∧Ev P X s (X.g.grow (λx=>x=D) (D,D)) s':=by
 have O':=O.kp k;have ne:∀{b:Addr},(∃o,s.heap.get? b=some o)→b≠D:=λhb q=>c8 hb (q▸hD);have ov:aC X.g (X.g.grow (λx=>x=D) (D,D)) s.heap s'.heap:=⟨λb o z e=>⟨λq=>q.elim z λq=>ne ⟨o,e⟩ q,k.abc b o (λt=>z (O.tz b t).1) e⟩,λi x e=>by
  show(X.g.ad++[(D,D)])[i]?=some x;rw[Ow (fV e)];exact e⟩
 have nt:¬P.toCx.T D:=λt=>c8 ((O.tab t).imp' _ λ_=>id) hD;have U7:∀{q:Addr×Addr}{i:Nat},X.g.ad[i]?=some q→Apart q (D,D):=λe=>by
  exact aU (O.abY e) λe1 e2=>aS (ne e1) (ne e1) (ne e2) (ne e2)
 refine⟨⟨⟨λb z=>z.elim (O'.T b) λq=>⟨_,q▸e⟩,⟨?_,λi j q r RR e1 e2=>?_,λi Rr q e1 e2=>?_⟩,O.W.over ov,O.L.over ov λn v x=>O.held k x,?_,k.tp,λb t=>⟨.inl (O.tz b t).1,λq=>q.elim (O.tz b t).2 λq=>nt (q▸t)⟩⟩,?_,O.cs,O.fr.over λb o f z w e d=>dK (.inl z) (λq=>q.elim w λq=>ne ⟨o,e⟩ q) o (k.abc b o (x7.abe O e d) e) d,O.hd⟩,?_⟩
 ·show(X.g.ad++[_]).length=_;rw[NP,NP,O.R.len];rfl
 ·rcases eC (l:=X.g.ad) e1 with ⟨p1,q1⟩ | ⟨p1,rfl⟩<;>rcases eC (l:=X.g.ad) e2 with ⟨p2,q2⟩ | ⟨p2,rfl⟩
  ·exact O.R.sep i j q r RR q1 q2
  ·exact U7 q1
  ·exact(U7 q2).symm
  ·exact absurd (p1.trans p2.symm) RR
 ·rcases eC e1 with ⟨p1,q1⟩ | ⟨p1,rfl⟩<;>rcases eC (l:=X.g.ad) e2 with ⟨p2,q2⟩ | ⟨p2,rfl⟩
  ·have w:=O.R.w q2;exact(O.R.at_ i Rr q q1 q2).over ov (λ_=>.inl) (λx=>k.abc _ x λt=>(O.tz _ t).2 w.1) (λx=>k.abc _ x λt=>(O.tz _ t).2 w.2)
  ·have:=O.R.len;lia
  ·have:=O.R.len;lia
  ·exact dp (.inr rfl) rfl vs n e (rI hs r)
 ·refine λt m=>(O'.I t m).imp λ_ q=>⟨q.1,q.2.1,q.2.2.imp id λr=>r.imp λc=>.imp λoc=>.imp λus=>.imp λ_ r=>⟨r.1,λz=>z.elim r.2.1 λz=>?_,r.2.2⟩⟩;have ec:=r.2.2.1;rw[z,e] at ec;have:=r.2.2.2.1;cases ec;cases this
 ·have F:=O'.fm;exact⟨λx hx=>.inl (F.z x hx),λx hx q=>q.elim (F.w x hx) λq=>ne (O.fm.ex hx) q,F.dict,F.cells,F.apart⟩
 ·exact⟨k.same,λb o _ _ nt _ e=>k.abc b o nt e,λb o _ _ nt _ e=>⟨o.slots,k.abc b o nt e⟩,λb q=>.inl q,λb e q=>q.elim id λq=>absurd q (ne e),λb e q=>q.elim id λq=>absurd q (ne e),ov.ad,k.ex⟩
def Hg(ic:gZ e=true→CS P e):EV P (.own e):=by
 intro X s K Q E i ok O hx hQ;have hc:gZ e=true:=ai ok;show wpAny P.M X.A (eval (aX P.T e) X.env) Q E s;rw[show eval (aX P.T e) X.env=kr (aX P.T e) X.env none by cases e<;>first | rfl | exact absurd hc N'];refine ic hc X s _ none Q E i (ae ok) O.toAt hx λD Ca s' d hd k hC hD Ue r ⟨m,hm⟩ ti=>ak m hm (λh' P3=>a6 hd λds Tc hd=>a6 hd λts TP hk=>?_);obtain rfl:=PV.abW Tc;have kk:∀b o,b≠Ca→s'.heap.get? b=some o→h'.get? b=some o:=λb o hb e=>P3.extBut b o hb e;have ov:aC (X.g.plus λa=>a=Ca) X.g s'.heap h':=gx λb o hb e=>kk b o hb e;have ht:¬P.toCx.T Ca:=λt=>c8 ((O.tab t).imp' _ λ_=>id) hC;refine cD r λD' vs n eD zD e rs=>?_;cases eD;have k':Kp P.toCx X.g s {s' with heap:=h'}:=by
  refine⟨⟨ce k.same λh t PA=>?_,λb o t e=>kk b o (λq=>c8 ⟨o,e⟩ (q▸hC)) (k.abc b o t e),λb e=>(k.ex b e).imp λo=>kk b o (λq=>c8 e (q▸hC)),λ_=>ti.over ov.obj λb o t e=>kk b o (λq=>ht (q▸t)) e⟩,k.tp⟩;obtain rfl:=PA;exact aG h' t rfl
 refine aU (O.adopt k' hD (kk D _ Ue e) TP (rs.over ov)) λOW O2=>hQ _ _ _ _ _ hk OW O2 (ak (D,D) rfl ?_);show(X.g.ad++[_])[X.H.length]?=_;rw[O.R.len.symm];simp
def kz(OZ:P.T.Nodup)(hC:ah P.toCx P.n P.C):∀x:XE,EV P x
 |.pl e=>Ka (aR OZ hC e).1
 |.abq _=>FA
 |.newD _=>qf hC
 |.ab6 _ _=>Fu hC
 |.own e=>Hg (tq OZ hC e)
 |.mc o _ _ es _=>La hC (aR OZ hC o).1 (eA OZ hC es).1
 |.mcs ..=>Il hC λe=>(aR OZ hC e).1
 |.new _ _ es _=>zG hC (eA OZ hC es).1
 |.srt _ o _ _ _ _=>Hc hC (aR OZ hC o).1
 |.nxt _ o _ _=>IS hC (aR OZ hC o).1
end
theorem aD.putAt{v:Value}(r:abb g h d v):∀{ds:List PV}{vs:List Value}{j:Nat},aD g h ds vs→j≤ds.length→aD g h (Internal.putAt ds j d) (Internal.putAt vs j v):=by
 intro ds vs j q hj;unfold Internal.putAt;rw[q.length];by_cases hl:j<ds.length
 ·rw[N1 hl,N1 hl];clear hj;induction j generalizing ds vs with
  |zero=>
   cases ds with
   |nil=>exact absurd hl (Nat.not_lt_zero _)
   |cons e ds=>refine aP q λu us O8 Qe=>?_;obtain rfl:=O8;refine aU Qe λ_ q=>aN _ _ rfl r q
  |succ j ih=>
   cases ds with
   |nil=>exact absurd hl (Nat.not_lt_zero _)
   |cons e ds=>refine aP q λu us PA QW=>?_;obtain rfl:=PA;refine aU QW λru q=>aN _ _ rfl ru (ih q (Nat.lt_of_succ_lt_succ hl))
 ·rw[NY hl,NY hl];exact aD.append (.one r) q
section
set_option tactic.hygienic true in
def pn(hC:ah P.toCx P.n P.C){od:PV}{K:AH→Prop}{v:Value}{Q:Unit→Shared→Prop}(O:Ok P X s)(hx:iZ P.C X.H od y d K)(ro:abb X.g s.heap od u)(rv:abb X.g s.heap d v)(hQ:∀s' H',K H'→Ok P {X with H:=H'} s'→Ev P X s X.g s'→Q () s'):wpAny P.M X.A (setAttr u y v) Q E s:=by
 refine bl hx λi c fs ss P2 UO=>?_;obtain rfl:=P2;refine aU UO λhH hx=>ay ro λp Qh hp=>?_;obtain rfl:=Qh;refine bD (lI O.R O.W hH hp) λw1 w2 ne Q7=>a5 Q7 λws es k I rs=>?_;have Wb:g9 s.heap p.1:=λv ⟨o',e',hd⟩=>by have:=I.o;rw[e'] at this;cases this;cases hd
 have Wc:g9 s.heap p.2:=λv ⟨o',e',hd⟩=>by have:=I.d;rw[e'] at this;cases this;cases hd
 split at hx
 ·rename_i j hj;refine aW O.tp ((hC.sl c y j hj).2 I (by rw[rs.length];exact hx.1) λh' tk kk e' tp=>?_);have e2:h'.get? p.2=_:=kk p.2 _ ne.symm I.d;exact aU (O.put (o:=.inst c fs (putAt ss j d)) hp (λb o h1 h2 e=>kk b o h1 e) ⟨Wb,Wc⟩ ⟨⟨_,e'⟩,⟨_,e2⟩⟩ tp λov=>aS w1 w2 ne (aH es k _ e' e2 (I.f.over ov) ((aD.putAt rv rs hx.1).over ov))) λOS Pb=>hQ _ _ hx.2 OS Pb
 ·refine bV hx λh1 h2 hk=>aW O.tp ((hC.ia c y h1).2 I h2 λh' es' k' tk kk e' hf tp=>?_);have e1:h'.get? p.1=_:=kk p.1 _ ne I.o;exact aU (O.put (o:=.inst c (b9 y d fs) ss) hp (λb o h1 h2 e=>kk b o h2 e) ⟨Wb,Wc⟩ ⟨⟨_,e1⟩,⟨_,e'⟩⟩ tp λov=>aS w1 w2 ne (aH es' k' ws e1 e' ((hf _ _ _ I.f rv).over ov) (rs.over ov))) λOS Pb=>hQ _ _ hk OS Pb
def sF{T:List Str}{o:Expr}(e:ME):swapsWith (aX T e) (some (.Attribute o y q)) ln env=pure false:=by
 cases e<;>rfl
def u7{T:List Str}{o:Expr}:∀x:XE,swapsWith (fH T x) (some (.Attribute o y q)) ln env=pure false
 |.pl e=>sF e
 |.own e=>sF e
 |.abq _=>rfl
 |.newD _=>rfl
 |.ab6 _ _=>rfl
 |.mc ..=>rfl
 |.mcs ..=>rfl
 |.new ..=>rfl
 |.srt ..=>rfl
 |.nxt ..=>rfl
def Jl(hC:ah P.toCx P.n P.C){o:ME}{x:XE}(io:VS P o)(ix:EV P x):XS P (.xk (.set o y q x p) b):=by
 intro X s K Q E i ok O hx hQ;have Pu:(cZ P.T o X.ns X.cd&&xX P.T X.ns X.cd x)=true:=ai ok;have hx:xe P.C x X.l X.H λd H'=>pe P.C H' o X.l λod=>iZ P.C H' od y d λH''=>K .next X.l H'':=hx;refine plainObj_wpAny_Assign_Attribute (ix X s _ _ E i (ae Pu) O hx λv OP Pw d O1 hd OS Pb OT=>?_) ?_
 ·refine io {X with g:=Pw,H:=O1} OP _ _ E i.to (ai Pu) OS.toAt hd λu OR od hk OU OY=>?_;have OW:=OS.kp OU;exact pn (X:={X with g:=Pw,H:=O1}) hC OW hk OY (OT.over (OS.toAt.over OU)) λOX QL hk O6 Pi=>hQ _ .next OX Pw X.l QL hk O6 ((Pb.trans (l:=X.l) (H:=O1) (Ev.kp OU)).trans (l:=X.l) (H:=O1) Pi) rfl
 ·exact u7 x
def HN(hC:ah P.toCx P.n P.C){o:ME}{sub:Bool}(io:VS P o)(ie:VS P e):XS P (.xk (.aug o y q sub e p) b):=by
 intro X s K Q E i ok O hx hQ;have Pu:(cZ P.T o X.ns X.cd&&cZ P.T e X.ns X.cd)=true:=ai ok;have hx:pe P.C X.H o X.l λod=>el (nV P.C X.H od y) λa=>el a.int? λx=>pe P.C X.H e X.l λb=>el b.int? λz=>iZ P.C X.H od y (.int (if sub then x-z else x+z)) λH'=>K .next X.l H':=hx;refine wpAny_AugAssign_AttributeAny (io X s _ _ E i (ai Pu) O.toAt hx λu OP od hd OQ OT=>a6 hd λa ha hd=>a6 hd λm hm hd=>?_);obtain rfl:=PV.abr hm;have OS:=O.kp OQ;refine aW OS.tp (pD hC OS.R OS.W ha OT λw tk rw tp=>a9 rw λt Pm=>?_);obtain rfl:=Pm;have OW:Ok P X {OP with toks:=tk}:=OS.kp ⟨Kp0.toks,tp⟩;refine ie X {OP with toks:=tk} _ _ E i (ae Pu) OW.toAt hd λw OX bd hk O3 Pf=>a6 hk λn hn hk=>?_;obtain rfl:=PV.abr hn;refine a9 Pf λt' PY=>?_;obtain rfl:=PY;have O6:=OW.kp O3;have fin:∀z Wf,0<Wf→iZ P.C X.H od y (.int z) (λH'=>K .next X.l H')→wpAny P.M X.A (setAttr u y (.int z OX.toks)) (λ_=>Q .next) E {OX with toks:=Wf}:=λz Wf Tj hz=>by
  have Pe:Ok P X {OX with toks:=Wf}:=O6.kp ⟨Kp0.toks,Tj⟩;exact pn hC Pe hz (show abb X.g OX.heap od u from OT.over (OW.toAt.over O3)) ⟨_,rfl⟩ λQA Sl hk PL Uc=>hQ _ .next QA X.g X.l Sl hk PL (((Ev.kp ((OQ.trans ⟨Kp0.toks,tp⟩).trans O3)).trans (l:=X.l) (H:=X.H) (Ev.kp ⟨Kp0.toks,Tj⟩)).trans (l:=X.l) (H:=X.H) Uc) rfl
 cases sub
 ·exact AutoIntOps.iadd_0 (fin (m+n) (OX.toks+1) (Nat.succ_pos _) hk)
 ·exact AutoIntOps.isub_0 (fin (m-n) (OX.toks+1) (Nat.succ_pos _) hk)
def mK{T:List Str}{x:XE}{t:Option Expr}(h:og x=true):swapsWith (fH T x) t ln env=pure false:=by
 cases x<;>first | rfl | exact absurd h N'
def r6{T:List Str}{x:XE}{t:Tg}(h:og x=true):swappedStores [db T t] (fH T x) env=pure none:=by
 cases t with
 |one i p=>exact dE
 |two i j p q k r=>cases x<;>first | rfl | exact absurd h N'
def GY(OZ:P.T.Nodup){t:Tg}{x:XE}(ix:EV P x):XS P (.xk (.asg t x p) b):=by
 intro X s K Q E i ok O hx hQ;have Pu:(lu P.T X.ns t&&(og x&&xX P.T X.ns X.cd x))=true:=ai ok;have hx:xe P.C x X.l X.H λd H'=>el (gP t X.l d) λl'=>K .next l' H':=hx;exact c5 (jq P.T t) (mK (ai (ae Pu))) (r6 (ai (ae Pu))) (ix X s _ _ E i (ae (ae Pu)) O hx λv OP Pw d O1 hd OS Pb OT=>a6 hd λl' ht hd=>abo (t:=t) (X:={X with g:=Pw,H:=O1}) (l':=l') i.to (ai Pu) OZ OS ht OT λOR OW O2=>hQ _ .next OR Pw _ O1 hd OW (Pb.trans (l:=X.l) (H:=O1) O2) rfl)
def EX{x:XE}(ix:EV P x):XS P (.xk (.expr x r) b):=by
 intro X s K Q E i ok O hx hQ;have Pu:(og x&&xX P.T X.ns X.cd x)=true:=ai ok;have hx:xe P.C x X.l X.H λd H'=>K .next X.l H':=hx;refine wpAny_Expr_any (ix X s _ _ E i (ae Pu) O hx λv OP Pw d O1 hd OS Pb OT=>hQ _ .next OP Pw X.l O1 hd OS Pb rfl) (by unfold interactive;rw[i.kind];rfl) (mK (ai Pu))
end
section
def zu{m:List (Str×PV)}{Sn:Nat}{t:Tok}{v:Value}{K:AH→Prop}{Q:Unit→Shared→Prop}(O:Ok P X s)(hH:X.H[j]?=some (.dict m Sn))(ha:X.g.ad[j]?=some pa)(hf:aE m.length=true)(r:abb X.g s.heap d v)(hk:∀ep,K (X.H.set j (.dict (b9 x d m) ep)))(hQ:∀s' H',K H'→Ok P {X with H:=H'} s'→Ev P X s X.g s'→Q () s'):wpAny P.M X.A (setItem (.ref pa.1) (.str x t) v) Q E s:=by
 refine bD (O.R.at_ j _ pa hH ha) λzw hb hs QV=>ay QV λes O2 qa=>?_;have OZ:(es.map (·.1)).Nodup:=O2.nodup;have O2:=O2.dictOf;exact aW O.tp (wpAny_setItem_pairs (strKind_is P.prog P.w x t) O2 (λh' QP P3 tp=>a9 QP.dictAt λep hd=>aU (O.put (o:=.dict (b9 x d m) ep) ha (λb o hb _ e=>P3.extBut b o hb e) ⟨dz O2,hb▸dz O2⟩ ⟨iS QP,hb▸iS QP⟩ tp λov=>aS zw hb hs (ak _ hd ((cV.put r OZ qa).over ov))) λO6 Pg=>hQ _ _ (hk ep) O6 Pg) (by rw[qa.length];exact aO hf))
def EP(OZ:P.T.Nodup){o k:ME}{x:XE}(io:VS P o)(ik:VS P k)(ix:EV P x):XS P (.xk (.ab7 o k r j q x p) b):=by
 intro X s K Q E i ok O hx hQ;have Pu:(lu P.T X.ns (.one j q)&&(cZ P.T o X.ns X.cd&&(cZ P.T k X.ns X.cd&&(og x&&xX P.T X.ns X.cd x))))=true:=ai ok;have QJ:=ae Pu;have UU:=ae QJ;have hx:xe P.C x X.l X.H λd H'=>pe P.C H' o X.l λod=>pe P.C H' k X.l λkd=>el od.abA λm=>el kd.abx λy=>el (bf H' od) λl=>cG (aE l.length) (∀ep,K .next (upd X.l j d) (H'.set m (.dict (b9 y d l) ep))):=hx;refine wpAny_Assign_two (t₁:=.Subscript (aX P.T o) (aX P.T k) r) (t₂:=.Name (nm P.T j) q) (ix X s _ _ E i (ae (ae UU)) O hx λv OP Pw d O1 hd OS Pb OT=>?_) rfl (by have:=ai (ae UU);cases x<;>first | rfl | exact absurd this N');rw[assign_Subscript];refine NN (Om (io {X with g:=Pw,H:=O1} OP _ _ E i.to (ai QJ) OS.toAt hd λu OR od hd OU OY=>?_));have OW:=OS.kp OU;refine NN (Om (ik {X with g:=Pw,H:=O1} OR _ _ E i.to (ai UU) OW.toAt hd λw OX kd RP O3 Pf=>a6 RP λm hm Q1=>a6 Q1 λy hy Vl=>a6 Vl λl hl V7=>?_));have O6:=OW.kp O3;obtain rfl:=PV.abk hm;obtain rfl:=PV.abg hy;refine a9 Pf λt O8=>?_;obtain rfl:=O8;refine aP (dk hl) λm' Sn Se hH=>?_;cases Se;refine ay OY λpa PA ha=>?_;obtain rfl:=PA;refine NN (ON (NN (Om (zu (E:=E) (X:={X with g:=Pw,H:=O1}) (K:=λH'=>K .next (upd X.l j d) H') O6 hH ha (bk V7) (OT.over (OS.toAt.over (OU.trans O3))) (aY V7) λO0 PB hk Pe Pg=>wpAny_release ?_))));have Uc:=(Pb.trans (l:=X.l) (H:=O1) (Ev.kp (OU.trans O3))).trans (l:=X.l) (H:=O1) Pg;have rv:abb Pw O0.heap d v:=(OT.over (OS.toAt.over (OU.trans O3))).over (Pg.over O6);exact abo (t:=.one j q) (X:={X with g:=Pw,H:=PB}) (l':=upd X.l j d) i.to (ai Pu) OZ Pe rfl rv λQA PL WE=>hQ _ .next QA Pw _ PB hk PL (Uc.trans (l:=X.l) (H:=PB) WE) rfl
def vy(T:List Str){x:XE}:cm env pos [fH T x]=[(false,eval (fH T x) env)]:=by
 cases x<;>first | rfl | exact bM T _
theorem Hz{o:ME}{x:XE}(io:VS P o)(ix:EV P x):XS P (.xk (.app o ap x p r) b):=by
 intro X s K Q E i ok O hx hQ;have VO:(vV P.T o ap p X.ns X.cd&&xX P.T X.ns X.cd x)=true:=ai ok;have Pu:vV P.T o ap p X.ns X.cd=true:=ai VO;have hx:pe P.C X.H o X.l λod=>el od.abA λj=>el (listItems X.H od) λ_=>xe P.C x X.l X.H λd H'=>el (listItems H' od) λys=>cG (aE ys.length) (K .next X.l (H'.set j (.lst (ys++[d])))):=hx;refine wpAny_Expr_any (ch (ai Pu) (by show 1<30;decide) (ai (ae Pu)) (by rw[vy];rfl) (io X s _ _ E i (ae (ae Pu)) O.toAt hx λv OP od RP OQ OT pl=>a6 RP λj hj Q1=>a6 Q1 λZk Ur Vl=>?_)) (by unfold interactive;rw[i.kind];rfl) rfl;obtain rfl:=PV.abk hj;have OS:=O.kp OQ;refine ay OT λpa P2 ha=>?_;obtain rfl:=P2;refine cT (OS.R.at_ j _ pa (cv Ur) ha) λ_ _ vs Tx ea _=>getMethod_builtin (T:="list") (ak _ ea rfl) F.plainAttrs_list slot_list_append type_list_append (λa' e'=>by cases e';exact ak _ ea rfl) (ak _ rfl ?_);rw[vy];refine spliced_cons (ix X OP _ _ E i (ae VO) OS Vl λu OR Pp d Pd V7 OW O2 OY=>spliced_nil (a6 V7 λys Uq hd=>?_));have TE:=O2.ad _ _ ha;refine cT (OW.R.at_ j _ pa (cv Uq) TE) λzw hb QE Rp P6 Q5=>aW OW.tp (wpAny_list_append_plain ⟨Rp,P6⟩ (λh' p' P3 tp=>a9 p' λSN Pi=>?_) (by rw[N4,Q5.length];exact aO (bk hd)));have Pi:h'.get? pa.1=some (cE (QE++[u]) SN):=by rw[Pi];simp
 exact aU (OW.put (o:=.lst (ys++[d])) TE (λb o hb _ e=>P3.extBut b o hb e) ⟨(cU.seq P6 rfl).2,hb▸(cU.seq P6 rfl).2⟩ ⟨⟨_,Pi⟩,hb▸⟨_,Pi⟩⟩ tp λov=>dp zw hb _ SN Pi ((aD.append (.one OY) Q5).over ov)) λO6 Pg=>hQ _ .next _ Pp X.l _ (aY hd) O6 (((Ev.kp OQ).trans (l:=X.l) (H:=X.H) O2).trans (l:=X.l) (H:=Pd) Pg) rfl
theorem HO{o:ME}(io:VS P o):XS P (.xk (.clr o ap p r) b):=by
 intro X s K Q E i ok O hx hQ;have Pu:vV P.T o ap p X.ns X.cd=true:=ai ok;have hx:pe P.C X.H o X.l λod=>el od.abA λj=>el (listItems X.H od) λys=>cG (aE ys.length) (K .next X.l (X.H.set j (.lst []))):=hx;refine wpAny_Expr_any (ch (ai Pu) (by show 0<30;decide) (ai (ae Pu)) rfl (io X s _ _ E i (ae (ae Pu)) O.toAt hx λv OP od RP OQ OT pl=>a6 RP λj hj Q1=>a6 Q1 λys Uq hd=>?_)) (by unfold interactive;rw[i.kind];rfl) rfl;obtain rfl:=PV.abk hj;have OS:=O.kp OQ;refine ay OT λpa Qh ha=>?_;obtain rfl:=Qh;refine cT (OS.R.at_ j _ pa (cv Uq) ha) λzw hb vs Tx ea qa=>getMethod_builtin (T:="list") (ak _ ea rfl) F.plainAttrs_list F.slot_list_clear F.type_list_clear (λa' e'=>by cases e';exact ak _ ea rfl) (ak _ rfl (spliced_nil ?_));have hz:vs.toArray.size≤sizeLine:=by rw[N4,qa.length];exact aO (bk hd)
 refine aW OS.tp (call_meets F.slot_list_clear (ak _ ea rfl) F.entry_list_clear (F.args_list_clear_1 _) (AutoSeq1.list_clear_list_0 pa.1 vs.toArray Tx hz) ⟨ea,λtp=>?_⟩);have Pi:=Heap.get?_update_self (Obj.mapSeq (λ_=>(#[]:Array Value))) ea rfl;exact aU (OS.put (o:=.lst []) ha (λb o hb _ e=>(Heap.get?_update_other _ _ (Ne.symm hb)).trans e) ⟨(cU.seq ea rfl).2,by rw[hb];exact(cU.seq ea rfl).2⟩ ⟨⟨_,Pi⟩,by rw[hb];exact⟨_,Pi⟩⟩ tp λov=>dp zw hb [] _ Pi rfl) λO6 Pg=>hQ _ .next _ X.g X.l _ (aY hd) O6 ((Ev.kp OQ).trans (l:=X.l) (H:=X.H) Pg) rfl
theorem DF{o:ME}(io:VS P o)(ie:VS P e):XS P (.xk (.ab0 o ap e p r) b):=by
 intro X s K Q E i ok O hx hQ;have VO:(vV P.T o ap p X.ns X.cd&&cZ P.T e X.ns X.cd)=true:=ai ok;have Pu:vV P.T o ap p X.ns X.cd=true:=ai VO;have hx:pe P.C X.H o X.l λod=>el od.abA λj=>el (setItems X.H j) λys=>pe P.C X.H e X.l λd=>el d.abx λy=>cG (decide (ys.length<4000)) (K .next X.l (X.H.set j (.set (y::ys)))):=hx;refine wpAny_Expr_any (ch (ai Pu) (by show 1<30;decide) (ai (ae Pu)) (by show(cm X.env p [aX P.T e]).all _=true;exact bb P.T (.cons e .nil)) (io X s _ _ E i (ae (ae Pu)) O.toAt hx λv OP od RP OQ OT pl=>a6 RP λj hj Q1=>a6 Q1 λys Uq hd=>?_)) (by unfold interactive;rw[i.kind];rfl) rfl;obtain rfl:=PV.abk hj;have hH:X.H[j]?=some (.set ys):=by
  have f:∀o:Option AO,(match o with | some (.set l)=>some l | _=>none)=some ys→o=some (.set ys):=λo h=>by
   cases o with
   |none=>exact aT h
   |some o=>cases o<;>first | exact aT h | exact N2 (λl=>some (AO.set l)) (NW h)
  exact f _ Uq
 have OS:=O.kp OQ;refine ay OT λpa Pm ha=>?_;obtain rfl:=Pm;refine fN (OS.R.at_ j _ pa hH ha) λzw hb n hn ea=>getMethod_set_add ea (ak _ rfl ?_);show wpAny P.M X.A (spliced (cm X.env p [aX P.T e])) _ E OP;rw[bM];refine spliced_cons (ie X OP _ _ E i (ae VO) OS.toAt hd λu OR d ZT OU OY=>spliced_nil (a6 ZT λy hy YN=>?_));obtain rfl:=PV.abg hy;refine a9 OY λt PY=>?_;obtain rfl:=PY;have OW:=OS.kp OU;refine fN (OW.R.at_ j _ pa hH ha) λ_ _ Rp VD P6=>?_;have hl:ys.length<4000:=NV (bk YN);have nc:g9 OR.heap pa.1:=λv ⟨o',e',QP⟩=>by
  refine bl P6 λo es ep tt e1 XX=>bV XX λ_ e2 _=>?_;rw[e1] at e';cases e';rw[e2] at QP;cases QP
 refine call_set_add (knd:=strKind P.prog P.w) (k:=y) (strKind_is P.prog P.w y t) rfl P6 (by show Rp+1<4096;exact bu hl VD) λh' P3 hS=>?_;have eS:(λk'=>decide (k'∈ys)||decide (k'=y))=λk'=>decide (k'∈y::ys):=funext λk'=>by
  rw[Bool.eq_iff_iff,Bool.or_eq_true,decide_eq_true_iff,decide_eq_true_iff,decide_eq_true_iff,NU,or_comm]
 rw[eS] at hS;have ex:∃o,h'.get? pa.1=some o:=hS.elim λo q=>q.elim λ_ q=>q.elim λ_ q=>q.elim λ_ q=>⟨o,q.1⟩;exact aU (OW.put (o:=.set (y::ys)) ha (λb o hb _ e=>P3.extBut b o hb e) ⟨nc,hb▸nc⟩ ⟨ex,hb▸ex⟩ (Nat.succ_pos OR.toks) λov=>dK zw hb _ (by rw[NR];split<;>first | exact Nat.le_succ_of_le (by assumption) | exact Nat.succ_le_succ (by assumption)) hS) λO6 Pg=>hQ _ .next _ X.g X.l _ (aY YN) O6 ((Ev.kp (OQ.trans OU)).trans (l:=X.l) (H:=X.H) Pg) rfl
end
def cV.keys:∀{l:List (Str×PV)}{es:List (Str×Value)},cV g h l es→es.map (·.1)=l.map (·.1):=by
 intro l;induction l with
 |nil=>
  intro _ r;rw[show _=[] from r];rfl
 |cons d l ihr=>
  intro _ r;refine aP r λv r O8 Qe=>?_;obtain rfl:=O8;refine aU Qe λ_ q=>?_;rw[OF,OF,ihr q]
set_option tactic.hygienic true in
def sx{w:World}{k:Str}{v:Value}(h:(strKind prog w).is k v=true):∃t,v=.str k t:=by
 cases v<;>first | exact absurd h N' | skip
 rename_i x t;exact⟨t,by rw[show x=k from Ol.mp h]⟩
section
def H8(OZ:P.T.Nodup){w:Pos}(ie:VS P e)(ib:XB P b):XS P (.xk (.ifN j q e w nq cq p) b):=by
 intro X s K Q E i ok O hx hQ;have Pu:(lu P.T X.ns (.one j q)&&cZ P.T e X.ns X.cd)=true:=ai ok;have TW:sS P.T b X.ns X.cd=true:=ae ok;have hx:pe P.C X.H e X.l λd=>el d.isNone λr=>br r (xb P.C b (upd X.l j d) X.H K) (K .next (upd X.l j d) X.H):=hx;refine wpAny_If (wpAny_isTrue_Compare1 (wpAny_NamedExpr (ie X s _ _ E i (ae Pu) O.toAt hx λv OP d hd OQ OT=>a6 hd λr hr hk=>?_)) (dQ P.T (.c .none 0 nq)));have OS:=O.kp OQ;refine abo (t:=.one j q) (l':=upd X.l j d) (Q:=λ_ OR=>wpAny P.M X.A (eval (.Constant .none 0 nq) X.env) _ E OR) i (ai Pu) OZ OS rfl OT λOR OW O2=>?_;have OY:abb X.g OR.heap d v:=OT.over (O2.over OS);refine Constant_none ?_;have ci:dS X.H .is d .none=some r:=hr;refine aW OW.tp (dy i.abH OW.R ci OY rfl λt tp=>wpAny_truthy_bool ?_);have O6:Ok P {X with l:=upd X.l j d} {OR with toks:=t}:=OW.kp ⟨Kp0.toks,tp⟩;have Pi:Ev P X s X.g {OR with toks:=t}:=((Ev.kp OQ).trans (l:=X.l) (H:=X.H) O2).trans (l:=upd X.l j d) (H:=X.H) (Ev.kp (X:={X with l:=upd X.l j d}) ⟨Kp0.toks,tp⟩);cases r with
 |false=>exact wpAny_execs_nil (hQ _ .next _ X.g (upd X.l j d) X.H hk O6 Pi rfl)
 |true=>exact ib {X with l:=upd X.l j d} _ _ _ E i.to TW O6 hk λf fl O0 Ps PP PB hk Pe Pg Qs=>hQ f fl O0 Ps PP PB hk Pe (Pi.trans (l:=upd X.l j d) (H:=X.H) Pg) Qs
def xV{T:List Str}{x:XE}(h:og x=true)(env:Env):isTrue (fH T x) env (eval (fH T x) env)=(do let v ← eval (fH T x) env;standAt (fH T x).pos;holding [v] (truthy v)):=by
 cases x<;>first | rfl | exact absurd h N'
def Co{x:XE}(ix:EV P x)(ib:XB P b):XS P (.xk (.abI x p) b):=by
 intro X s K Q E i ok O hx hQ;have Pu:(og x&&xX P.T X.ns X.cd x)=true:=ai ok;have TW:sS P.T b X.ns X.cd=true:=ae ok;have hx:∃I:Nat→Loc→AH→Prop,(∃n,I n X.l X.H)∧∀n l H,I n l H→xe P.C x l H λd H'=>el (bB H' d) λr=>br r (xb P.C b l H' (eM (λl' H''=>∃m,m<n∧I m l' H'') K)) (K .next l H'):=hx;refine ay hx λI VZ step=>?_;obtain⟨n,h0⟩:=VZ;refine wpAny_While (codeAny_whileLoop (λm s'=>∃g' l' H',I m l' H'∧Ok P {X with g:=g',l:=l',H:=H'} s'∧Ev P X s g' s') ?_ n (aG X.g X.l (aV X.H h0 O (Ev.kp O.refl))));rintro m s' ⟨g',l',H',hI,O',ev⟩;refine isTrue_plain (ix {X with g:=g',l:=l',H:=H'} s' _ _ _ i.to (ae Pu) O' (step m l' H' hI) λv OP Pw d O1 hd OS Pb OT=>a6 hd λr hr hk=>aW OS.tp (dJ OS.R hr OT λt tp=>?_)) (xV (ai Pu) _);have OW:Ok P {X with g:=Pw,l:=l',H:=O1} {OP with toks:=t}:=OS.kp ⟨Kp0.toks,tp⟩;have PR:Ev P X s Pw {OP with toks:=t}:=(ev.trans (l:=l') (H:=H') Pb).trans (l:=l') (H:=O1) (Ev.kp (X:={X with g:=Pw,l:=l',H:=O1}) ⟨Kp0.toks,tp⟩);cases r with
 |false=>
  simp only[Bool.false_eq_true,if_false];exact wpAny_execs_nil (hQ _ .next _ Pw l' O1 hk OW PR rfl)
 |true=>
  simp only[if_true];refine ib {X with g:=Pw,l:=l',H:=O1} _ _ _ _ i.to TW OW hk λf fl O0 Ps PP PB PE Pe P0 PM=>?_;have PD:=PR.trans (l:=l') (H:=O1) P0;cases fl with
  |next=>cases PM;refine ay (PE:∃m',m'<m∧I m' PP PB) λm' hm Ss=>ak m' hm (aG Ps PP (aV PB Ss Pe PD))
  |cont=>cases PM;refine ay (PE:∃m',m'<m∧I m' PP PB) λm' hm Ss=>ak m' hm (aG Ps PP (aV PB Ss Pe PD))
  |brk=>cases PM;exact hQ _ .next O0 Ps PP PB PE Pe PD rfl
  |ret d=>
   refine ay PM λu PI r=>?_;obtain rfl:=PI;exact hQ _ (.ret d) O0 Ps PP PB PE Pe PD (ak u rfl r)
def LS.acZ{tx:Expr}{l:List PV}(OS:Ok P X OP)(hh:X.A.handled=none)(ha:X.g.ad[j]?=some pa):
  LS P X OP (λH=>H[j]?=some (.lst l)) OP.heap.objs.size tx l [OP.heap.objs.size] λi h=>h.IsListIter OP.heap.objs.size pa.1 i∧∃vs n,h.get? pa.1=some (cE vs n)∧vs.length=l.length:=by
 have PH:pa.1≠OP.heap.objs.size:=Nat.ne_of_lt ((OS.abY ha).1.elim λo e=>Heap.lt_size e);refine⟨λb hb=>NX.mp hb▸be OP.heap,λi h st b hb=>?_,λi Pp Ps OR O0 l' H' st O2 Pg kept Pe kc=>?_,λi g' l' H' s Q Q' E hi st O kc ov zI hQ Sb=>?_,λs Q E st tp hQ=>?_⟩
 ·obtain rfl:=NX.mp hb;exact c9 st.1 λo ho hc hd=>⟨.fields ho hd,o,ho⟩
 ·exact cT (Pe.R.at_ j _ pa kc (Pg.ad _ _ ha)) λ_ _ vs n e q=>⟨st.1.at λo e=>kept _ (by simp) o e,vs,n,e,q.length⟩
 ·refine aU st λhit R7=>aP R7 λvs n e hl=>?_;refine cT (O.R.at_ j _ pa kc (by
   have:X.g.ad[j]?=some pa:=ha;exact ov.ad _ _ this)) λ_ _ vs' n' e' q=>?_
  rw[e] at e';cases e';refine ay (q.get (Oz hi)) λv hv r=>aW O.tp (wpAny_pyNext_list_item (items:=vs.toArray) hit (bS _ e rfl n rfl) (x:=v) (by simpa using hv) λh' Ul P3 tp=>c9 Ul λo ho hc hd=>?_);have kk:∀b o,b∉[OP.heap.objs.size]→s.heap.get? b=some o→h'.get? b=some o:=λb o hb e=>P3.extBut b o (λq=>hb (by rw[q];simp)) e;have r':abb g' h' l[i] v:=r.over ⟨λb o z e=>⟨z,kk b o (λq=>z (zI b q)) e⟩,λ_ _ e=>e⟩;exact Sb v _ (jG ho hc kD (hQ v l[i] h' s.toks (Oz hi) r' ⟨aV o ho hc hd,vs,n,kk _ _ (by simpa using PH) e,hl⟩ kk tp))
 ·exact aU st λhit TB=>aP TB λvs n e hl=>aW tp (wpAny_pyNext_list_end (items:=vs.toArray) hh hit (bS _ e rfl n rfl) (by simp[hl]) λh' WR tp=>hQ h' s.toks (λb o hb e=>WR b o (λq=>hb (by rw[q];simp)) e) tp)
def LS.acY{tx:Expr}{l:List (Str×PV)}(OS:Ok P X OP)(hh:X.A.handled=none)(ha:X.g.ad[j]?=some pa):
  LS P X OP (λH=>H[j]?=some (.dict l ep)) OP.heap.objs.size tx (l.map λx=>.str x.1) [OP.heap.objs.size] λi h=>h.IsKeyIter OP.heap.objs.size pa.1 i l.length ep∧∃es,h.DictAt (strKind P.prog P.w) pa.1 es ep∧es.length=l.length:=by
 have PH:pa.1≠OP.heap.objs.size:=Nat.ne_of_lt ((OS.abY ha).1.elim λo e=>Heap.lt_size e);have YV:(l.map λx=>PV.str x.1).length=l.length:=NO ..;refine⟨λb hb=>NX.mp hb▸be OP.heap,λi h st b hb=>?_,λi Pp Ps OR O0 l' H' st O2 Pg kept Pe kc=>?_,λi g' l' H' s Q Q' E hi st O kc ov zI hQ Sb=>?_,λs Q E st tp hQ=>?_⟩
 ·obtain rfl:=NX.mp hb;exact c9 st.1 λo ho hc hd=>⟨.fields ho hd,o,ho⟩
 ·exact bD (Pe.R.at_ j _ pa kc (Pg.ad _ _ ha)) λ_ _ _ VX=>ay VX λes e q=>dC (st.1.at λo e=>kept _ (by simp) o e) es e q.length
 ·refine j7 st λhit YA _ hl=>?_;refine bD (O.R.at_ j _ pa kc (by
   have:X.g.ad[j]?=some pa:=ha;exact ov.ad _ _ this)) λ_ _ _ Q7=>?_
  refine ay Q7 λes e q=>?_;have RQ:i<l.length:=YV▸hi;have Q3:es.length=l.length:=q.length;have W:=Walks.dictKeys (prog:=P.prog) (w:=P.w) (A:=X.A) (knd:=strKind P.prog P.w) hh OP.heap.objs.size pa.1 PH es ep;refine aW O.tp (W.item i s _ _ (by rw[Q3];exact RQ) ⟨by rw[Q3];exact hit,e⟩ λv h' tk hv Qi kk tp=>aP hv λk x hx hk=>ay (q.at hx) λd hd rd=>?_);have WY:(l.map λx=>PV.str x.1)[i]?=some (.str k):=by
   have:=q.keys;rw[show(l.map λx=>PV.str x.1)=(es.map (·.1)).map PV.str by rw[this,List.map_map];rfl,List.getElem?_map,List.getElem?_map,hx];rfl
  refine a9 (sx hk) λt Pm=>?_;obtain rfl:=Pm;rw[Q3] at Qi;refine c9 Qi.1 λo ho hc QP=>?_;have kk:∀b o,b∉[OP.heap.objs.size]→s.heap.get? b=some o→h'.get? b=some o:=kk;exact Sb _ _ (jG ho hc kD (hQ _ (.str k) h' tk WY ⟨t,rfl⟩ (dC Qi.1 es Qi.2 Q3) kk tp))
 ·refine j7 st λhit es e hl=>?_;rw[YV] at hit;have W:=Walks.dictKeys (prog:=P.prog) (w:=P.w) (A:=X.A) (knd:=strKind P.prog P.w) hh OP.heap.objs.size pa.1 PH es ep;exact aW tp (W.done s _ _ ⟨by rw[hl];exact hit,e⟩ λh' tk hk tp=>hQ h' tk hk tp)
set_option tactic.hygienic true in
def Dc(OZ:P.T.Nodup){t:Tg}(ii:VS P it)(ib:XB P b):XS P (.xk (.ab2 t it p) b):=by
 intro X s K Q E i ok O hx hQ;have Pu:(lu P.T X.ns t&&cZ P.T it X.ns X.cd)=true:=ai ok;have TW:sS P.T b X.ns X.cd=true:=ae ok;have hx:pe P.C X.H it X.l λd=>el d.abA λj=>el (jO X.H j) λds=>cG (aE ds.length) (abM (λd l' H' K'=>el (gP t l' d) λSj=>xb P.C b Sj H' λfl l₂ Pd=>Pd[j]?=X.H[j]?∧K' fl l₂ Pd) ds X.l X.H K):=hx;refine wpAny_For (ii X s _ _ E i (ae Pu) O.toAt hx λPQ OP d RP OQ OT=>a6 RP λj hj Q1=>a6 Q1 λds Tc Vl=>?_) (λx=>df P.T it x);obtain rfl:=PV.abk hj;have OS:=O.kp OQ;refine ay OT λpa Qm ha=>?_;obtain rfl:=Qm;have hw:=aY Vl;have f:∀o:Option AO,(match o with | some (.lst l)=>some l | some (.dict l _)=>some (l.map λx=>PV.str x.1) | _=>none)=some ds→o=some (.lst ds)∨∃l ep,o=some (.dict l ep)∧l.map (λx=>PV.str x.1)=ds:=λo h=>by
  cases o with
  |none=>exact aT h
  |some o=>cases o<;>first | exact aT h | exact .inl (N2 (λl=>some (AO.lst l)) (NW h)) | exact .inr ⟨_,_,rfl,NW h⟩
 rcases f _ Tc with hH | ⟨l,ep,hH,Tc⟩
 ·rw[hH] at hw;refine cT (OS.R.at_ j _ pa hH ha) λ_ _ vs n e q=>wpAny_pyIter_list (items:=vs.toArray) (bS _ e rfl n rfl) ?_;exact iM (OP:=OP) (Kx:=λK fl l₂ Pd=>Pd[j]?=some (.lst ds)∧K fl l₂ Pd) OZ ib i (ai Pu) TW OS (LS.acZ OS i.handled ha) hH (λ_ _ _ _ h=>h) ⟨aV _ (NZ _ rfl) rfl rfl,vs,n,NS _ e,q.length⟩ (λb o e=>NS _ e) (aG _ OP.toks rfl) OS.tp hw
   λf fl s' g' l' H' hk O' ev r=>hQ f fl s' g' l' H' hk O' ((Ev.kp OQ).trans (l:=X.l) (H:=X.H) ev) r
 ·subst Tc;rw[hH] at hw;refine bD (OS.R.at_ j _ pa hH ha) λ_ _ hs UG=>ay UG λes e q=>wpAny_pyIter_dict (knd:=strKind P.prog P.w) hs e ?_;exact iM (OP:=OP) (Kx:=λK fl l₂ Pd=>Pd[j]?=some (.dict l ep)∧K fl l₂ Pd) OZ ib i (ai Pu) TW OS (LS.acY OS i.handled ha) hH (λ_ _ _ _ h=>h) (dC (aV _ (NZ _ rfl) rfl (N2 (λn:Nat=>Data.fields #[.ref pa.1,.int ((0:Nat):Int) 0,.int (n:Int) 0,.int (ep:Int) 0]) q.length)) es (e.push _) q.length) (λb o e=>NS _ e) (aG _ OP.toks rfl) OS.tp hw
   λf fl s' g' l' H' hk O' ev r=>hQ f fl s' g' l' H' hk O' ((Ev.kp OQ).trans (l:=X.l) (H:=X.H) ev) r
def Jd(OZ:P.T.Nodup)(hC:ah P.toCx P.n P.C):∀k:XK,XB P b→XS P (.xk k b)
 |.asg _ x _,_=>GY OZ (kz OZ hC x)
 |.set o _ _ x _,_=>Jl hC (aR OZ hC o).1 (kz OZ hC x)
 |.ab7 o k _ _ _ x _,_=>EP OZ (aR OZ hC o).1 (aR OZ hC k).1 (kz OZ hC x)
 |.aug o _ _ _ e _,_=>HN hC (aR OZ hC o).1 (aR OZ hC e).1
 |.app o _ x _ _,_=>Hz (aR OZ hC o).1 (kz OZ hC x)
 |.expr x _,_=>EX (kz OZ hC x)
 |.clr o _ _ _,_=>HO (aR OZ hC o).1
 |.ab0 o _ e _ _,_=>DF (aR OZ hC o).1 (aR OZ hC e).1
 |.ifN _ _ e _ _ _ _,ib=>H8 OZ (aR OZ hC e).1 ib
 |.ab2 _ it _,ib=>Dc OZ (aR OZ hC it).1 ib
 |.abI x _,ib=>Co (kz OZ hC x) ib
end
section
open Builtin
section
variable{A:Around}{W B l:Addr}
def yR(b:Value):checkBoundCall "list_iterator.__next__" ⟨[b],[]⟩=pure ():=kR
def uZ{M:Model}(e:h.get? W=some (gX B)):eV M h (.ref W):=
 (ak .machine (.inr (.inl rfl)) (λA Q E s k hQ=>NN (wpAny_load (k _ _ e) (NQ hQ))))
def yL{R:Result→Shared→Prop}(e:s.heap.get? W=some (gX B))(h:wpAny S.M (A.under (.builtin "list_iterator.__next__" ⟨[.ref B],[]⟩)) («list_iterator.__next__» ⟨[.ref B],[]⟩) (λfin s'=>match fin with | .done f=>R (.ok f) s' | .again c'=>c'.quiet=true∧codeAny S.M A c' R s') (λe s'=>R (.error e) s') s):
  codeAny S.M A (.call (.ref W) ⟨[],[]⟩) R s:=by
 refine codeAny_of_tree ?_;show wpAny _ _ (callAny (.ref W) _) _ _ _;refine nd_load e ?_;show wpAny _ _ (checkBoundCall "list_iterator.__next__" ⟨[.ref B],[]⟩>>=λ_=>again (.builtin "list_iterator.__next__" ⟨[.ref B],[]⟩)) _ _ _;rw[yR];exact NN (NQ (NQ ⟨Code.quiet_builtin _ kE,codeAny_builtin entry_listiter_next h⟩))
noncomputable abbrev Me(t:Addr):Obj:={cls:=.type "StopIteration",data:=.fields #[.ref t,.none,.none,.none,.bool false,.none]}
def AL{items:Array Value}{x:Value}{P:Fin→Shared→Prop}(ho:s.heap.get? B=some (d6 l i))(hl:s.heap.get? l=some {cls:=.type "list",data:=.seq items n})(hx:items[i]?=some x)(hQ:∀h',h'.get? B=some (d6 l (i+1))→(∀b o,b≠B→s.heap.get? b=some o→h'.get? b=some o)→P (.done (.ret x)) {s with heap:=h'}):wpAny S.M A («list_iterator.__next__» ⟨[.ref B],[]⟩) P E s:=by
 show wpAny _ _ (field (.ref B) 0>>=_) _ _ s;refine NN (wpAny_field ho rfl (x:=.ref l) rfl ?_);show wpAny _ _ (if(Value.ref l==Value.none)=true then _ else _) _ _ s;rw[NY (show ¬((Value.ref l==Value.none)=true) from N')];show wpAny _ _ (field (.ref B) 1>>=_) _ _ s;refine NN (wpAny_field ho rfl (x:=.int i 0) rfl ?_);show wpAny _ _ (seqItems? (.ref l)>>=_) _ _ s;refine NN (wpAny_seqItems hl rfl ?_);simp only[Int.toNat_natCast,hx];exact NN (wpAny_setField ho rfl (by simp) (NQ (hQ _ (Heap.get?_update_self _ ho rfl) λb o hb e=>(Heap.get?_update_other _ _ (Ne.symm hb)).trans e)))
def DR{items:Array Value}{P:Fin→Shared→Prop}(hh:A.handled=none)(ho:s.heap.get? B=some (d6 l i))(hl:s.heap.get? l=some {cls:=.type "list",data:=.seq items n})(hx:items[i]?=none)(hE:∀h' t e,(∀b o,b≠B→s.heap.get? b=some o→h'.get? b=some o)→(∃o,h'.get? B=some o)→h'.get? e=some (Me t)→s.heap.get? e=none→E (.ref e) {s with heap:=h'}):wpAny S.M A («list_iterator.__next__» ⟨[.ref B],[]⟩) P E s:=by
 show wpAny _ _ (field (.ref B) 0>>=_) _ _ s;refine NN (wpAny_field ho rfl (x:=.ref l) rfl ?_);show wpAny _ _ (if(Value.ref l==Value.none)=true then _ else _) _ _ s;rw[NY (show ¬((Value.ref l==Value.none)=true) from N')];show wpAny _ _ (field (.ref B) 1>>=_) _ _ s;refine NN (wpAny_field ho rfl (x:=.int i 0) rfl ?_);show wpAny _ _ (seqItems? (.ref l)>>=_) _ _ s;refine NN (wpAny_seqItems hl rfl ?_);simp only[Int.toNat_natCast,hx];refine NN (wpAny_rule (NN (wpAny_setField ho rfl (by simp) ?_)));show wpAny _ _ (newExc (.type "StopIteration") []>>=_) _ _ _;refine NN ?_;simp only[newExc,newTuple];refine NN (wpAny_newObj_type (NN (m:=firstArgMember _ _) (Oo (a:=Value.none) (by first | rfl | (simp only[firstArgMember];rfl)) (wpAny_newObj_type (NN (wpAny_handled ?_)) (by size_fits)))) (by size_fits));rw[hh];refine NN (NQ (wpAny_throw ?_));have hB:=Heap.get?_update_self (h:=s.heap) (Obj.mapFields (·.setIfInBounds 0 Value.none)) ho rfl;refine hE _ _ _ (λb o hb e=>NS _ (NS _ ((Heap.get?_update_other _ _ (Ne.symm hb)).trans e))) ⟨_,NS _ (NS _ hB)⟩ (NZ _ rfl) (Heap.get?_none_of_le ?_);rw[Heap.size_push,Heap.size_after_update];exact Nat.le_succ _
end
end
section
structure lb(A:Around)(e:Addr)(h h':Heap):Prop where
 abc:∀b o,b≠e→¬gR A b→h.get? b=some o→h'.get? b=some o
 slot:∀b o,gR A b→h.get? b=some o→(∀vs,o.data≠.fields vs)→∃sl,h'.get? b=some {o with slots:=sl}
theorem lf{base:Heap}:∀{l:List Env},(∀env∈l,env.scope.kind≠.module∧∃b o,env.frame=some b∧h.get? b=some o∧∀vs,o.data≠.fields vs)→(∀env∈l,∀b,env.frame=some b→base.get? b=none)→h.FunFrames base l:=by
 intro l;induction l with
 |nil=>
  exact λ_ _=>trivial
 |cons env l ihr=>
  exact λh1 h2=>aU (h1 env (.head _)) λk1 QV=>cA QV λb o k2 k3 k4=>⟨k1,bL b o k2 (h2 env (.head _) b k2) k3 k4,ihr (λe q=>h1 e (.tail _ q)) λe q=>h2 e (.tail _ q)⟩
section
variable{w:World}{A:Around}{Qa:List Env}{L e:Addr}{vs:Array Value}{cls a0:Value}
def ji(A:Around)(h:Heap)(e:Addr):Heap:=hideAll h (e::match A.frames with | some l=>l.filterMap (·.frame) | none=>[])
def BH{l:List Env}(hl:A.frames=some l):∀env∈l,∀b,env.frame=some b→(ji A h e).get? b=none:=λenv he b hb=>by
 unfold ji;refine hideAll_none _ (.tail _ ?_);rw[hl];exact List.mem_filterMap.mpr (ak env he hb)
def rD{b:Addr}{o:Obj}(n:b≠e)(f:¬gR A b)(q:h.get? b=some o):(ji A h e).get? b=some o:=by
 unfold ji;refine hideAll_get _ q λm=>?_;rcases NU.mp m with m | m
 ·exact n m
 ·revert m;cases hl:A.frames with
  |none=>intro m;cases m
  |some l=>
   exact λm=>ay (List.mem_filterMap.mp m) λenv he hb=>f (ak l hl (ak env he hb))
def Av{G:Shared→Prop}(hl:A.frames=some (env::Qa))(hf:env.frame=some L)(fk:∀Qr∈env::Qa,Qr.scope.kind≠.module∧∃b o,Qr.frame=some b∧s.heap.get? b=some o∧∀vs,o.data≠.fields vs)(he:s.heap.get? e=some {cls:=cls,data:=.fields vs})(h1:vs[1]?=some .none)(h0:vs[0]?=some a0)(h:∀h',lb A e s.heap h'→Heap.FlyingW (ji A s.heap e) (env::Qa) e cls a0 h'→G {s with heap:=h'}):
  wpAny (model prog w) A (noteFrame (.ref e) env) (λ_ OR=>wpAny (model prog w) A (setFlight (.ref e) none) (λ_ OX=>G OX) E OR) E s:=by
 have P8:=lf fk (BH (h:=s.heap) (e:=e) hl);have YO:(ji A s.heap e).get? e=none:=hideAll_none _ (.head _);unfold noteFrame;simp only[hf];refine NN (wpAny_field he rfl h1 ?_);rw[NY kD];exact wpAny_entryW hl P8 hf he (λb o q=>of_hideAll _ q) YO rfl (Array.getElem?_eq_some_iff.mp h1).1 h0 λO9 hN=>wpAny_landsW (aS hN.1 YO hN.2.1 hN.2.2.1) λO4 hF hs=>h O4 ⟨λb o n f q=>hF.1 _ _ (rD n f q),λb o f q d=>a9 (hN.2.2.2 b o q d) λsl q'=>hs b {o with slots:=sl} q' d⟩ hF
def Ar{X:String}{np:Pos}{U1:Stmt}{T1:List Stmt}{Q:Flow→Shared→Prop}{rest:List ExceptHandler}(hN:lb A e Qb s.heap)(hF:Heap.FlyingW (ji A Qb e) (env::Qa) e (.type X) a0 s.heap)(hev:∀{E':Value→Shared→Prop}{Q':Value→Shared→Prop},Q' (.type X) s→wpAny (model prog w) (A.mark (some (.ref e))) (eval (.Name x np) env) Q' E' s)(hexc:isSubtype (.type X) (.type "BaseException")=pure true)(VC:isSubtype (.type ((Manifest.find? X).elim "type" λy=>y.metatype)) (.type "tuple")=pure false)(Rn:isSubtype (.type X) (.type X)=pure true)(k:∀h',lb A e Qb h'→wpAny (model prog w) (A.mark (some (.ref e))) (execs (U1::T1) env) Q (λ_ _=>False) {s with heap:=h'}):
  wpAny (model prog w) A (handleBy (.ref e) env (.ExceptHandler (some (.Name x np)) none (U1::T1) pos::rest)) Q E s:=by
 refine ay hF.there λob Un hc=>wpAny_handleBy_builtin (X:=X) (T:=X) (b:=true) hexc VC Rn (hev ⟨rfl,ak ob Un hc,?_⟩);simp only[if_true];exact bD hF λf1 f2 f3 f4=>wpAny_setFlight_noneW f1 f3 f4.at λh' k1 k2 k3 k4=>OH (k h' ⟨λb o n f q=>k1 b o (rD n f q),λb o f q d=>a9 (hN.slot b o f q d) λsl q'=>⟨sl,k4 b _ q' d⟩⟩) (λ_ _ q=>q) λ_ _ q=>q.elim
end
end
section
section
variable{w:World}{A:Around}{n:Str}{y:Value}{m:Nat}
def oQ{M:Model}{v:Value}(k:env.scope.kind=.function)(x:ff s.heap env n v)(hd:(n==("__debug__":Str))=false)(h:Q v s):wpAny M A (eval (.Name n pos) env) Q E s:=by
 rcases x with ⟨a,m,b,c⟩ | ⟨a | ⟨a,z⟩,c,b,d⟩
 ·exact wpAny_Name (wpAny_loadName_local k a b c h) hd
 ·exact wpAny_Name (wpAny_loadName_cell k a b d h) hd
 ·exact wpAny_Name (wpAny_loadName_free k a b d h z) hd
def uH:(vs++[y]).toArray.eraseIdxIfInBounds ((vs++[y]).toArray.size-1)=vs.toArray:=by
 simp only[N4,NP,List.length_singleton,Nat.add_sub_cancel,List.eraseIdxIfInBounds_toArray];rw[List.eraseIdx_append_of_length_le (Oe _),Nat.sub_self];simp
theorem B9(k:env.scope.kind=.function)(hd:(n==("__debug__":Str))=false)(Vh:(ap.endLine==p.line)=true)(x:ff s.heap env n (.ref a))(ha:s.heap.get? a=some (cE (vs++[y]) m))(hz:vs.length≤1000)(h:∀h' m',h'.get? a=some (cE vs m')→(∀b o,b≠a→s.heap.get? b=some o→h'.get? b=some o)→Q y {s with heap:=h'}):wpAny (model prog w) A (eval (.Call (.Attribute (.Name n q) ("pop":Str) ap) [] [] p) env) Q E s:=by
 refine ch rfl (by show 0<30;decide) Vh rfl (oQ k x hd λpl=>?_);have sz:(vs++[y]).toArray.size≤sizeLine:=by rw[N4,NP];exact aO (au (by simp;exact az hz))
 refine getMethod_builtin (T:="list") (ak _ ha rfl) F.plainAttrs_list F.slot_list_pop F.type_list_pop (λa' e'=>by cases e';exact ak _ ha rfl) (ak _ rfl (spliced_nil ?_));obtain⟨m',e⟩:∃m',Obj.mapSeq (λxs=>xs.eraseIdxIfInBounds ((vs++[y]).toArray.size-1)) (cE (vs++[y]) m)=cE vs m':=⟨_,N2 (λz=>({cls:=.type "list",data:=Data.seq z _}:Obj)) uH⟩;exact call_meets F.slot_list_pop (ak _ ha rfl) F.entry_list_pop (F.args_list_pop_1 _) (MeetsSeq.list_pop_last a (vs++[y]).toArray m y (by simp) sz) ⟨ha,h _ m' ((Heap.get?_update_self _ ha rfl).trans (N2 some e)) λb o hb e=>(Heap.get?_update_other _ _ (Ne.symm hb)).trans e⟩
end
noncomputable def dM{α:Type}(k:Str):List (Str × α)→List (Str × α)
 |[]=>[]
 |x::r=>if x.1=k then dM k r else x::dM k r
def lL{α:Type}{k:Str}{x:Str × α}{r:List (Str × α)}:dM k (x::r)=if x.1=k then dM k r else x::dM k r:=rfl
def ut{k:Str}:∀es:List (Str×Value),without es k=dM k es:=by
 intro es;induction es with
 |nil=>
  exact rfl
 |cons x r ihr=>
  unfold without;rw[lL];rw[Ov];by_cases e:x.1=k
  ·rw[N1 e,NY (by simp[e])];exact ihr
  ·rw[NY e,N1 (by simp[e])];exact N2 (x::·) (ihr)
def cV.del{k:Str}:∀{m:List (Str×PV)}{es:List (Str×Value)},cV g h m es→cV g h (dM k m) (dM k es):=by
 intro m;induction m with
 |nil=>
  intro _ q;cases q;rfl
 |cons x m ihr=>
  intro _ q;refine aP q λu es O8 Qe=>?_;obtain rfl:=O8;refine aU Qe λa q=>?_;rw[lL,lL];by_cases e:x.1=k
  ·rw[N1 e,N1 e];exact ihr q
  ·rw[NY e,NY e];exact aN u _ rfl a (ihr q)
section
variable{A:Around}{d:Addr}{es:List (Str×Value)}{k:Str}{t:Tok}
def FT{Q:Unit→Shared→Prop}(hD:s.heap.DictOf (strKind S.prog S.w) d es)(hz:es.length≤1000)(hk:(aM k es).isSome=true)(h:∀h' ep,h'.DictAt (strKind S.prog S.w) d (dM k es) ep→Heap.SameBut d s.heap h'→Q () {s with heap:=h',toks:=s.toks+1}):wpAny S.M A (delItem (.ref d) (.str k t)) Q E s:=by
 refine wpAny_delItem_slot hD.typeIs kD F.slot_dict_delitem (call_meetsIn F.slot_dict_delitem hD.typeIs F.entry_dict_delitem (F.args_dict_delitem_2 _ _) (meets_dict_delitem_pairs (strKind S.prog S.w) d (k:=k) (strKind_is S.prog S.w k t)) (cb es hD (aO (au (az hz))) ?_ (λh' Vb hs=>?_)))
 ·rw[gq];exact hk
 ·refine a9 Vb.dictAt λep hd=>?_;rw[ut] at hd;exact h h' ep hd hs
end
end
section
open Builtin
def Ea(l:Loc)(H:AH)(again:Loc→AH→Prop)(K:Fl→Loc→AH→Prop):Prop:=
 ∃a b c ys zs m ep,(l 2=some (.obj a)∧l 3=some (.obj b)∧l 5=some (.obj c))∧(H[a]?=some (.lst ys)∧H[b]?=some (.lst zs)∧H[c]?=some (.dict m ep))∧a≠b∧(ys.length≤100∧zs.length≤100∧m.length≤100) ∧
  ((ys=[]∧K .brk l H)∨∃RL j PK pos ds,ys≠[]∧zs=RL++[.obj j]∧H[j]?=some (.nxt PK pos)∧H[PK]?=some (.lst ds) ∧
   ((∃d,ds[pos]?=some d∧K .next (upd l 6 d) (H.set j (.nxt PK (pos+1)))) ∨
    (ds[pos]?=none∧∃ST y,ys=ST++[.str y]∧(aM y m).isSome=true∧∀PW,again l ((((H.set j .gone).set a (.lst ST)).set c (.dict (dM y m) PW)).set b (.lst RL)))))
def DQ(l:Loc)(H:AH)(K:Fl→Loc→AH→Prop):Prop:=∃I:Nat→Loc→AH→Prop,(∃n,I n l H)∧∀n l H,I n l H→Ea l H (λl' H'=>∃m,m<n∧I m l' H') K
def KM(T:List Str)(p1 p2 p3 p4 p5 p6 p7 p8 p9 Qt QY p12 RX RY Te Tf Th RZ R0 Ti TX TY Tz TZ:Pos):Stmt:=
 .While (.Name (nm T 2) p1) [.Try [.Assign [.Name (nm T 6) p2] (.Call (.Subscript (.Name (nm T 3) p3) (.UnaryOp .USub (.Constant (.int 1) 0 p4) p5) p6) [] [] p7) p8,.Break p9]
  [.ExceptHandler (some (.Name ("StopIteration":Str) Qt)) none [.Delete [.Subscript (.Name (nm T 5) QY) (.Call (.Attribute (.Name (nm T 2) p12) ("pop":Str) RX) [] [] RY) Te] Tf,.Expr (.Call (.Attribute (.Name (nm T 3) Th) ("pop":Str) RZ) [] [] R0) Ti] TX] [] [] TY] [.Break Tz] TZ
section
def qF(o i:Expr)(q:Pos)(args kws pos env):eval (.Call (.Subscript o i q) args kws pos) env=(do
  callWith pos (← eval (.Subscript o i q) env) [] (backTo pos (starEach args env)) (backToKw pos (keywordEach kws env))):=rfl
def ju{PK pos:Nat}{o:AO}(h1:H[j]?=some (.nxt PK pos))(h2:H[i]?=some o)(h:∀a b,o≠.nxt a b):i≠j:=λe=>by subst e;rw[h1] at h2;cases h2;exact h _ _ rfl
def iQ{o o':AO}(h:H[i]?=some o)(n:i≠j):(H.set j o')[i]?=some o:=by rw[List.getElem?_set_ne (Ne.symm n)];exact h
def aD.snoc_inv:∀{ds:List PV}{d:PV}{vs:List Value},aD g h (ds++[d]) vs→∃ws v,vs=ws++[v]∧aD g h ds ws∧abb g h d v:=by
 intro ds;induction ds with
 |nil=>
  intro d _ r;refine aP r λv r' O8 Qe=>?_;obtain rfl:=O8;refine aU Qe λa Pq=>?_;obtain rfl:=Pq;exact aN [] v rfl rfl a
 |cons x ds ihr=>
  intro d _ r;refine aP r λv r' PI R8=>?_;obtain rfl:=PI;refine aU R8 λa q=>aP (ihr q) λws u Qd TC=>?_;obtain rfl:=Qd;exact aU TC λq1 q2=>aN (v::ws) u rfl (aN v ws rfl a q1) q2
def Ok.acP{e:Addr}(O:Ok P X s)(he:∀b,X.g.Z b→b≠e)(nb:∀b o,¬X.g.Z b→s.heap.get? b=some o→b≠e)(N:lb X.A e s.heap h')(tp:0<tk):
  Ok P X {s with heap:=h',toks:=tk}∧Ev P X s X.g {s with heap:=h',toks:=tk}:=by
 have ne:∀b,(∃o,s.heap.get? b=some o)→b≠e:=λb hb=>by
  by_cases z:X.g.Z b
  ·exact he b z
  ·exact nb b _ z hb.choose_spec
 have ov:aC X.g X.g s.heap h':=⟨λb o z e'=>⟨z,N.abc b o (ne b ⟨o,e'⟩) (λf=>z (O.fr.at f).1) e'⟩,λ_ _ q=>q⟩;have Sp:∀b,(∃o,s.heap.get? b=some o)→∃o,h'.get? b=some o:=λb hb=>by
  refine a9 hb λo e'=>?_;by_cases f:gR X.A b
  ·exact fN (O.fr.at f) λ_ _ o' q d=>(N.slot b o' f q d).elim λsl q=>⟨_,q⟩
  ·exact⟨o,N.abc b o (ne b ⟨o,e'⟩) f e'⟩
 have tf:∀b,P.toCx.T b→¬gR X.A b:=λb t f=>by
  exact fN (O.fr.at f) λ_ _ o' q d=>x7.abe O q d t
 have mv:mA P.toCx X.A X.g s X.g {s with heap:=h',toks:=tk}:=by
  refine⟨aG _ _ rfl,λb o _ _ f q=>N.abc b o (ne b ⟨o,q⟩) f q,λb o _ _ f q=>fN (O.fr.at f) λ_ _ o' q' d=>?_,λ_ q=>q,λ_ _ q=>q,λ_ _ q=>q,λ_ _ q=>q,Sp⟩;rw[q] at q';cases q';exact N.slot b o f q d
 have w:Wl P.toCx X.g {s with heap:=h',toks:=tk}:=⟨λb z=>Sp b (O.T b z),O.W.over ov,O.I.over ov.obj λb o t q=>N.abc b o (ne b ⟨o,q⟩) (tf b t) q,tp,O.tz⟩;have nw:∀b,X.g.W b→¬gR X.A b:=λb wb f=>(O.fr.at f).2.1 wb;have R:=O.R.over ov rfl (λ_ q=>q) λb o wb q=>N.abc b o (ne b ⟨o,q⟩) (nw b wb) q;exact⟨O.m (g':=X.g) (H':=X.H) mv w R,Ev.acd mv⟩
end
end
section
open Builtin
section
def Ok.putN{p:Addr×Addr}{o:AO}(O:Ok P X s)(ha:X.g.ad[j]?=some p)(k:∀b o,b≠p.1→b≠p.2→¬gR X.A b→s.heap.get? b=some o→h'.get? b=some o)(sl:∀b o,gR X.A b→s.heap.get? b=some o→(∀vs,o.data≠.fields vs)→∃sl,h'.get? b=some {o with slots:=sl})(ex:(∃o,h'.get? p.1=some o)∧∃o,h'.get? p.2=some o)(tp:0<tk)(r:aC X.g X.g s.heap h'→mG P.toCx X.g h' p o):Ok P {X with H:=X.H.set j o} {s with heap:=h',toks:=tk}∧Ev P X s X.g {s with heap:=h',toks:=tk}:=by
 have w:=O.R.w ha;have z1:=X.g.sub _ w.1;have z2:=X.g.sub _ w.2;have nw:∀b,X.g.W b→¬gR X.A b:=λb wb f=>(O.fr.at f).2.1 wb;have ov:aC X.g X.g s.heap h':=⟨λb o z e=>⟨z,k b o (λq=>z (q▸z1)) (λq=>z (q▸z2)) (λf=>z (O.fr.at f).1) e⟩,λ_ _ e=>e⟩;have Sp:∀b,(∃o,s.heap.get? b=some o)→∃o,h'.get? b=some o:=λb hb=>by
  by_cases q:b=p.1
  ·subst q;exact ex.1
  ·by_cases q':b=p.2
   ·subst q';exact ex.2
   ·by_cases f:gR X.A b
    ·exact fN (O.fr.at f) λ_ _ o' e' d=>(sl b o' f e' d).elim λsl q=>⟨_,q⟩
    ·exact hb.imp λo=>k b o q q' f
 have hj:j<X.H.length:=by rw[O.R.len.symm];exact fV ha
 have tf:∀b,P.toCx.T b→¬gR X.A b:=λb t f=>by
  exact fN (O.fr.at f) λ_ _ o' q d=>x7.abe O q d t
 have mv:mA P.toCx X.A X.g s X.g {s with heap:=h',toks:=tk}:=by
  refine⟨aG _ _ rfl,λb o nW _ f q=>k b o (λe=>nW (e▸w.1)) (λe=>nW (e▸w.2)) f q,λb o _ _ f q=>fN (O.fr.at f) λ_ _ o' q' d=>?_,λ_ q=>q,λ_ _ q=>q,λ_ _ q=>q,λ_ _ q=>q,Sp⟩;rw[q] at q';cases q';exact sl b o f q d
 have wl:Wl P.toCx X.g {s with heap:=h',toks:=tk}:=⟨λb z=>Sp b (O.T b z),O.W.over ov,O.I.over ov.obj λb o t q=>k b o (λe=>(O.tz b t).2 (e▸w.1)) (λe=>(O.tz b t).2 (e▸w.2)) (tf b t) q,tp,O.tz⟩;have R:bG P.toCx X.g (X.H.set j o) h':=by
  refine⟨by rw[List.length_set];exact O.R.len,O.R.sep,λi Rr q e f=>?_⟩;by_cases RR:i=j
  ·subst RR;rw[List.getElem?_set_self hj] at e;cases e;rw[ha] at f;cases f;exact r ov
  ·rw[List.getElem?_set_ne (Ne.symm RR)] at e;refine bD (O.R.sep i j q p RR f ha) λn1 n2 n3 n4=>?_;have wq:=O.R.w f;exact(O.R.at_ i Rr q e f).over ov (λ_ z=>z) (λx=>k _ x n1 n2 (nw _ wq.1)) (λx=>k _ x n3 n4 (nw _ wq.2))
 exact⟨O.m (g':=X.g) (H':=X.H.set j o) mv wl R,Ev.acd mv⟩
def uN{ns:kF}(h:gE ns x=true):(x==("__debug__":Str))=false:=eN (ae h)
theorem wB{A:Around}{a:Nat}(k:X.env.scope.kind=.function)(hd:(nm P.T i==("__debug__":Str))=false)(Vh:(ap.endLine==p.line)=true)(O:Ok P X s)(hl:X.l i=some (.obj a))(ha:X.H[a]?=some (.lst (ys++[d])))(hz:ys.length≤100)(hQ:∀v s',abb X.g s'.heap d v→Ok P {X with H:=X.H.set a (.lst ys)} s'→Ev P X s X.g s'→Q v s'):wpAny P.M A (eval (.Call (.Attribute (.Name (nm P.T i) q) ("pop":Str) ap) [] [] p) X.env) Q E s:=by
 refine j7 (O.L i _ hl) λ_ v TD hv=>?_;obtain⟨pa,rfl,YX⟩:=TD;refine cT (O.R.at_ a _ pa ha YX) λzw hb vs n ea qa=>aP (aD.snoc_inv qa) λws u Pq UM=>?_;obtain rfl:=Pq;exact aU UM λqs qd=>B9 k hd Vh hv ea (by rw[qs.length];exact az hz) λh' m' e' kk=>aU (O.put (j:=a) (o:=.lst ys) (h':=h') (tk:=s.toks) YX (λb o n1 _ e=>kk b o n1 e) ⟨(cU.seq ea rfl).2,hb▸(cU.seq ea rfl).2⟩ ⟨⟨_,e'⟩,hb▸⟨_,e'⟩⟩ O.tp λov=>dp zw hb ws m' e' (qs.over ov)) λOS ev=>hQ u _ (qd.over (ev.over O)) OS ev
def qZ{A:Around}{T5 T2 T3:Nat}{QY p12 RX RY Te Tf Th RZ R0 Ti:Pos}{a b c:Nat}{ST RL:List PV}{dj:PV}{dm:List (Str×PV)}{Q:Flow→Shared→Prop}(i:In P.n X)(h2:gE X.ns (nm P.T T2)=true)(h3:gE X.ns (nm P.T T3)=true)(h5:gE X.ns (nm P.T T5)=true)(e1:(RX.endLine==RY.line)=true)(e2:(RZ.endLine==R0.line)=true)(O:Ok P X s)(l2:X.l T2=some (.obj a))(l3:X.l T3=some (.obj b))(l5:X.l T5=some (.obj c))(ha:X.H[a]?=some (.lst (ST++[.str y])))(hb:X.H[b]?=some (.lst (RL++[dj])))(hc:X.H[c]?=some (.dict dm ep))(Xv:a≠b)(Xw:a≠c)(Xx:b≠c)(zy:ST.length≤100)(zz:RL.length≤100)(zm:dm.length≤100)(hk:(aM y dm).isSome=true)(hQ:∀PW s',Ok P {X with H:=((X.H.set a (.lst ST)).set c (.dict (dM y dm) PW)).set b (.lst RL)} s'→Ev P X s X.g s'→Q .next s'):
  wpAny P.M A (execs [.Delete [.Subscript (.Name (nm P.T T5) QY) (.Call (.Attribute (.Name (nm P.T T2) p12) ("pop":Str) RX) [] [] RY) Te] Tf,.Expr (.Call (.Attribute (.Name (nm P.T T3) Th) ("pop":Str) RZ) [] [] R0) Ti] X.env) Q E s:=by
 refine wpAny_execs_cons (wpAny_Delete (wpAny_deleteEach_cons (wpAny_delete_Subscript (j7 (O.L T5 _ l5) λ_ v UR hv=>?_))));obtain⟨pc,rfl,P9⟩:=UR;refine oQ i.kind hv (uN h5) (wB i.kind (uN h2) e1 O l2 ha zy λu OP OT OS PR=>a9 OT λt PI=>?_);obtain rfl:=PI;have Vk:(X.H.set a (.lst ST))[c]?=some (.dict dm ep):=iQ hc (Ne.symm Xw);refine bD (OS.R.at_ c _ pc Vk P9) λzw WP PH R7=>ay R7 λes hD q=>?_;have OV:es.length=dm.length:=q.length;have Vb:OP.heap.DictOf (strKind P.prog P.w) pc.1 es:=hD.dictOf;refine FT (S:=P.toCx) Vb (by rw[OV];exact az zm) ?_ λO4 PW Sw hs=>?_
 ·rcases q.look (k:=y) with ⟨v,d,q1,q2,_⟩ | ⟨q1,q2⟩
  ·rw[q1];rfl
  ·rw[q2] at hk;cases hk
 exact aU (OS.put (j:=c) (o:=.dict (dM y dm) PW) (h':=O4) (tk:=OP.toks+1) P9 (λb o n1 _ e=>hs.extBut b o n1 e) ⟨dz Vb,WP▸dz Vb⟩ ⟨iS Sw.dictOf,WP▸iS Sw.dictOf⟩ (Nat.succ_pos _) λov=>aS zw WP PH (ak (dM y es) Sw ((q.over ov).del))) λOW PZ=>wpAny_deleteEach_nil (wpAny_execs_cons (wpAny_Expr_any (wB (X:={X with H:=(X.H.set a (.lst ST)).set c (.dict (dM y dm) PW)}) i.kind (uN h3) e2 OW l3 (iQ (iQ hb (Ne.symm Xv)) Xx) zz λu OX Pf O6 Qn=>wpAny_execs_nil (hQ PW OX O6 ((PR.trans (l:=X.l) (H:=X.H.set a (.lst ST)) PZ).trans (l:=X.l) (H:=(X.H.set a (.lst ST)).set c (.dict (dM y dm) PW)) Qn))) (by unfold interactive;rw[i.kind];rfl) rfl))
end
end
section
open Builtin
section
def Bv:isSubtype (.type "StopIteration") (.type "BaseException")=pure true:=by rw[isSubtype_type];kernel_rfl
def Fq:isSubtype (.type ((Manifest.find? "StopIteration").elim "type" λy=>y.metatype)) (.type "tuple")=pure false:=by rw[isSubtype_type];kernel_rfl
def Cv:isSubtype (.type "StopIteration") (.type "StopIteration")=pure true:=by rw[isSubtype_type];kernel_rfl
theorem GK.frames{A:Around}{l:List Env}(f:GK g A h)(hl:A.frames=some l):∀Qr∈l,Qr.scope.kind≠.module∧∃b o,Qr.frame=some b∧h.get? b=some o∧∀vs,o.data≠.fields vs:=by
 refine ay f λl' RG q=>?_;rw[hl] at RG;cases RG;exact λQr he=>(q Qr he).imp id λq=>q.imp λb=>.imp λo q=>⟨q.1,q.2.1,q.2.2.1⟩
theorem w9(OZ:P.T.Nodup)(hC:ah P.toCx P.n P.C)(P8:P.C.fr=true)(Qi:bC P.toCx "StopIteration" (.type "StopIteration")){p1 p2 p3 p4 p5 p6 p7 p8 p9 Qt QY p12 RX RY Te Tf Th RZ R0 Ti TX TY Tz TZ:Pos}(e1:(RX.endLine==RY.line)=true)(e2:(RZ.endLine==R0.line)=true)(K:Fl→Loc→AH→Prop)(Q:Flow→Shared→Prop)(E:Value→Shared→Prop)(i:In P.n X)(hg:o0 X.ns "StopIteration"=true)(h2:gE X.ns (nm P.T 2)=true)(h3:gE X.ns (nm P.T 3)=true)(h5:gE X.ns (nm P.T 5)=true)(h6:lu P.T X.ns (.one 6 p2)=true)(O:Ok P X s)(hx:DQ X.l X.H K)(hQ:∀f fl s' g' l' H',K fl l' H'→Ok P {X with g:=g',l:=l',H:=H'} s'→Ev P X s g' s'→fE g' s'.heap fl f→Q f s'):wpAny P.M X.A (exec (KM P.T p1 p2 p3 p4 p5 p6 p7 p8 p9 Qt QY p12 RX RY Te Tf Th RZ R0 Ti TX TY Tz TZ) X.env) Q E s:=by
 refine ay hx λI TD step=>?_;obtain⟨n,h0⟩:=TD;refine wpAny_While (codeAny_whileLoop (λm s'=>∃g' l' H',I m l' H'∧Ok P {X with g:=g',l:=l',H:=H'} s'∧Ev P X s g' s') (λm s' Qi=>nX λWu Wj R1 _=>?_) n (aG X.g X.l (aV X.H h0 O (Ev.kp O.refl))));obtain⟨g',l',H',hI,O',ev⟩:=Qi;have hi:In P.n {X with g:=g',l:=l',H:=H'}:=i.to;refine bh (step m l' H' hI) λa b c ys QI=>cD QI λzs dm ep Yp UQ Xv Q7=>?_;obtain⟨l2,l3,l5⟩:=Yp;obtain⟨ha,hb,hc⟩:=UQ;refine aU Q7 λYq Wz=>?_;obtain⟨zy,zz,zm⟩:=Yq;have Xw:a≠c:=λe=>by subst e;rw[ha] at hc;cases hc
 have Xx:b≠c:=λe=>by subst e;rw[hb] at hc;cases hc
 have d2:(!(nm P.T 2==xi))=true:=ae h2;have d3:(!(nm P.T 3==xi))=true:=ae h3;have tv:bB H' (.obj a)=some (!ys.isEmpty):=by
  show(items H' (.obj a)).bind _=_;rw[show items H' (.obj a)=some ys from jt ha];show(if aE ys.length=true then some (!ys.isEmpty) else none)=_;rw[au (az zy)];rfl
 refine(aR OZ hC (.v 2 p1)).2 {X with g:=g',l:=l',H:=H'} s' (λd=>d=.obj a) _ _ hi d2 O'.toAt (aQ l2 rfl) λd hd=>?_;subst hd;refine ak _ tv (λOP OQ=>?_);have OS:=O'.kp OQ;have PR:Ev P X s g' OP:=ev.trans (l:=l') (H:=H') (Ev.kp (X:={X with g:=g',l:=l',H:=H'}) OQ);rcases Wz with ⟨rfl,hk⟩ | ⟨RL,j,PK,pos,ds,PH,rfl,hj,hs,Wz⟩
 ·refine R1 _ _ ?_;show wpAny P.M X.A (execs [.Break Tz] X.env) _ _ OP;exact wpAny_execs_cons (wpAny_Break (hQ _ .brk OP g' l' H' hk OS PR rfl))
 rw[show(!ys.isEmpty)=true by cases ys;exact absurd rfl PH;rfl];refine R1 _ _ ?_;rw[N1 rfl];refine nX λQ₁ Wk TA _=>wpAny_execs_cons (nX λWv Wm Rs _=>wpAny_Try_except (nX λWw Wn Rv Pi=>wpAny_execs_cons (nX λWx Wo VQ Pg=>c5 (.inl (aG _ _ rfl)) rfl dE ?_)));rw[qF];have ix:pI H' (.obj b) (.int (-1))=some (.obj j):=by
  show(items H' (.obj b)).bind _=_;rw[show items H' (.obj b)=some (RL++[.obj j]) from jt hb];show(if(cY (-1)&&aE (RL++[PV.obj j]).length)=true then fZ (RL++[PV.obj j]) (-1) else none)=_;rw[au (az zz)];show fZ (RL++[PV.obj j]) (-1)=_;unfold fZ;rw[NY kD,NP];show(if -((RL.length+1:Nat):Int)≤-1 then(RL++[PV.obj j])[(-1+((RL.length+1:Nat):Int)).toNat]? else none)=_;rw[N1 (by lia),IU];simp
 refine NN ((aR OZ hC (.idx (.v 3 p3) (.neg 1 p4 p5) p6)).1 {X with g:=g',l:=l',H:=H'} OP (λd=>d=.obj j) _ _ hi (by show(!(nm P.T 3==xi)&&true)=true;rw[d3];rfl) OS.toAt (aQ l3 (aQ ix rfl)) λv OR d hd OU OY=>?_);subst hd;refine ay OY λpj QF W'=>?_;obtain rfl:=QF;have OW:=OS.kp OU;have PZ:Ev P X s g' OR:=PR.trans (l:=l') (H:=H') (Ev.kp (X:={X with g:=g',l:=l',H:=H'}) OU);refine bD (OW.R.at_ j _ pj hj W') λw1 w2 Wg UH=>c9 UH λls eW eB YU=>cT (OW.R.at_ PK _ ls hs YU) λ_ _ vs Tx el qs=>callWith_of (P:=λh=>eV P.M h (.ref pj.1)) rfl (λ_ h=>h) (bo rfl (spliced_nil ⟨uZ eW,wpAny_call (yL eW ?_)⟩));have Wb:g9 OR.heap pj.1:=(cU.fields eW rfl).2;have Wc:g9 OR.heap pj.2:=(cU.fields eB rfl).2;rcases Wz with ⟨d,hd,hk⟩ | ⟨hd,ST,y,rfl,hky,hag⟩
 ·refine ay (qs.get hd) λx hx rx=>AL eB el (by rw[List.getElem?_toArray];exact hx) λh' e' kk=>aU (OW.put (j:=j) (p:=pj) (o:=.nxt PK (pos+1)) (h':=h') (tk:=OR.toks) W' (λb o _ n2 e=>kk b o n2 e) ⟨Wb,Wc⟩ ⟨⟨_,kk _ _ Wg eW⟩,⟨_,e'⟩⟩ OW.tp λov=>aS w1 w2 Wg (aV ls (kk _ _ Wg eW) e' YU)) λO6 Qn=>?_;show wpAny P.M X.A (assign (db P.T (.one 6 p2)) X.env x) _ _ {OR with heap:=h'};refine iT (t:=.one 6 p2) (X:={X with g:=g',l:=l',H:=H'.set j (.nxt PK (pos+1))}) (s:={OR with heap:=h'}) (l':=upd l' 6 d) i.to h6 O6.fm O6.L OZ O6.tp rfl (rx.over (Qn.over OW)) λO0 UW=>?_;have Pe:=O6.st UW;have Pg:=Ev.st UW;exact VQ _ _ (wpAny_execs_cons (wpAny_Break (Rv _ _ (Rs _ _ (TA _ _ (hQ _ .next O0 g' (upd l' 6 d) _ hk Pe ((PZ.trans (l:=l') (H:=H') Qn).trans (l:=l') (H:=H'.set j (.nxt PK (pos+1))) Pg) rfl))))))
 ·refine DR i.handled eB el (by rw[List.getElem?_toArray,List.getElem?_eq_none];rw[qs.length];exact List.getElem?_eq_none_iff.mp hd) λh' t e kk ZC eE fe=>?_;obtain⟨Qa,hA,hf⟩:=OW.hd P8;have ne:∀b,(∃o,OR.heap.get? b=some o)→b≠e:=λb hb q=>c8 hb (q▸fe);have fk:∀Qr∈X.env::Qa,Qr.scope.kind≠.module∧∃b o,Qr.frame=some b∧h'.get? b=some o∧∀vs,o.data≠.fields vs:=λQr he=>by
   obtain⟨q1,b,o,q2,q3,q4⟩:=(OW.fr.1 P8).frames hA Qr he;exact⟨q1,b,o,q2,kk b o (λq=>by rw[q,eB] at q3;cases q3;exact q4 _ rfl) q3,q4⟩
  refine Pg _ _ (Pi _ _ ?_);show wpAny P.M X.A (noteFrame (.ref e) X.env) _ _ {OR with heap:=h'};refine Av (s:={OR with heap:=h'}) (vs:=#[.ref t,.none,.none,.none,.bool false,.none]) (a0:=.ref t) hA hf fk eE rfl rfl λO9 UV Wp=>Ar (s:={OR with heap:=O9}) (Qb:=h') UV Wp (λ{E' Q'} hq=>?_) Bv Fq Cv λO4 Q9=>?_
  ·refine Name_function_global i.kind (i.glob _ (Ol.mp (ai hg))) (Qi i.globals i.builtins (λb o t e'=>?_) hq) (eN (ae hg));have q:=OW.W b o t e';exact UV.abc b o (ne b ⟨o,q.1⟩) (λf=>q.2 (OW.fr.at f).1) (kk b o (λz=>q.2 (z▸g'.sub _ w2)) q.1)
  have f1:¬gR X.A pj.1:=λf=>(OW.fr.at f).2.1 w1;have f2:¬gR X.A pj.2:=λf=>(OW.fr.at f).2.1 w2;refine aU (OW.putN (j:=j) (p:=pj) (o:=.gone) (h':=O4) (tk:=OR.toks) W' (λb o _ n2 f q=>Q9.abc b o (ne b ⟨o,q⟩) f (kk b o n2 q)) (λb o f q d=>Q9.slot b o f (kk b o (λz=>by rw[z,eB] at q;cases q;exact d _ rfl) q) d)
   ⟨⟨_,Q9.abc _ _ (ne _ ⟨_,eW⟩) f1 (kk _ _ Wg eW)⟩,ZC.imp λo q=>Q9.abc _ _ (ne _ ⟨_,eB⟩) f2 q⟩ OW.tp λ_=>⟨w1,w2⟩) λO6 Qn=>?_
  have ja:a≠j:=ju hj ha nofun;have jb:b≠j:=ju hj hb nofun;have jc:c≠j:=ju hj hc nofun;rw[NP,List.length_singleton] at zy zz;exact qZ (X:={X with g:=g',l:=l',H:=H'.set j .gone}) (s:={OR with heap:=O4}) (a:=a) (b:=b) (c:=c) (ep:=ep) i.to h2 h3 h5 e1 e2 O6 l2 l3 l5 (iQ ha ja) (iQ hb jb) (iQ hc jc) Xv Xw Xx (a8 zy) (a8 zz) zm hky λPW O0 Pe P0=>Rs _ _ (wpAny_execs_nil (TA _ _ (ay (hag PW) λm' Se Ss=>ak m' Se (aG g' l' (aV _ Ss Pe ((PZ.trans (l:=l') (H:=H') Qn).trans (l:=l') (H:=H'.set j .gone) P0))))))
end
end
section
def LE:AH→Prop:=λ_=>True
def Ev.stays{Pp Ps:Gh}(OS:Ok P X OP)(O2:Ev P X OP Pp OR)(Pg:Ev P X OP Ps O0){c:Addr}(h:¬X.g.Z c∧∃o,OP.heap.get? c=some o):∀o,OR.heap.get? c=some o→O0.heap.get? c=some o:=λo e=>by
 refine aU h λz QV=>a9 QV λUv U6=>?_;have p:=((O2.over OS).obj c Uv z U6).2;exact(NW (p.symm.trans e))▸((Pg.over OS).obj c Uv z U6).2
def LS.plain{tx:Expr}(OS:Ok P X OP)(hh:X.A.handled=none)(PK:Gy P.toCx X.g X.g.Z OP.heap.objs.size ds OP.heap (OP.heap.push oI) fp Pv Sv):
  LS P X OP LE OP.heap.objs.size tx ds [OP.heap.objs.size] Sv:=by
 have W:=PK.walks X.A hh;refine⟨λb hb=>NX.mp hb▸be OP.heap,λi h st b hb=>?_,λi Pp Ps OR O0 l' H' st O2 Pg kept _ _=>W.frame _ _ _ st λb hb=>?_,λi g' l' H' s Q Q' E hi st O _ ov zI hQ Sb=>?_,λs Q E st tp hQ=>aW tp (W.done _ _ _ st λh' tk kk tp=>hQ h' tk kk tp)⟩
 ·obtain rfl:=NX.mp hb;exact cD (PK.fields _ _ st) λo T vs ho hc hT hd=>⟨.fields ho hd,o,ho⟩
 ·exact(PK.fp b hb).elim (λq=>kept b (NX.mpr q)) λq=>Ev.stays OS O2 Pg q
 ·refine aW O.tp (W.item i _ _ _ hi st λv h' tk hv PX kk tp=>ay (PK.item i v hi hv) λd hd r=>cD (PK.fields _ _ PX) λo T vs ho hc hT _=>?_);have r':abb g' h' d v:=(r.over ov).over ⟨λb o z e=>⟨z,kk b o (λq=>z (zI b q)) e⟩,λ_ _ e=>e⟩;exact Sb v _ (jG ho hc hT (hQ v d h' tk hd r' PX kk tp))
theorem G6(OZ:P.T.Nodup){t:Tg}(ii:VS P it)(ib:XB P b):XS P (.abw t it b p):=by
 intro X s K Q E i ok O hx hQ;have QJ:=ae ok;exact wpAny_For (ii X s _ _ E i (ai QJ) O.toAt hx λPQ OP x hx OQ OT=>a6 hx λds hi hx=>gz hi (bk hx) OT λoI fp Pv Sv PK=>iM (Kx:=λK=>K) OZ ib i (ai ok) (ae QJ) (O.kp OQ) (LS.plain (O.kp OQ) i.handled PK) trivial (λ_ _ _ _ h=>⟨trivial,h⟩) PK.st0 (λb o e=>NS _ e) (aG _ OP.toks rfl) OQ.tp (aY hx) λf fl s' g' l' H' hk O' ev r=>hQ f fl s' g' l' H' hk O' ((Ev.kp OQ).trans (l:=X.l) (H:=X.H) ev) r) (λx=>df P.T it x)
def pU:∀{ds:List PV}{n i:Nat},ds[i]?=some d→(eg n ds)[i]?=some (.tup [.int ((n+i:Nat):Int),d]):=by
 intro ds;induction ds with
 |nil=>exact λh=>nomatch h
 |cons x ds ih=>
  intro n i h;cases i with
  |zero=>cases h;rfl
  |succ i=>
   show(eg (n+1) ds)[i]?=_;rw[ih (n:=n+1) h,show n+1+i=n+(i+1) by exact dG]
def jE:∀(ds:List PV)(n:Nat),(eg n ds).length=ds.length:=by
 intro ds;induction ds with
 |nil=>
  exact λ_=>rfl
 |cons _ ds ihr=>
  exact λn=>N2 (·+1) (ihr (n+1))
def y6{c:ME}(ic:TS P c)(ib:XB P b):XS P (.aby c b p):=by
 refine λX s K Q E i ok O hx hQ=>ay hx λI Yr step=>?_;obtain⟨n,h0⟩:=Yr;refine wpAny_While (codeAny_whileLoop (λm s'=>∃g' l' H',I m l' H'∧Ok P {X with g:=g',l:=l',H:=H'} s'∧Ev P X s g' s') ?_ n (aG X.g X.l (aV X.H h0 O (Ev.kp O.refl))));rintro m s' ⟨g',l',H',hI,O',ev⟩;refine ic {X with g:=g',l:=l',H:=H'} s' _ _ _ i.to (ai ok) O'.toAt (step m l' H' hI) λd hd=>a6 hd λr hr hk=>ak r hr (λOP OQ=>?_);have OS:=O'.kp OQ;have PR:=ev.trans (l:=l') (H:=H') (Ev.kp OQ);cases r with
 |false=>
  simp only[Bool.false_eq_true,if_false];exact wpAny_execs_nil (hQ _ .next OP g' l' H' hk OS PR rfl)
 |true=>
  simp only[if_true];refine ib {X with g:=g',l:=l',H:=H'} OP _ _ _ i.to (ae ok) OS hk λf fl O0 Ps PP PB PE Pe P0 PM=>?_;have PD:=PR.trans (l:=l') (H:=H') P0;cases fl with
  |next=>cases PM;refine ay (PE:∃m',m'<m∧I m' PP PB) λm' hm Ss=>ak m' hm (aG Ps PP (aV PB Ss Pe PD))
  |cont=>cases PM;refine ay (PE:∃m',m'<m∧I m' PP PB) λm' hm Ss=>ak m' hm (aG Ps PP (aV PB Ss Pe PD))
  |brk=>cases PM;exact hQ _ .next O0 Ps PP PB PE Pe PD rfl
  |ret d=>
   refine ay PM λu PA r=>?_;obtain rfl:=PA;exact hQ _ (.ret d) O0 Ps PP PB PE Pe PD (ak u rfl r)
def LS.acU{n:Nat}{kx:Nat}{px:Pos}(OS:Ok P X OP)(hh:X.A.handled=none)(T:X.g.abh OP.heap)(z:¬X.g.Z a)(e:OP.heap.get? a=some (cE vs n))(q:aD X.g OP.heap ds vs):
  LS P X OP LE (OP.heap.objs.size+1) (.Tuple RN kx px) (eg 0 ds) [OP.heap.objs.size+1,OP.heap.objs.size]
   λi h=>(∃old,IsEnum h (OP.heap.objs.size+1) OP.heap.objs.size i old)∧h.IsListIter OP.heap.objs.size a i∧h.IsList a vs.toArray:=by
 have la:a<OP.heap.objs.size:=Heap.lt_size e;have PH:∀b∈[OP.heap.objs.size+1,OP.heap.objs.size],OP.heap.objs.size≤b:=by
  intro b hb;rcases NU.mp hb with rfl | hb
  ·exact Nat.le_succ _
  ·rw[NX.mp hb];exact Oe _
 refine⟨λb hb=>Heap.get?_none_of_le (PH b hb),λi h st b hb=>?_,λi Pp Ps OR O0 l' H' st O2 Pg kept _ _=>?_,λi g' l' H' s Q Q' E hi st O _ ov zI hQ Sb=>?_,λs Q E st tp hQ=>?_⟩
 ·refine bV st λV0 V1 hl=>?_;obtain⟨old,he⟩:=V0;obtain⟨o,ho,hc,hd⟩:=V1;rcases NU.mp hb with rfl | hb
  ·exact⟨.fields he rfl,_,he⟩
  ·rw[NX.mp hb];exact⟨.fields ho hd,_,ho⟩
 ·refine bV st λYu hit hl=>?_;obtain⟨old,he⟩:=Yu;exact⟨⟨old,kept _ (by simp) _ he⟩,hit.at λo x=>kept _ (by simp) o x,hl.at λo x=>Ev.stays OS O2 Pg ⟨z,_,e⟩ o x⟩
 ·refine bV st λzt8 hit hl=>?_;obtain⟨old,he⟩:=zt8;rw[jE] at hi;refine ay (q.get (Oz hi)) λv hv r=>?_;have there:=O.T;refine aW O.tp (wpAny_pyNext_enum_item he hit hl (by simpa using hv) (Nat.succ_ne_self _) λh' ho Ul hT QQ hk Tj=>Sb _ _ (wpAny_letOwnedTupleGo_enum ho λh'' WR P3=>?_));have ZL:s.heap.get? s.heap.objs.size=none:=be s.heap;have nT:∀b,b∈[OP.heap.objs.size+1,OP.heap.objs.size]→b≠s.heap.objs.size:=λb hb q=>c8 (there b (zI b hb)) (q▸ZL);have kk:∀b o,b∉[OP.heap.objs.size+1,OP.heap.objs.size]→s.heap.get? b=some o→h''.get? b=some o:=λb o hb x=>(P3.2 b λe'=>hb (by simp[e'])).trans (hk b o (λe'=>hb (by simp[e'])) (λe'=>hb (by simp[e'])) x);have ZJ:h''.get? s.heap.objs.size=some (dX [.int i s.toks,v] 0):=(P3.2 _ λq=>nT _ (by simp) q.symm).trans hT;have r':abb g' h'' _ v:=(r.over ov).over ⟨λb o zb x=>⟨zb,kk b o (λq=>zb (zI b q)) x⟩,λ_ _ x=>x⟩;exact hQ _ _ h'' _ (pU (n:=0) (Oz hi)) (aH _ _ 0 rfl there.new ZJ (aN _ _ rfl ⟨s.toks,by simp⟩ (aN _ _ rfl r' rfl))) ⟨⟨_,by simpa using WR⟩,Ul.at λo y=>(P3.2 _ (Nat.ne_of_lt (Nat.lt_succ_self _))).trans y,hl.at λo y=>kk a o (λq=>absurd (PH a q) (Nat.not_le.mpr la)) y⟩ kk Tj
 ·refine bV st λzt9 hit hl=>?_;obtain⟨old,he⟩:=zt9;rw[jE] at he hit;refine aW tp (wpAny_pyNext_enum_end hh he hit hl (Array.getElem?_eq_none (by simp[q.length])) λh' hx Tj=>hQ h' s.toks (λb o hb y=>hx b o (λe'=>hb (by simp[e'])) y) Tj)
theorem Gb(OZ:P.T.Nodup)(hC:ah P.toCx P.n P.C){t:Tg}(ii:VS P it)(ib:XB P b):XS P (.ab1 t q it r b p):=by
 intro X s K Q E i ok O hx hQ;have QJ:=ae (ae ok);have Pu:(Gz t&&lu P.T X.ns t)=true:=ai ok;refine wpAny_For (wpAny_Call_Name_kw (bC.name hC.en i (ai (ae ok)) O.W (dL (.inr ⟨_,rfl⟩) (d8 (bb P.T (.cons it .nil))) (bo (bb P.T (.cons it .nil)) ?_)))) (λx=>rfl);show wpAny P.M X.A (spliced (cm X.env r [aX P.T it])) _ E s;rw[bM];refine spliced_cons (ii X s _ _ E i (ai QJ) O.toAt hx λPQ OP x hx OQ OT=>spliced_nil (a6 hx λds hi hx=>?_));obtain rfl:=PV.abW hi;refine a5 OT λa vs n PY S0=>?_;obtain rfl:=PY;refine bV S0 λz e rs=>call_enumerate_list (items:=vs.toArray) (bS _ e rfl n rfl) λh' he hit QQ hk=>wpAny_pyIter_enum he ?_;cases t with
 |one=>exact absurd (ai Pu) N'
 |two j j' pj pj' kx px=>
  exact iM (OP:=OP) (OR:={OP with heap:=h'}) (Kx:=λK=>K) OZ ib i (ae Pu) (ae QJ) (O.kp OQ) (LS.acU (O.kp OQ) i.handled (O.kp OQ).T z e rs) trivial (λ_ _ _ _ h=>⟨trivial,h⟩) (dK ⟨_,he⟩ hit _ (hk _ _ e) ⟨rfl,n,rfl⟩) hk (aG h' OP.toks rfl) OQ.tp (aY hx)
   λf fl s' g' l' H' hk O' ev r=>hQ f fl s' g' l' H' hk O' ((Ev.kp OQ).trans (l:=X.l) (H:=X.H) ev) r
def I5{Qb:ExceptHandler}{hs:List ExceptHandler}(ib:XB P b):XS P (.ab9 b Qb hs p):=by
 refine λX s K Q E i ok O hx hQ=>wpAny_Try_except (ib X s K _ _ i ok O hx λf fl s' g' l' H' hk O' ev r=>?_);cases f with
 |next=>exact wpAny_execs_nil (hQ _ fl s' g' l' H' hk O' ev r)
 |_=>exact hQ _ fl s' g' l' H' hk O' ev r
def Jr(OZ:P.T.Nodup)(hC:ah P.toCx P.n P.C)(hX:∀st gs is,XS P (.ext st gs is))(st:MS):XS P st:=by
 induction st using MS.rec (motive_2:=XB P) with
 |never=>exact λX s K Q E i ok O hx hQ=>hx.elim
 |ext a b c=>exact hX a b c
 |xk k _ b=>exact Jd OZ hC k b
 |asg t e _=>exact HU OZ (aR OZ hC e).1 (tq OZ hC e)
 |abq=>exact EQ OZ
 |newD=>exact ES OZ hC.sys
 |app _ _ _ e _ _=>exact Ik (aR OZ hC e).1
 |abT _ _ k _ e _=>exact Fh (aR OZ hC k).1 (aR OZ hC e).1 λenv ln=>by cases e<;>rfl
 |ifS c _ _ _ a b=>exact Ku (aR OZ hC c).2 a b
 |abw _ it _ _ b=>exact G6 OZ (aR OZ hC it).1 b
 |ab1 _ _ it _ _ _ b=>exact Gb OZ hC (aR OZ hC it).1 b
 |aby c _ _ b=>exact y6 (aR OZ hC c).2 b
 |ret e _=>exact IT (aR OZ hC e).1
 |brk=>exact HR
 |cont=>exact FY
 |abS c _ _=>exact Er (aR OZ hC c).2
 |ab9 _ _ _ _ b=>exact I5 b
 |nil=>exact z0
 |cons _ _ s b=>exact wo s b
theorem qS(OZ:P.T.Nodup)(hC:ah P.toCx P.n P.C)(hX:∀st gs is,XS P (.ext st gs is)):∀b:MB,XB P b
 |.nil=>z0
 |.cons s b=>wo (Jr OZ hC hX s) (qS OZ hC hX b)
end
section
mutual
noncomputable def xN(r:Nat→Option PV):PV→Option PV
 |.obj i=>r i
 |.lst l=>(cg r l).map .lst
 |.tup l=>(cg r l).map .tup
 |.none=>some .none
 |.bool b=>some (.bool b)
 |.int i=>some (.int i)
 |.str x=>some (.str x)
 |.bytes b=>some (.bytes b)
 |.typ n=>some (.typ n)
 |.mat x sp=>some (.mat x sp)
 |.rng n=>some (.rng n)
 |.vw _=>Option.none
noncomputable def cg(r:Nat→Option PV):List PV→Option (List PV)
 |[]=>some []
 |d::ds=>(xN r d).bind λe=>(cg r ds).map λes=>e::es
end
noncomputable def fg(H:AH):Nat→Nat→Option PV
 |0,_=>none
 |k+1,i=>(listItems H (.obj i)).bind λl=>(cg (fg H k) l).map .lst
def res(H:AH)(d:PV):Option PV:=xN (fg H 3) d
mutual
noncomputable def dW:PV→Bool
 |.obj _=>false
 |.vw _=>false
 |.lst l=>cQ l
 |.tup l=>cQ l
 |_=>true
noncomputable def cQ:List PV→Bool
 |[]=>true
 |d::ds=>dW d&&cQ ds
end
section
variable{r:Nat→Option PV}
def jh(nz:∀a o,¬g'.Z a→h.get? a=some o→¬g.Z a)(hr:∀i e p,r i=some e→g'.ad[i]?=some p→abb g h e (.ref p.1)):∀{d e:PV}{v:Value},abb g' h d v→xN r d=some e→abb g h e v:=by
 intro d;induction d using PV.rec (motive_2:=λds=>∀{es:List PV}{vs:List Value},aD g' h ds vs→cg r ds=some es→aD g h es vs) with
 |mat=>exact λq e=>NW e▸q.imp λ_=>.imp λ_=>.imp λ_=>.imp λ_=>.imp λ_=>.imp λ_=>.imp λ_=>.imp λ_ q=>aS q.1 (nz _ _ q.2.1 q.2.2.2.1) (nz _ _ q.2.2.1 q.2.2.2.2) q.2.2.2
 |rng=>exact λq e=>NW e▸q.imp λ_=>.imp λ_=>.imp λ_=>.imp λ_ q=>⟨q.1,nz _ _ q.2.1 q.2.2,q.2.2⟩
 |obj i=>intro e v q he;refine ay q λp O8 hp=>?_;obtain rfl:=O8;exact hr i _ p he hp
 |vw=>exact λ_ e=>aT e
 |tup _ ih=>
  intro e v q he;refine ay (N8.mp he) λes Vn Pq=>?_;obtain rfl:=Pq;exact q.imp λ_=>.imp λ_=>.imp λ_ q=>aS q.1 (nz _ _ q.2.1 q.2.2.1) q.2.2.1 (ih q.2.2.2 Vn)
 |lst _ ih=>
  intro e v q he;refine ay (N8.mp he) λes Vn PA=>?_;obtain rfl:=PA;exact q.imp λ_=>.imp λ_=>.imp λ_ q=>aS q.1 (nz _ _ q.2.1 q.2.2.1) q.2.2.1 (ih q.2.2.2 Vn)
 |nil q e=>exact NW e▸q
 |cons _ _ h1 h2 q e=>
  refine ay (Oh.mp e) λa ha e=>ay (N8.mp e) λb hb PI=>?_;obtain rfl:=PI;exact q.imp λ_=>.imp λ_ q=>⟨q.1,h1 q.2.1 ha,h2 q.2.2 hb⟩
 |_=>exact λq e=>NW e▸q
def rX(nz:∀a o,¬g'.Z a→h.get? a=some o→¬g.Z a)(hr:∀i e p,r i=some e→g'.ad[i]?=some p→abb g h e (.ref p.1)):∀{ds es:List PV}{vs:List Value},aD g' h ds vs→cg r ds=some es→aD g h es vs:=by
 intro ds;induction ds with
 |nil=>exact λq e=>NW e▸q
 |cons _ _ ih=>
  intro es vs q e;refine ay (Oh.mp e) λa ha e=>ay (N8.mp e) λb hb P2=>?_;obtain rfl:=P2;exact q.imp λ_=>.imp λ_ q=>⟨q.1,jh nz hr q.2.1 ha,ih q.2.2 hb⟩
def ny(R:bG S g' H h)(nz:∀a o,¬g'.Z a→h.get? a=some o→¬g.Z a)(own:∀(i:Nat)(p:Addr×Addr),g'.ad[i]?=some p→¬g.Z p.1):∀(k i:Nat)(e:PV)(p:Addr×Addr),fg H k i=some e→g'.ad[i]?=some p→abb g h e (.ref p.1):=by
 intro k;induction k with
 |zero=>
  intro _ _ _ q _;cases q
 |succ k ihr=>
  refine λi e p q hp=>ay (Oh.mp q) λl hl q=>ay (N8.mp q) λes Vn Qd=>?_;obtain rfl:=Qd;exact cT (R.at_ i _ p (cv hl) hp) λ_ _ vs n e r=>aH p.1 vs n rfl (own i p hp) e (rX nz (ihr) r Vn)
def tT(o:∀a x,¬g.Z a→h.get? a=some x→¬g'.Z a∧h'.get? a=some x):∀{d:PV}{v:Value},abb g h d v→dW d=true→abb g' h' d v:=by
 intro d;induction d using PV.rec (motive_2:=λds=>∀{vs:List Value},aD g h ds vs→cQ ds=true→aD g' h' ds vs) with
 |mat=>exact λr _=>r.imp λ_=>.imp λ_=>.imp λ_=>.imp λ_=>.imp λ_=>.imp λ_=>.imp λ_=>.imp λ_ q=>bY q.1 ((o _ _ q.2.1 q.2.2.2.1).1) ((o _ _ q.2.2.1 q.2.2.2.2).1) ((o _ _ q.2.1 q.2.2.2.1).2) ((o _ _ q.2.2.1 q.2.2.2.2).2)
 |rng=>exact λr _=>r.imp λ_=>.imp λ_=>.imp λ_=>.imp λ_ q=>⟨q.1,(o _ _ q.2.1 q.2.2).1,(o _ _ q.2.1 q.2.2).2⟩
 |obj=>exact λ_ e=>absurd e N'
 |vw=>exact λ_ e=>absurd e N'
 |tup _ ih=>exact λr e=>r.imp λ_=>.imp λ_=>.imp λ_ q=>aS q.1 ((o _ _ q.2.1 q.2.2.1).1) ((o _ _ q.2.1 q.2.2.1).2) (ih q.2.2.2 e)
 |lst _ ih=>exact λr e=>r.imp λ_=>.imp λ_=>.imp λ_ q=>aS q.1 ((o _ _ q.2.1 q.2.2.1).1) ((o _ _ q.2.1 q.2.2.1).2) (ih q.2.2.2 e)
 |nil r _=>exact r
 |cons _ _ h1 h2 r e=>exact r.imp λ_=>.imp λ_ q=>⟨q.1,h1 q.2.1 (ai e),h2 q.2.2 (ae e)⟩
 |_=>exact λr _=>r
def il(o:∀a x,¬g.Z a→h.get? a=some x→¬g'.Z a∧h'.get? a=some x):∀{ds:List PV}{vs:List Value},aD g h ds vs→cQ ds=true→aD g' h' ds vs:=by
 intro ds;induction ds with
 |nil=>exact λr _=>r
 |cons _ _ ih=>exact λr e=>r.imp λ_=>.imp λ_ q=>⟨q.1,tT o q.2.1 (ai e),ih q.2.2 (ae e)⟩
end
def fnW(C:cu)(b:MB)(ds:List PV)(K:PV→Prop):Prop:=cQ ds=true∧xb C b (λi=>ds[i]?) [] λfl _ H=>match fl with
 |.ret d=>el (res H d) K
 |.next=>K .none
 |_=>False
structure FnBase(P:Pk)(fd:FuncData)(cd:Option (Addr×Str))(ar:Nat):Prop where
 closure:fd.closure=[]
 globals:fd.globals=mainGlobals
 builtins:fd.builtins=builtinsNs
 kind:fd.scope.kind=.function
 co:fd.scope.isCoroutine=false
 gen:fd.scope.isGenerator=false
 nodup:P.T.Nodup
 free:(fd.scope.names.all λy=>y.2 !=.free)=true
 code:∀c,cd=some c→fd.code=.ref c.1∧fd.qualname++".<locals>."=c.2
 params:((P.T.take ar).all λx=>fd.scope.names.lookup x==some .local||fd.scope.names.lookup x==some .cell)=true
structure I6(P:Pk)(fd:FuncData)(b:MB)(cd:Option (Addr×Str))(ar:Nat):Prop extends FnBase P fd cd ar where
 body:fd.body=.stmts (iY P.T b)
 ok:sS P.T b fd.scope.names cd=true
end
section
def lD(O5 s:Shared)(fd:FuncData)(args:Args)(binds:List (Str×Value)):Prop:=
 ∀(M:Model)(A:Around)(E:Value→Shared→Prop)(Q:List (Str×Value)→Shared→Prop),Q binds s→wpAny M A (bindArgs fd args) Q E O5
set_option backward.match.sparseCases true in
def Eb{w:World}{A:Around}{o:Obj}{fd:FuncData}{body:List Stmt}(hroom:A.depth<recursionLimit)(ho:O5.heap.get? a=some o)(hdata:o.data=.func fd)(P4:s.heap.NoLimit)(Q0:O5.heap.CodeRec fd.code fd.qualname)(hbody:fd.body=.stmts body)(hbind:lD O5 s fd ⟨QD,kw⟩ binds)(hclo:fd.closure=[])(hkind:∀x∈binds,fd.scope.names.lookup x.1=some .local∨(fd.scope.names.lookup x.1=some .cell∧((cellsFrom (s.heap.objs.size+1) fd.scope.names []).lookup x.1).isSome=true))(hco:fd.scope.isCoroutine=false)(hgen:fd.scope.isGenerator=false)(hk:fd.scope.kind=.function)(tp:0<s.toks)(h:∀OP E',0<OP.toks→InCallC s (callEnvC fd s.heap.objs.size a).locals (bindL (callEnvC fd s.heap.objs.size a).kindOf binds λ_=>none) (callEnvC fd s.heap.objs.size a).cells
    (bindC (callEnvC fd s.heap.objs.size a).kindOf binds λ_=>none) OP →
   wpAny (model prog w) (A.deeper (callEnvC fd s.heap.objs.size a)) (execs body (callEnvC fd s.heap.objs.size a)) (λf s'=>Q (match f with | .ret v=>v | _=>.none) s') E' OP):
  codeAny (model prog w) A (.call (.ref a) ⟨QD,kw⟩) (wants Q E) O5:=by
 refine codeAny_call_function hroom ho hdata hco hgen hbody Q0 (hbind _ _ _ _ ?_);rw[hclo];refine aW tp (wpAny_newFunctionEnv_cells hk hkind λenv he s' x Tj=>?_);subst he;exact⟨P4.keeps x.toInCall.keep,codeAny_func (h s' _ Tj x)⟩
section
variable{kd:Str→Option NameKind}
def xq:∀(binds:List (Str×Value))(m:Str→Option Value)(n:Str),n∉binds.map (·.1)→bindL kd binds m n=m n:=by
 intro binds;induction binds with
 |nil=>
  exact λ_ _ _=>rfl
 |cons zx r ihr=>
  obtain⟨x,v⟩:=zx;intro m n h;simp only[OF,NU,not_or] at h;unfold bindL;rw[ihr _ n h.2];split
  ·simp[h.1]
  ·rfl
def yd:∀(binds:List (Str×Value))(m:Str→Option Value)(n:Str)(v:Value),(binds.map (·.1)).Nodup→(n,v)∈binds→kd n=some .local→bindL kd binds m n=some v:=by
 intro binds;induction binds with
 |nil=>
  exact λ_ _ _ _ h _=>nomatch h
 |cons zx r ihr=>
  obtain⟨x,u⟩:=zx;intro m n v hn h hk;simp only[OF,OE] at hn;unfold bindL;rcases NU.mp h with e | h
  ·cases e;rw[xq r _ _ hn.1,N1 hk];simp
  ·exact ihr _ n v hn.2 h hk
def x4:∀(binds:List (Str×Value))(m:Str→Option Value)(n:Str),n∉binds.map (·.1)→bindC kd binds m n=m n:=by
 intro binds;induction binds with
 |nil=>
  exact λ_ _ _=>rfl
 |cons zx r ihr=>
  obtain⟨x,v⟩:=zx;intro m n h;simp only[OF,NU,not_or] at h;unfold bindC;rw[ihr _ n h.2];split
  ·rfl
  ·simp[h.1]
def yM:∀(binds:List (Str×Value))(m:Str→Option Value)(n:Str)(v:Value),(binds.map (·.1)).Nodup→(n,v)∈binds→kd n=some .cell→bindC kd binds m n=some v:=by
 intro binds;induction binds with
 |nil=>
  exact λ_ _ _ _ h _=>nomatch h
 |cons zx r ihr=>
  obtain⟨x,u⟩:=zx;intro m n v hn h hk;simp only[OF,OE] at hn;unfold bindC;rcases NU.mp h with e | h
  ·cases e;rw[x4 r _ _ hn.1,NY (by rw[hk];decide)];simp
  ·exact ihr _ n v hn.2 h hk
def ud:∀(names:kF)(n:Nat)(acc:List (Str×Addr))(x:Str),((x,NameKind.cell)∈names∨∃c,(x,c)∈acc)→∃c,(x,c)∈cellsFrom n names acc:=by
 intro names;induction names with
 |nil=>
  exact λ_ acc x h=>h.elim (λh=>nomatch h) id
 |cons zx r ihr=>
  obtain⟨y,k⟩:=zx;intro n acc x h;unfold cellsFrom;split
  ·refine ihr _ _ x (h.elim (λh=>?_) λ⟨c,h⟩=>.inr ⟨c,Oa _ h⟩);rcases NU.mp h with e | h
   ·cases e;exact .inr ⟨_,N3⟩
   ·exact .inl h
  ·rename_i hk;refine ihr _ _ x (h.imp_left λh=>?_);rcases NU.mp h with e | h
   ·cases e;exact absurd rfl hk
   ·exact h
def c7{names:kF}(h:names.lookup x=some .cell):((cellsFrom n names []).lookup x).isSome=true:=by
 refine ay (jf (ud names n [] x (.inl (bp h)))) λc h1 _=>?_;rw[h1];rfl
end
def Ft{T:List Str}{v:Value}(h1:i<T.length)(h2:vs[i]?=some v):(nm T i,v)∈(T.take vs.length).zip vs:=by
 have hi:i<vs.length:=(Og.mp h2).1;refine List.mem_iff_getElem?.mpr ⟨i,?_⟩;rw[List.getElem?_zip_eq_some];refine⟨?_,h2⟩;rw[List.getElem?_take_of_lt hi,Oz h1,zZ h1]
theorem sD:∀{T:List Str}{vs:List Value},T.Nodup→((T.zip vs).map (·.1)).Nodup
 |[],_,_=>by simp
 |a::t,[],_=>by simp
 |a::t,u::r,h=>by
  simp only[OE] at h;simp only[List.zip_cons_cons,OF,OE];refine⟨λq=>ay (Oj.mp q) λTD hm e=>?_,sD h.2⟩;obtain⟨x,v⟩:=TD;exact h.1 (e▸(List.of_mem_zip hm).1)
noncomputable def Gh.enter(g:Gh)(P:Addr→Prop):Gh:=⟨λx=>g.Z x∨P x,g.W,g.ad,λa h=>.inl (g.sub a h)⟩
noncomputable def Gh.bare(g:Gh):Gh:=⟨g.Z,λ_=>False,[],λ_ h=>h.elim⟩
def gk(g:Gh)(H:AH)(fd:FuncData)(cd:Option (Addr×Str))(L a:Addr)(ds:List PV)(A:Around):Rt:=
 {ns:=fd.scope.names,cd:=cd,env:=callEnvC fd L a,g:=g.enter (ox fd.scope.names (callEnvC fd L a)),H:=H,l:=λi=>ds[i]?,A:=A.deeper (callEnvC fd L a)}
section
variable{fd:FuncData}{A:Around}{us:List Value}
def vX(F:FnBase P fd cd ar)(room:fF A (P.n+1)):In P.n (gk g H fd cd s.heap.objs.size a ds A):=by
 refine⟨room.handled,?_,?_,F.kind,F.globals,F.builtins,λx h=>h,λx h=>h,λx h=>?_,λx h=>h,λc hc=>?_⟩
 ·have:=room.depth;show(A.deeper _).depth+P.n<_;simp only[Around.deeper] at *
  exact a8 this
 ·have:=room.units;show(A.deeper _).units+3*P.n+200<_;simp only[Around.deeper] at *
  exact a8 this
 ·rcases h with h | h
  ·exact⟨.inl h,c7 h⟩
  ·exact absurd rfl (bne_iff_ne.mp (Ob.mp F.free _ (bp h)))
 ·exact F.code c hc
def FW:∀{l:List (Str×Addr)}{x y:Str×Addr},l.Pairwise (λx y=>x.2≠y.2)→x∈l→y∈l→x≠y→x.2≠y.2:=by
 intro l;induction l with
 |nil=>intros;contradiction
 |cons z l ihr=>
  intro x y h hx hy n;refine aU (List.pairwise_cons.mp h) λh1 h2=>?_;rcases NU.mp hx with rfl | hx'<;>rcases NU.mp hy with rfl | hy'
  ·exact absurd rfl n
  ·exact h1 y hy'
  ·exact(h1 x hx').symm
  ·exact ihr h2 hx' hy' n
abbrev kQ(fd:FuncData)(s:Shared)(a:Addr)(binds:List (Str×Value))(OP:Shared):Prop:=
 InCallC s (callEnvC fd s.heap.objs.size a).locals (bindL (callEnvC fd s.heap.objs.size a).kindOf binds λ_=>none) (callEnvC fd s.heap.objs.size a).cells (bindC (callEnvC fd s.heap.objs.size a).kindOf binds λ_=>none) OP
def mQ(F:FnBase P fd cd ar):∀x∈P.T.take ar,fd.scope.names.lookup x=some .local∨fd.scope.names.lookup x=some .cell:=λx hx=>(On.mp (Ob.mp F.params x hx)).imp Ol.mp Ol.mp
def wR(ic:kQ fd s a binds OP):∀b,ox fd.scope.names (callEnvC fd s.heap.objs.size a) b→s.heap.get? b=none:=λb hb=>by
 rcases hb with rfl | ⟨x,h1,h2⟩
 ·exact Heap.get?_none_of_le (Oe _)
 ·exact Heap.get?_none_of_le (Nat.le_of_lt (ic.above x b (bp h2)))
def sZ(ic:kQ fd s a binds OP):∀b o,s.heap.get? b=some o→OP.heap.get? b=some o:=by
 refine aP ic.done λO9 t₁ Pb OQ=>?_;rw[Pb];exact OQ
def j3(F:FnBase P fd cd ar)(w:Wl P.toCx g s)(R:bG P.toCx g H s.heap)(OV:us.length=ar)(hT:ar≤P.T.length)(rs:aD g s.heap ds us)(fr:x7 P.C g A s.heap)(QB:0<OP.toks)(ic:kQ fd s a ((P.T.take us.length).zip us) OP):Ok P (gk g H fd cd s.heap.objs.size a ds A) OP:=by
 have par:=mQ F;have lW:∀x∈(P.T.take us.length).zip us,x.1∈P.T.take ar:=λx hx=>OV▸(List.of_mem_zip hx).1;have TT:(((P.T.take us.length).zip us).map (·.1)).Nodup:=sD (F.nodup.sublist (List.take_sublist _ _));have OQ:=sZ ic;have Rq:=wR ic;have ov:aC g (gk g H fd cd s.heap.objs.size a ds A).g s.heap OP.heap:=⟨λb x z e=>⟨λq=>q.elim z λq=>c8 ⟨x,e⟩ (Rq b q),OQ b x e⟩,λ_ _ e=>e⟩;have fm:Fm (gk g H fd cd s.heap.objs.size a ds A) OP.heap:=by
  refine⟨λb hb=>.inr hb,λb hb q=>c8 (w.T b (g.sub b q)) (Rq b hb),⟨_,ic.toInCall.ns⟩,λx c h1 h2=>⟨_,ic.cell x c h2⟩,λx y c h1 h2 h3=>?_⟩;have mx:=bp h2;have my:=bp h3;by_cases q:(y,c)=(x,c)
  ·cases q;rfl
  ·exact absurd rfl (FW ic.apart (x:=(y,c)) (y:=(x,c)) my mx q)
 refine⟨⟨λb z=>z.elim (λz=>(w.T b z).imp λo=>OQ b o) λq=>fm.ex q,R.over ov rfl (λ_ q=>q) λc o _ e=>OQ c o e,w.W.over ov,λi d hd=>?_,w.I.over ov.obj λb o _ e=>OQ b o e,QB,λb t=>⟨.inl (w.tz b t).1,(w.tz b t).2⟩⟩,fm,λn c hk hc=>?_,⟨λhc=>?_,λhc=>?_⟩,λhc=>?_⟩;all_goals try (have hk:fd.scope.names.lookup n=some .cell∨fd.scope.names.lookup n=some .free:=hk)
 rotate_left
 ·exact .inr (ak n (hk.resolve_right λq=>absurd rfl (bne_iff_ne.mp (Ob.mp F.free _ (bp q)))) hc)
 ·refine ay (fr.1 hc) λl hl q=>ak (callEnvC fd s.heap.objs.size a::l) (by show A.frames.map _=_;rw[hl];rfl) (λenv he=>?_);rcases NU.mp he with rfl | he
  ·have ho:ox fd.scope.names (callEnvC fd s.heap.objs.size a) (callEnvC fd s.heap.objs.size a).locals:=.inl rfl;exact ay (fm.nf ho) λo e d=>⟨λq=>(by have q:fd.scope.kind=.module:=q;rw[F.kind] at q;cases q),_,o,rfl,e,d,.inr ho,fm.w _ ho⟩
  ·exact aU (q env he) λh1 R3=>cA R3 λb o h2 h3 R5=>bV R5 λh4 h5 h6=>⟨h1,b,o,h2,OQ b o h3,h4,.inl h5,h6⟩
 ·show A.frames.map _=none;rw[fr.2 hc];rfl
 ·exact ay (fr.1 hc) λl hl _=>ak l (by show A.frames.map _=_;rw[hl];rfl) rfl
 have hd:ds[i]?=some d:=hd;refine ay (rs.get hd) λv hv r=>?_;have hi:i<ar:=OV▸(Og.mp hv).1;have YQ:=OC hi hT;have hm:=Ft YQ hv;refine dC YQ v (r.over ov) ?_;rcases par _ (lW _ hm) with q | q
 ·exact .inl (dC q _ ic.toInCall.ns (yd _ _ _ _ TT hm q))
 ·exact a9 (Option.isSome_iff_exists.mp (c7 (n:=s.heap.objs.size+1) q)) λc hc=>.inr (dC (.inl q) c hc (by have:=ic.cell _ c hc;rw[yM _ _ _ _ TT hm q] at this;exact this))
def fS(ic:kQ fd s a binds OP)(ev:Ev P (gk g H fd cd s.heap.objs.size a ds A) OP g' s'):mA P.toCx A g s g' s':=by
 have OQ:=sZ ic;have Rq:=wR ic;have up:∀b,gR A b→gR (A.deeper (callEnvC fd s.heap.objs.size a)) b:=λb ⟨l,hl,env,he,hf⟩=>ak (callEnvC fd s.heap.objs.size a::l) (by show A.frames.map _=_;rw[hl];rfl) (ak env (.tail _ he) hf);have dn:∀b,gR (A.deeper (callEnvC fd s.heap.objs.size a)) b→b=(callEnvC fd s.heap.objs.size a).locals∨gR A b:=λb ⟨l,hl,env,he,hf⟩=>by
  have hl:A.frames.map (callEnvC fd s.heap.objs.size a::·)=some l:=hl;refine ay (N8.mp hl) λXu VA PA=>?_;obtain rfl:=PA;rcases NU.mp he with rfl | he
  ·exact .inl (NW hf).symm
  ·exact .inr (ak Xu VA (ak env he hf))
 refine⟨aP ic.done λO9 t₁ Pb _=>ce ev.same λO4 t₂ PI=>?_,λb o nw t f e=>ev.abc b o nw (λq=>c8 ⟨o,e⟩ (Rq b q)) t (λq=>(dn b q).elim (λq=>c8 ⟨o,e⟩ (Rq b (.inl q))) f) (OQ b o e),λb o nw t f e=>ev.slot b o nw (λq=>c8 ⟨o,e⟩ (Rq b q)) t (up b f) (OQ b o e),λb z=>ev.z b (.inl z),λb e z=>(ev.zn b (e.imp λo=>OQ b o) z).elim id λq=>c8 e (Rq b q),λb e q=>ev.wn b (e.imp λo=>OQ b o) q,λi p e=>ev.ad i p e,λb e=>ev.ex b (e.imp λo=>OQ b o)⟩;obtain rfl:=PI;rw[Pb];exact aG O4 t₂ rfl
def abF(C:cu)(b:MB)(ds:List PV)(H:AH)(K:PV→AH→Prop):Prop:=xb C b (λi=>ds[i]?) H λfl _ H=>match fl with
 |.ret d=>K d H
 |.next=>K .none H
 |_=>False
def fT{o:Obj}{K:PV→AH→Prop}(F:I6 P fd b cd ar)(hC:ah P.toCx P.n P.C)(hX:∀st gs is,XS P (.ext st gs is))(room:fF A (P.n+1))(fr:x7 P.C g A s.heap)(VW:Wd P.toCx g O5.heap)(w:Wl P.toCx g s)(R:bG P.toCx g H s.heap)(nt:¬P.toCx.T a)(ho:P.base.get? a=some o)(Tr:o.data=.func fd)(V6:∃c oc xs t,fd.code=.ref c∧¬P.toCx.T c∧P.base.get? c=some oc∧oc.data=.fields xs∧xs[1]?=some (.str fd.qualname t))(P4:¬P.toCx.T cStatics∧P.base.NoLimit)(OV:us.length=ar)(hT:ar≤P.T.length)(hbind:lD O5 s fd ⟨vs,kw⟩ ((P.T.take us.length).zip us))(rs:aD g s.heap ds us)(hf:abF P.C b ds H K)(hQ:∀v s' g' d H',K d H'→mA P.toCx A g s g' s'→Wl P.toCx g' s'→bG P.toCx g' H' s'.heap→abb g' s'.heap d v→Q v s'):codeAny P.M A (.call (.ref a) ⟨vs,kw⟩) (wants Q E) O5:=by
 have lW:∀x∈(P.T.take us.length).zip us,x.1∈P.T.take ar:=λx hx=>OV▸(List.of_mem_zip hx).1;refine Eb (Nat.lt_of_le_of_lt (Nat.le_add_right _ _) room.depth) (VW a o nt ho).1 Tr (P4.2.imp λmc q=>⟨fh q.1 λo e=>(w.W _ o P4.1 e).1,q.2⟩) ?_ F.body hbind F.closure (λx hx=>(mQ F.toFnBase _ (lW x hx)).imp id λq=>⟨q,c7 q⟩) F.co F.gen F.kind w.tp λOP E' QB ic=>?_
 ·exact bl V6 λc oc xs t h1 R7=>bD R7 λh2 h3 h4 h5=>aG c oc (bL xs t h1 ((VW c oc h2 h3).1) h4 h5)
 refine qS F.nodup hC hX b (gk g H fd cd s.heap.objs.size a ds A) OP _ _ E' (vX F.toFnBase room) F.ok (j3 F.toFnBase w R OV hT rs fr QB ic) hf λf fl s' g' l' H' hk O' ev fr=>?_;cases fl with
 |ret d=>
  refine ay fr λv Qh r=>?_;obtain rfl:=Qh;exact hQ v s' g' d H' hk (fS ic ev) O'.toAt.wl O'.R r
 |next=>cases fr;exact hQ .none s' g' .none H' hk (fS ic ev) O'.toAt.wl O'.R rfl
 |brk=>exact hk.elim
 |cont=>exact hk.elim
theorem Wl.bare(w:Wl S g s):Wl S g.bare s:=⟨w.T,w.W,w.I,w.tp,λb t=>⟨(w.tz b t).1,λq=>q⟩⟩
theorem bG.bare:bG S g.bare [] h:=⟨rfl,λi j p q _ e=>by
 have e:([]:List (Addr×Addr))[i]?=some p:=e;simp at e,λi o p e=>by
 have e:([]:List AO)[i]?=some o:=e;simp at e⟩
def IL{A:Around}{b:Addr}:¬gR {A with frames:=none} b:=λh=>h.elim λ_ h=>nomatch h.1
def gY{M:Model}{A:Around}{α:Type}{t:Sem α}{Q:α→Shared→Prop}(h:wpAny M {A with frames:=none} t Q E s):wpAny M A t Q E s:=
 fun Γ p hΓ=>h Γ p (bY hΓ.1 hΓ.2.1 nofun hΓ.2.2.2.1 hΓ.2.2.2.2)
def mA.kp{A:Around}(ev:mA S {A with frames:=none} g.bare s g' s')(w':Wl S g' s'):Kp S g s s':=
 ⟨⟨ev.same,λb o t e=>ev.abc b o (λq=>q) t IL e,ev.ex,λ_=>w'.I.over (λb o z e=>⟨λq=>z (ev.z b q),e⟩) λb o t e=>e⟩,w'.tp⟩
def acg{o:Obj}{K:PV→Prop}{Q E:Value→Shared→Prop}(F:I6 P fd b cd ar)(hC:ah P.toCx P.n P.C)(hX:∀st gs is,XS P (.ext st gs is))(P8:P.C.fr=false)(room:fF A (P.n+1))(w:Wl P.toCx g s)(nt:¬P.toCx.T a)(ho:P.base.get? a=some o)(Tr:o.data=.func fd)(V6:∃c oc xs t,fd.code=.ref c∧¬P.toCx.T c∧P.base.get? c=some oc∧oc.data=.fields xs∧xs[1]?=some (.str fd.qualname t))(P4:¬P.toCx.T cStatics∧P.base.NoLimit)(OV:us.length=ar)(hT:ar≤P.T.length)(hbind:BindsTo s fd ⟨vs,kw⟩ ((P.T.take us.length).zip us))(rs:aD g s.heap ds us)(hf:fnW P.C b ds K)(hQ:∀v s' d,K d→Kp P.toCx g s s'→abb g s'.heap d v→Q v s'):wpAny P.M A (call (.ref a) vs kw) Q E s:=by
 refine gY (wpAny_call (fT (A:={A with frames:=none}) (Q:=Q) (E:=E) (K:=λd H=>el (res H d) K) F hC hX ⟨room.handled,room.depth,room.units⟩ ⟨λh=>(by rw[P8] at h;cases h),λ_=>rfl⟩ w.bare.W w.bare .bare nt ho Tr V6 P4 OV hT hbind (il (g:=g) (g':=g.bare) (λ_ _ z e=>⟨z,e⟩) rs hf.1) ?_ λv s' g' d H' hk ev w' R' r=>?_))
 ·exact hf.2
 ·have own:∀(i:Nat)(p:Addr×Addr),g'.ad[i]?=some p→¬g.Z p.1:=λi p hp q=>ev.wn p.1 (w.T _ q) (R'.w hp).1;have nz:∀b o,¬g'.Z b→s'.heap.get? b=some o→¬g.Z b:=λb o z _ q=>z (ev.z b q);exact a6 hk λe he hk=>hQ v s' e hk (ev.kp w') (jh nz (ny R' nz own 3) r he)
end
end
noncomputable def aL(i:Nat):List Stmt:=match PySem.Challenge.pw_oy0417_01.main.body[i]? with
 |some (.FunctionDef _ _ b ..)=>b
 |_=>[]
noncomputable def Nw:Stmt→Nat→List Stmt
 |.If _ b e _,k=>if k=0 then b else e
 |.For _ _ b _ _,_=>b
 |.While _ b _ _,_=>b
 |.Try b _ _ _ _,_=>b
 |_,_=>[]
noncomputable def b7:List Stmt→List Nat→Stmt
 |b,[i]=>b.getD i (.Pass (U 0 0 0))
 |b,i::k::r=>b7 (Nw (b.getD i (.Pass (U 0 0 0))) k) r
 |_,[]=>.Pass (U 0 0 0)
noncomputable def vr:Stmt→Option Expr
 |.Assert _ m _=>m
 |_=>none
noncomputable def Nd:Stmt→ExceptHandler
 |.Try _ (h::_) _ _ _=>h
 |_=>.ExceptHandler none none [] (U 0 0 0)
noncomputable def JG:Stmt→List ExceptHandler
 |.Try _ (_::h) _ _ _=>h
 |_=>[]
noncomputable def GQ:Stmt→Expr
 |.Assign _ (.Call _ (e::_) _ _) _=>e
 |_=>.Constant .none 0 (U 0 0 0)
def ll:Expr:=GQ (b7 (aL 9) [2,0,2,0,1,0,3,0,2])
def g5:Expr:=GQ (b7 (aL 12) [1,0,1,0,0,0,0,0,0])
noncomputable def yK:Addr×Str:=(76,"split_header_words.<locals>.")
noncomputable def oR:Addr×Str:=(93,"join_header_words.<locals>.")
noncomputable abbrev Em(T:List Str)(s:List Stmt):={b:MB // iY T b=s}
noncomputable abbrev vv(i:Nat){p:Pos}:ME:=.v i p
noncomputable abbrev kk{c:Const}{n:Nat}{p:Pos}:ME:=.c c n p
noncomputable abbrev e1(a:ME):hV:=.cons a .nil
noncomputable abbrev e2(a b:ME):hV:=.cons a (.cons b .nil)
noncomputable abbrev ag(i:Nat)(e:ME){p q:Pos}:MS:=.asg (.one i p) e q
noncomputable def Na:List Str:=["match","start","end"]
noncomputable def MX:Em Na (aL 4):=⟨(.cons (.asg (.two 1 2 _ _ 0 _) (.mth .span (vv 0) _ (e1 kk) _) _)
(.cons (.ret (.bin .add (.abG (.abQ 0 _ _) (vv 1) _ _) (.abp (.abQ 0 _ _) (vv 2) _ _) _) _) .nil)),rfl⟩
noncomputable def Nh:List Str:=["header_values","result","text","orig_text","pairs","m","name","value","non_junk","nr_junk_chars"]
noncomputable def Mf:Em Nh (aL 9):=⟨(.cons (.abS (.not (.bi .isinstance _ (e2 (vv 0) (.gv _ _)) _) _) none _)
(.cons (.abq 1 _ _ _)
(.cons (.abw (.one 2 _) (vv 0)
(.cons (ag 3 (vv 2))
(.cons (.abq 4 _ _ _)
(.cons (.aby (vv 2)
(.cons (ag 5 (.rx _ _ _ _ (e1 (vv 2)) _))
(.cons (.ifS (vv 5)
(.cons (ag 2 (.call _ _ (e1 (vv 5)) _))
(.cons (ag 6 (.mth .group (vv 5) _ (e1 kk) _))
(.cons (ag 5 (.rx _ _ _ _ (e1 (vv 2)) _))
(.cons (.ifS (vv 5)
(.cons (ag 2 (.call _ _ (e1 (vv 5)) _))
(.cons (ag 7 (.mth .group (vv 5) _ (e1 kk) _))
(.cons (ag 7 (.abR _ _ _ ll yK (vv 7) _)) .nil)))
(.cons (ag 5 (.rx _ _ _ _ (e1 (vv 2)) _))
(.cons (.ifS (vv 5)
(.cons (ag 2 (.call _ _ (e1 (vv 5)) _))
(.cons (ag 7 (.mth .group (vv 5) _ (e1 kk) _))
(.cons (ag 7 (.mth .rstrip (vv 7) _ .nil _)) .nil)))
(.cons (ag 7 kk) .nil) _) .nil)) _)
(.cons (.app 4 _ _ (.tup (e2 (vv 6) (vv 7)) 0 _) _ _) .nil)))))
(.cons (.ifS (.mth .startswith (.mth .lstrip (vv 2) _ .nil _) _ (e1 kk) _)
(.cons (ag 2 (.abp (.mth .lstrip (vv 2) _ .nil _) kk _ _))
(.cons (.ifS (vv 4)
(.cons (.app 1 _ _ (vv 4) _ _) .nil) .nil _)
(.cons (.abq 4 _ _ _) .nil)))
(.cons (.asg (.two 8 9 _ _ 0 _) (.rx _ _ _ _ (e2 kk (vv 2)) _) _)
(.cons (.abS (.cmp .gt (vv 9) kk _) (vr (b7 (aL 9) [2,0,2,0,1,1,0,1,1])) _)
(.cons (ag 2 (vv 8)) .nil))) _) .nil) _) .nil)) _)
(.cons (.ifS (vv 4)
(.cons (.app 1 _ _ (vv 4) _ _) .nil) .nil _) .nil)))) _)
(.cons (.ret (vv 1) _) .nil)))),rfl⟩
noncomputable def LD:List Str:=["lists","headers","pairs","attr","k","v"]
noncomputable def FP:Em LD (aL 12):=⟨(.cons (.abq 1 _ _ _)
(.cons (.abw (.one 2 _) (vv 0)
(.cons (.abq 3 _ _ _)
(.cons (.abw (.two 4 5 _ _ 0 _) (vv 2)
(.cons (.ifS (.cmp .abC (vv 5) kk _)
(.cons (.ifS (.not (.rx _ _ _ _ (e1 (vv 5)) _) _)
(.cons (ag 5 (.abR _ _ _ g5 oR (vv 5) _))
(.cons (ag 5 (.bin .mod kk (vv 5) _)) .nil)) .nil _)
(.cons (ag 4 (.js 4 5 _ _ _ _ _ _ _)) .nil)) .nil _)
(.cons (.app 3 _ _ (vv 4) _ _) .nil)) _)
(.cons (.ifS (vv 3)
(.cons (.app 1 _ _ (.mth .join kk _ (e1 (vv 3)) _) _ _) .nil) .nil _) .nil))) _)
(.cons (.ret (.mth .join kk _ (e1 (vv 1)) _) _) .nil))),rfl⟩
noncomputable def LG:List Str:=["s"]
noncomputable def Dp:Em LG (aL 15):=⟨(.cons (.ifS (.bi .isinstance _ (e2 (vv 0) (.gv _ _)) _)
(.cons (.ab9
(.cons (.ret (.mth .encode (vv 0) _ (e1 kk) _) _) .nil) (Nd (b7 (aL 15) [0,0,0])) (JG (b7 (aL 15) [0,0,0])) _) .nil) .nil _)
(.cons (.ifS (.bi .isinstance _ (e2 (vv 0) (.gv _ _)) _)
(.cons (.ret (vv 0) _) .nil) .nil _)
(.cons (.ab9
(.cons (.never (b7 (aL 15) [2,0,0])) .nil) (Nd (b7 (aL 15) [2])) (JG (b7 (aL 15) [2])) _) .nil))),rfl⟩
noncomputable def KS:List Str:=["data","t"]
noncomputable def Gc:Em KS (aL 18):=⟨(.cons (ag 1 (.bi .type _ (e1 (vv 0)) _))
(.cons (.ifS (.cmp .is (vv 1) (.gv _ _) _)
(.cons (.never (b7 (aL 18) [1,0,0]))
(.cons (.ret (.mth .encode (vv 0) _ (e1 kk) _) _) .nil)) .nil _)
(.cons (.ifS (.cmp .is (vv 1) (.gv _ _) _)
(.cons (.ret (vv 0) _) .nil) .nil _)
(.cons (.ifS (.cmp .is (vv 1) (.gv _ _) _)
(.cons (.ret (.bi .bytes _ (e1 (vv 0)) _) _) .nil) .nil _)
(.cons (.never (b7 (aL 18) [4])) .nil))))),rfl⟩
noncomputable def J1:List Str:=["data","t"]
noncomputable def Ge:Em J1 (aL 19):=⟨(.cons (ag 1 (.bi .type _ (e1 (vv 0)) _))
(.cons (.ifS (.cmp .is (vv 1) (.gv _ _) _)
(.cons (.ret (vv 0) _) .nil) .nil _)
(.cons (.ifS (.cmp .is (vv 1) (.gv _ _) _)
(.cons (.ret (.bi .bytes _ (e1 (vv 0)) _) _) .nil) .nil _)
(.cons (.never (b7 (aL 19) [3])) .nil)))),rfl⟩
noncomputable def L8:List Str:=["x","t"]
noncomputable def Fj:Em L8 (aL 20):=⟨(.cons (ag 1 (.bi .type _ (e1 (vv 0)) _))
(.cons (.ifS (.or (.cmp .is (vv 0) kk _) (.or (.cmp .is (vv 1) (.gv _ _) _) (.or (.cmp .is (vv 1) (.gv _ _) _) (.or (.cmp .is (vv 1) (.gv _ _) _) (.or (.cmp .is (vv 1) (.gv _ _) _) (.or (.cmp .is (vv 1) (.gv _ _) _) (.or (.cmp .is (vv 1) (.gv _ _) _) (.or (.cmp .is (vv 1) (.gv _ _) _) (.or (.cmp .is (vv 1) (.gv _ _) _) (.or (.cmp .is (vv 1) (.gv _ _) _) (.or (.cmp .is (vv 1) (.gv _ _) _) (.or (.cmp .is (vv 1) (.gv _ _) _) (.or (.cmp .is (vv 1) (.gv _ _) _) (.cmp .is (vv 1) (.gv _ _) _) (U 104 7 221)) (U 104 7 221)) (U 104 7 221)) (U 104 7 221)) (U 104 7 221)) (U 104 7 221)) (U 104 7 221)) (U 104 7 221)) (U 104 7 221)) (U 104 7 221)) (U 104 7 221)) (U 104 7 221)) (U 104 7 221))
(.cons (.ret (.ife (vv 0) kk kk _) _) .nil) .nil _)
(.cons (.never (b7 (aL 20) [2])) .nil))),rfl⟩
noncomputable def KT:List Str:=["c"]
noncomputable def FH:Em KT (aL 22):=⟨(.cons (.ifS (.abU .le .le kk (vv 0) kk _)
(.cons (.ret (.bin .sub (vv 0) kk _) _) .nil) .nil _)
(.cons (.ifS (.abU .le .le kk (vv 0) kk _)
(.cons (.ret (.bin .sub (vv 0) kk _) _) .nil) .nil _)
(.cons (.ifS (.abU .le .le kk (vv 0) kk _)
(.cons (.ret (.bin .add (vv 0) kk _) _) .nil) .nil _)
(.cons (.ifS (.cmp .eq (vv 0) kk _)
(.cons (.ret kk _) .nil) .nil _)
(.cons (.ifS (.cmp .eq (vv 0) kk _)
(.cons (.ret kk _) .nil) .nil _)
(.cons (.ret kk _) .nil)))))),rfl⟩
noncomputable def HY:List Str:=["data","strict_mode","ascii_data","out","quad_pos","leftchar","pads","i","this_ch"]
noncomputable def F8:Em HY (aL 23):=⟨(.cons (ag 2 (.call _ _ (e1 (vv 0)) _))
(.cons (ag 1 (.call _ _ (e1 (vv 1)) _))
(.cons (.abq 3 _ _ _)
(.cons (ag 4 kk)
(.cons (ag 5 kk)
(.cons (ag 6 kk)
(.cons (ag 7 kk)
(.cons (.abw (.one 8 _) (vv 2)
(.cons (.ifS (.cmp .eq (vv 8) kk _)
(.cons (ag 6 (.bin .add (vv 6) kk _))
(.cons (.ifS (.and (.cmp .ge (vv 4) kk _) (.cmp .le (.bin .add (vv 4) (vv 6) _) kk _) _)
(.cons (ag 7 (.bin .add (vv 7) kk _))
(.cons (.cont _) .nil)) .nil _)
(.cons (.ifS (.not (vv 1) _)
(.cons (ag 7 (.bin .add (vv 7) kk _))
(.cons (.cont _) .nil)) .nil _)
(.cons (.ifS (.cmp .eq (vv 4) kk _)
(.cons (.brk _) .nil) .nil _)
(.cons (.ifS (.and (.cmp .eq (vv 4) kk _) (.cmp .eq (vv 7) kk _) _)
(.cons (.never (b7 (aL 23) [7,0,0,0,4,0,0])) .nil) .nil _)
(.cons (.never (b7 (aL 23) [7,0,0,0,5])) .nil)))))) .nil _)
(.cons (ag 8 (.call _ _ (e1 (vv 8)) _))
(.cons (.ifS (.cmp .ge (vv 8) kk _)
(.cons (.ifS (vv 1)
(.cons (.never (b7 (aL 23) [7,0,2,0,0,0,0])) .nil) .nil _)
(.cons (ag 7 (.bin .add (vv 7) kk _))
(.cons (.cont _) .nil))) .nil _)
(.cons (.ifS (.and (vv 6) (vv 1) _)
(.cons (.ifS (.cmp .eq (.bin .add (vv 4) (vv 6) _) kk _)
(.cons (.never (b7 (aL 23) [7,0,3,0,0,0,0])) .nil) .nil _)
(.cons (.never (b7 (aL 23) [7,0,3,0,1])) .nil)) .nil _)
(.cons (ag 6 kk)
(.cons (.ifS (.cmp .eq (vv 4) kk _)
(.cons (ag 4 kk)
(.cons (ag 5 (vv 8)) .nil))
(.cons (.ifS (.cmp .eq (vv 4) kk _)
(.cons (ag 4 kk)
(.cons (.app 3 _ _ (.bin .bor (.bin .shl (vv 5) kk _) (.bin .shr (vv 8) kk _) _) _ _)
(.cons (ag 5 (.bin .band (vv 8) kk _)) .nil)))
(.cons (.ifS (.cmp .eq (vv 4) kk _)
(.cons (ag 4 kk)
(.cons (.app 3 _ _ (.bin .bor (.bin .shl (vv 5) kk _) (.bin .shr (vv 8) kk _) _) _ _)
(.cons (ag 5 (.bin .band (vv 8) kk _)) .nil)))
(.cons (ag 4 kk)
(.cons (.app 3 _ _ (.bin .bor (.bin .shl (vv 5) kk _) (vv 8) _) _ _)
(.cons (ag 5 kk) .nil))) _) .nil) _) .nil) _)
(.cons (ag 7 (.bin .add (vv 7) kk _)) .nil))))))) _)
(.cons (.ifS (.cmp .eq (vv 4) kk _)
(.cons (.never (b7 (aL 23) [8,0,0])) .nil) .nil _)
(.cons (.ifS (.and (.cmp .ne (vv 4) kk _) (.cmp .lt (.bin .add (vv 4) (vv 6) _) kk _) _)
(.cons (.never (b7 (aL 23) [9,0,0])) .nil) .nil _)
(.cons (.ret (.bi .bytes _ (e1 (vv 3)) _) _) .nil))))))))))),rfl⟩
noncomputable def HC:List Str:=["data","newline","bin_data","out","leftbits","leftchar","b"]
noncomputable def Fd:Em HC (aL 24):=⟨(.cons (ag 2 (.call _ _ (e1 (vv 0)) _))
(.cons (ag 1 (.call _ _ (e1 (vv 1)) _))
(.cons (.abq 3 _ _ _)
(.cons (ag 4 kk)
(.cons (ag 5 kk)
(.cons (.abw (.one 6 _) (vv 2)
(.cons (ag 5 (.bin .band (.bin .bor (.bin .shl (vv 5) kk _) (vv 6) _) kk _))
(.cons (ag 4 (.bin .add (vv 4) kk _))
(.cons (.aby (.cmp .ge (vv 4) kk _)
(.cons (.app 3 _ _ (.idx (.gv _ _) (.bin .band (.bin .shr (vv 5) (.bin .sub (vv 4) kk _) _) kk _) _) _ _)
(.cons (ag 4 (.bin .sub (vv 4) kk _)) .nil)) _) .nil))) _)
(.cons (.ifS (.cmp .eq (vv 4) kk _)
(.cons (.app 3 _ _ (.idx (.gv _ _) (.bin .shl (.bin .band (vv 5) kk _) kk _) _) _ _)
(.cons (.app 3 _ _ kk _ _)
(.cons (.app 3 _ _ kk _ _) .nil)))
(.cons (.ifS (.cmp .eq (vv 4) kk _)
(.cons (.app 3 _ _ (.idx (.gv _ _) (.bin .shl (.bin .band (vv 5) kk _) kk _) _) _ _)
(.cons (.app 3 _ _ kk _ _) .nil)) .nil _) .nil) _)
(.cons (.ifS (vv 1)
(.cons (.app 3 _ _ kk _ _) .nil) .nil _)
(.cons (.ret (.bi .bytes _ (e1 (vv 3)) _) _) .nil))))))))),rfl⟩
noncomputable def Hi:List Str:=["s","altchars","encoded"]
noncomputable def HJ:Em Hi (aL 26):=⟨(.cons (ag 2 (.abz _ _ (e1 (vv 0)) _ kk _ _))
(.cons (.ifS (.cmp .abC (vv 1) kk _)
(.cons (.abS (.cmp .eq (.bi .len _ (e1 (vv 1)) _) kk _) (vr (b7 (aL 26) [1,0,0])) _)
(.cons (.never (b7 (aL 26) [1,0,1])) .nil)) .nil _)
(.cons (.ret (vv 2) _) .nil))),rfl⟩
noncomputable def Jb:List Str:=["s","altchars","validate"]
noncomputable def Ie:Em Jb (aL 27):=⟨(.cons (ag 0 (.call _ _ (e1 (vv 0)) _))
(.cons (.ifS (.cmp .abC (vv 1) kk _)
(.cons (ag 1 (.call _ _ (e1 (vv 1)) _))
(.cons (.abS (.cmp .eq (.bi .len _ (e1 (vv 1)) _) kk _) (vr (b7 (aL 27) [1,0,1])) _)
(.cons (.never (b7 (aL 27) [1,0,2])) .nil))) .nil _)
(.cons (.ret (.abz _ _ (e1 (vv 0)) _ (vv 2) _ _) _) .nil))),rfl⟩
noncomputable def Ll:List Str:=["place"]
noncomputable def EH:Em Ll (aL 35):=⟨(.cons (.ret (.idx (.lst
(.cons kk
(.cons kk
(.cons kk
(.cons kk
(.cons kk (e2 kk kk)))))) _) (vv 0) _) _) .nil),rfl⟩
noncomputable def It:List Str:=["x","many","k"]
noncomputable def FR:Em It (aL 36):=⟨(.cons (.ret (.comp (vv 2) (.one 2 _) (.bi .range _ (e1 (vv 1)) _) (e1 (.cmp .isIn (vv 2) (.lst (e2 (.bin .mod (vv 0) kk _) (.bin .mod (.bin .fdiv (vv 0) kk _) kk _)) _) _)) [0] _ _) _) .nil),rfl⟩
noncomputable def HW:List Str:=["x"]
noncomputable def IY:Em HW (aL 37):=⟨(.cons (.ret (.lst
(.cons (.bin .mod (.bin .fdiv (.bin .add (.bin .mul kk (vv 0) _) kk _) kk _) kk _) (e2 (.bin .mod (.bin .add (.bin .mul kk (vv 0) _) kk _) kk _) (.bin .mod (.bin .fdiv (vv 0) kk _) kk _))) _) _) .nil),rfl⟩
noncomputable def Lh:List Str:=[]
noncomputable def Js:Em Lh (aL 38):=⟨(.cons (.ret kk _) .nil),rfl⟩
noncomputable def KR:List Str:=["octets","number","k"]
noncomputable def BQ:Em KR (aL 39):=⟨(.cons (ag 1 (.bin .add (.bin .add (.bin .mul (.idx (vv 0) kk _) kk _) (.bin .mul (.idx (vv 0) kk _) kk _) _) (.idx (vv 0) kk _) _))
(.cons (.ret (.mth .join kk _ (e1 (.comp (.idx (.call _ _ .nil _) (.bin .mod (.bin .fdiv (vv 1) (.bin .pow kk (vv 2) _) _) kk _) _) (.one 2 _) (.lst
(.cons kk
(.cons kk (e2 kk kk))) _) .nil [1] _ _)) _) _) .nil)),rfl⟩
noncomputable def Ky:List Str:=["numbers","rows","place","x","needs","k"]
noncomputable def Ee:Em Ky (aL 40):=⟨(.cons (.abq 1 _ _ _)
(.cons (.ab1 (.two 2 3 _ _ 0 _) _ (vv 0) _
(.cons (ag 4 (.comp (.tup (e2 kk (.call _ _ (e1 (vv 5)) _)) 0 _) (.one 5 _) (.call _ _ (e2 (vv 3) (.bi .len _ (e1 (vv 0)) _)) _) .nil [] _ _))
(.cons (.app 1 _ _ (.bin .add (.bin .add (.bin .add (.lst (e1 (.tup (e2 kk (.call _ _ (e1 (vv 2)) _)) 0 _)) _) (vv 4) _) (.lst (e1 (.tup (e2 kk (.call _ _ (e1 (.call _ _ (e1 (vv 3)) _)) _)) 0 _)) _) _) (.bin .mul (.lst (e1 (.tup (e2 kk kk) 0 _)) _) (.bin .mod (vv 3) kk _) _) _) _ _) .nil)) _)
(.cons (.ret (vv 1) _) .nil))),rfl⟩
noncomputable def KC:List Str:=["rows","headers","pairs","words","key","value","sign"]
noncomputable def Eu:Em KC (aL 41):=⟨(.cons (.abq 1 _ _ _)
(.cons (.abw (.one 2 _) (vv 0)
(.cons (.abq 3 _ _ _)
(.cons (.abw (.two 4 5 _ _ 0 _) (vv 2)
(.cons (.ifS (.or (.cmp .is (vv 5) kk _) (.cmp .eq (.comp (vv 6) (.one 6 _) (vv 5) (e1 (.cmp .abO (vv 6) (.abG (.call _ _ .nil _) kk _ _) _)) [] _ _) (.lst .nil _) _) _)
(.cons (.app 3 _ _ (.ife (.cmp .is (vv 5) kk _) (vv 4) (.bin .add (.bin .add (vv 4) kk _) (vv 5) _) _) _ _) .nil)
(.cons (.app 3 _ _ (.bin .add (.bin .add (.bin .add (vv 4) kk _) (.abm (.abm (vv 5) _ _ _ _ _ _) _ _ _ _ _ _) _) kk _) _ _) .nil) _) .nil) _)
(.cons (.app 1 _ _ (.mth .join kk _ (e1 (vv 3)) _) _ _) .nil))) _)
(.cons (.ret (.mth .join kk _ (e1 (vv 1)) _) _) .nil))),rfl⟩
noncomputable def J5:List Str:=["one","other","k"]
noncomputable def Eh:Em J5 (aL 42):=⟨(.cons (.ret (.comp (.bin .bxor (.idx (vv 0) (vv 2) _) (.idx (vv 1) (vv 2) _) _) (.one 2 _) (.bi .range _ (e1 kk) _) .nil [0,1] _ _) _) .nil),rfl⟩
noncomputable def Kq:List Str:=["numbers","place","k","end"]
noncomputable def Iv:Em Kq (aL 44):=⟨(.cons (.ret (.bin .add (.lst (e1 (vv 1)) _) (.abt (vv 3) (.one 2 _) (.call _ _ (e2 (.idx (vv 0) (vv 1) _) (.bi .len _ (e1 (vv 0)) _)) _) .nil (.one 3 _) (.call _ _ (e2 (vv 0) (vv 2)) _) .nil [0] _ _) _) _) .nil),rfl⟩
noncomputable def LZ:List Str:=["numbers","rounds","done","turn","free","row","place","total","end","k","j"]
noncomputable def EW:Em LZ (aL 45):=⟨(.cons (.asg (.two 1 2 _ _ 0 _) (.tup (e2 (.lst .nil _) (.lst .nil _)) 0 _) _)
(.cons (.abw (.one 3 _) (vv 0)
(.cons (ag 4 (.comp (vv 9) (.one 9 _) (.bi .range _ (e1 (.bi .len _ (e1 (vv 0)) _)) _) (e1 (.and (.cmp .abO (vv 9) (vv 2) _) (.cmp .eq (.comp (vv 10) (.one 10 _) (.call _ _ (e2 (.idx (vv 0) (vv 9) _) (.bi .len _ (e1 (vv 0)) _)) _) (e1 (.cmp .abO (vv 10) (vv 2) _)) [2] _ _) (.lst .nil _) _) _)) [2,0] _ _))
(.cons (.abq 5 _ _ _)
(.cons (.abw (.one 6 _) (vv 4)
(.cons (ag 7 (.lst
(.cons kk (e2 kk kk)) _))
(.cons (.abw (.one 8 _) (.call _ _ (e2 (vv 0) (vv 6)) _)
(.cons (ag 7 (.call _ _ (e2 (vv 7) (.call _ _ (e1 (.idx (vv 0) (vv 8) _)) _)) _)) .nil) _)
(.cons (.app 5 _ _ (.tup (e2 (.call _ _ (e1 (vv 6)) _) (vv 7)) 0 _) _ _) .nil))) _)
(.cons (ag 1 (.ife (.cmp .ne (vv 5) (.lst .nil _) _) (.bin .add (vv 1) (.lst (e1 (vv 5)) _) _) (vv 1) _))
(.cons (ag 2 (.bin .add (vv 2) (vv 4) _)) .nil))))) _)
(.cons (.ret (.lst (e2 (.cmp .lt (.bi .len _ (e1 (vv 2)) _) (.bi .len _ (e1 (vv 0)) _) _) (vv 1)) _) _) .nil))),rfl⟩
noncomputable def jJ:List Str:=["script","numbers","rows","coded","header","read","ringed","rounds","shown","told","answer","x","pairs","row","name","octets"]
noncomputable def qR:Em jJ (aL 46):=⟨(.cons (ag 1 (.bin .add (.lst
(.cons kk
(.cons kk (e2 kk kk))) _) (.abG (vv 0) kk _ _) _))
(.cons (ag 2 (.call _ _ (e1 (vv 1)) _))
(.cons (ag 3 (.comp (.mth .decode (.call _ _ (e1 (.bi .bytes _ (e1 (.call _ _ (e1 (vv 11)) _)) _)) _) _ (e1 kk) _) (.one 11 _) (vv 1) .nil [] _ _))
(.cons (ag 4 (.call _ _ (e1 (vv 2)) _))
(.cons (.ifS (.or (.cmp .ne (vv 3) (.comp (.call _ _ (e1 (.call _ _ (e1 (vv 11)) _)) _) (.one 11 _) (vv 1) .nil [] _ _) _) (.cmp .ne (vv 4) (.call _ _ (e1 (vv 2)) _) _) _)
(.cons (.ret kk _) .nil) .nil _)
(.cons (ag 5 (.call _ _ (e1 (.lst (e1 (vv 4)) _)) _))
(.cons (.ifS (.cmp .ne (.lst (e2 (vv 5) (.call _ _ (e1 (.comp (.call _ _ (e1 (.lst (e1 (vv 12)) _)) _) (.one 12 _) (vv 2) .nil [] _ _)) _)) _) (.lst (e2 (vv 2) (vv 2)) _) _)
(.cons (.ret kk _) .nil) .nil _)
(.cons (.xk (.asg (.two 6 7 _ _ 0 _) (.new _ _ (e1 (vv 5)) _) _) .nil)
(.cons (.ifS (.cmp .ne (.lst (e2 (vv 6) (vv 7)) _) (.call _ _ (e1 (vv 1)) _) _)
(.cons (.ret kk _) .nil) .nil _)
(.cons (ag 8 (.comp (.idx (.idx (vv 12) kk _) kk _) (.one 12 _) (vv 5) (e1 (.cmp .isIn (.tup (e2 kk kk) 0 _) (vv 12) _)) [] _ _))
(.cons (ag 9 (.abt (.tup (e2 (vv 14) (vv 15)) 0 _) (.one 13 _) (vv 7) .nil (.two 14 15 _ _ 0 _) (vv 13) (e1 (.cmp .isIn (vv 14) (vv 8) _)) [8] _ _))
(.cons (ag 10 (.call _ _ (e1 (.comp (.lst (e2 (.tup (e2 kk (vv 14)) 0 _) (.tup (e2 kk (.mth .decode (.call _ _ (e1 (.bi .bytes _ (e1 (vv 15)) _)) _) _ (e1 kk) _)) 0 _)) _) (.two 14 15 _ _ 0 _) (vv 9) .nil [] _ _)) _))
(.cons (.ret (.cmp .eq (vv 10) (.call _ _ (e1 (.comp (.lst (e2 (.tup (e2 kk (vv 14)) 0 _) (.tup (e2 kk (.call _ _ (e1 (vv 15)) _)) 0 _)) _) (.two 14 15 _ _ 0 _) (vv 9) .nil [] _ _)) _) _) _) .nil))))))))))))),rfl⟩
section
noncomputable def KX(w:World):Frag:=hd.heap_1 w.params
def gM:Tb:=⟨72,76,(match ll with | .Lambda _ _ _ p=>p | _=>default),("split_header_words.<locals>.<lambda>":Str)⟩
def eL:Tb:=⟨89,93,(match g5 with | .Lambda _ _ _ p=>p | _=>default),("join_header_words.<locals>.<lambda>":Str)⟩
structure Laid(S:Cx):Prop where
 prog:S.prog=PySem.Challenge.pw_oy0417_01
 tabs:S.tabs=[gM,eL]
 K:(KX S.w).In S.base
 t1:S.base.get? 72=some (tabObj #[])
 t2:S.base.get? 89=some (tabObj #[])
 b:∃mb,S.base.Ns builtinsNs mb∧∀x:Str,x≠"__name__"→mb x=bootBuiltins x
 nolimit:S.base.NoLimit
 bm:∃bm ob,nsFind (match(KX S.w).lookup mainGlobals with | some ⟨_,_,.dict es _,_⟩=>es | _=>#[]) "__builtins__"=some (.ref bm)∧bm≠builtinsNs∧S.base.get? bm=some ob∧ob.cls=.type "module"∧ob.dict=some builtinsNs∧ob.data=.plain
def nC(w:World):Array DictEntry:=match(KX w).lookup mainGlobals with | some ⟨_,_,.dict es _,_⟩=>es | _=>#[]
noncomputable def BB:Value→Bool
 |.str ..=>true
 |_=>false
def yo{v:Value}(h:BB v=true):∃x t,v=.str x t:=by
 cases v with
 |str x t=>exact⟨x,t,rfl⟩
 |_=>cases h
def Ax(w:World):(nC w).toList.all (λe=>BB e.key)=true:=by rfl
def v0(w:World):StrKeys (nC w):=λe he=>yo (Ob.mp (Ax w) e (Array.mem_toList_iff.mpr he))
def Mu(w:World):Nat:=match(KX w).lookup mainGlobals with | some ⟨_,_,.dict _ ep,_⟩=>ep | _=>0
def rO(w:World):(KX w).lookup mainGlobals=some {cls:=.type "dict",data:=.dict (nC w) (Mu w)}:=by rfl
section
variable(L:Laid S)
include L
def Laid.abe(h:(a==72||a==89)=false):¬S.T a:=by
 rintro⟨t,m,e⟩;rw[L.tabs] at m;rw[Bool.or_eq_false_iff] at h;rcases NU.mp m with rfl | m
 ·rw[← e] at h;exact absurd h.1 kD
 ·rcases NU.mp m with rfl | m
  ·rw[← e] at h;exact absurd h.2 kD
  ·cases m
def Laid.at{o:Obj}(h:(KX S.w).lookup a=some o):S.base.get? a=some o:=L.K a o h
def Laid.ns:S.base.Ns mainGlobals (nsFind (nC S.w)):=
 (aH _ (nC S.w) (Mu S.w) (Laid.at L (rO S.w)) rfl (v0 S.w) (λ_=>rfl))
def Laid.glob{n:Str}{v:Value}(h:nsFind (nC S.w) n=some v):bC S n v:=λ{M A E s env Q} hg hb k q=>by
 refine loadGlobal_global (mg:=nsFind (nC S.w)) ?_ h q;rw[hg];exact fh L.ns λo=>k _ o (L.abe rfl)
def Laid.bi{n:Str}{v:Value}(h:nsFind (nC S.w) n=none)(hn:n≠"__name__")(hb:bootBuiltins n=some v):bC S n v:=λ{M A E s env Q} hg Uf k q=>by
 refine ay L.b λmb h1 h2=>loadGlobal_builtin (mg:=nsFind (nC S.w)) (mb:=mb) ?_ h ?_ ((h2 n hn).trans hb) q
 ·rw[hg];exact fh L.ns λo=>k _ o (L.abe rfl)
 ·rw[Uf];exact fh h1 λo=>k _ o (L.abe rfl)
def Laid.bis(b:Bi):bC S b.name b.val:=by
 cases b<;>exact L.bi kR kD kR
def Laid.en:bC S ("enumerate":Str) (.type "enumerate"):=L.bi kR kD kR
def Laid.sys:∃a o,sysModules≤a∧¬S.T a∧S.base.get? a=some o:=aN mainGlobals _ kD (L.abe rfl) (L.at (rO S.w))
end
end
section
def bv(w:World)(a:Addr):FuncData:=match(KX w).lookup a with
 |some ⟨_,_,.func fd,_⟩=>fd
 |_=>default
def oz(w:World)(a:Addr):Array Value:=match(KX w).lookup a with
 |some ⟨_,_,.fields vs,_⟩=>vs
 |_=>#[]
structure FnAt(w:World)(a c:Addr)(T:List Str)(b:MB)(cd:Option (Addr×Str))(ar:Nat):Prop where
 nt:(a==72||a==89)=false
 ntc:(c==72||c==89)=false
 look:(KX w).lookup a=some {cls:=.type "function",data:=.func (bv w a)}
 abD:(KX w).lookup c=some {cls:=.type "code",data:=.fields (oz w c)}
 code:(bv w a).code=.ref c
 qual:∃t,(oz w c)[1]?=some (.str (bv w a).qualname t)
 len:ar≤T.length
 ok:∀P:Pk,P.T=T→I6 P (bv w a) b cd ar
noncomputable def CB(q:Str):Option Value→Bool
 |some (.str x _)=>x==q
 |_=>false
noncomputable def Gm(c:Addr):Value→Bool
 |.ref a=>a==c
 |_=>false
noncomputable def lE:FuncBody→Option (List Stmt)
 |.stmts b=>some b
 |_=>none
def pO(w:World)(a c:Addr)(T:List Str)(b:MB)(cd:Option (Addr×Str))(ar:Nat):List Bool:=[!(a==72||a==89),!(c==72||c==89),Gm c (bv w a).code,CB (bv w a).qualname (oz w c)[1]?,decide (ar≤T.length),(bv w a).closure.isEmpty,(bv w a).globals==mainGlobals,
 (bv w a).builtins==builtinsNs,(bv w a).scope.kind==.function,!(bv w a).scope.isCoroutine,!(bv w a).scope.isGenerator,decide T.Nodup,sS T b (bv w a).scope.names cd,(bv w a).scope.names.all λy=>y.2 !=.free,
 match cd with | none=>true | some q=>q.1==c&&(bv w a).qualname++".<locals>."==q.2,(T.take ar).all λx=>(bv w a).scope.names.lookup x==some .local||(bv w a).scope.names.lookup x==some .cell]
def Aw(w:World)(a c:Addr)(T:List Str)(b:MB)(cd:Option (Addr×Str))(ar:Nat):Bool:=(pO w a c T b cd ar).all id
def bZ{l:List Bool}{b:Bool}(h:l.all id=true)(i:Nat)(e:l[i]?=some b):b=true:=Ob.mp h b (List.mem_of_getElem? e)
def pu{b:Bool}(h:(!b)=true):b=false:=by cases b<;>first | rfl | cases h
def lY{c:Addr}{v:Value}(h:Gm c v=true):v=.ref c:=by cases v<;>first | cases h | exact N2 _ (eq_of_beq h)
def oW{q:Str}{v:Option Value}(h:CB q v=true):∃t,v=some (.str q t):=by
 cases v with
 |none=>cases h
 |some v=>cases v<;>first | cases h | exact⟨_,N2 (λq=>some (Value.str q _)) (eq_of_beq h)⟩
def mO{f:FuncBody}{b:List Stmt}(h:lE f=some b):f=.stmts b:=by cases f<;>first | exact N2 _ (NW h) | cases h
section
variable{w:World}{c:Addr}{T:List Str}
def pb(h:(pO w a c T b cd ar).all id=true)(P:Pk)(hT:P.T=T):FnBase P (bv w a) cd ar:=by
 subst hT;exact⟨List.isEmpty_iff.mp (bZ h 5 rfl),eq_of_beq (bZ h 6 rfl),eq_of_beq (bZ h 7 rfl),eq_of_beq (bZ h 8 rfl),pu (bZ h 9 rfl),pu (bZ h 10 rfl),NV (bZ h 11 rfl),bZ h 13 rfl,λq hq=>by
  subst hq;have k:=bZ h 14 rfl;exact⟨by rw[lY (bZ h 2 rfl),eq_of_beq (ai k)],eq_of_beq (ae k)⟩,bZ h 15 rfl⟩
def FnAt.ofB(e:iY T b=bd)(h1:autoParam ((KX w).lookup a=some {cls:=.type "function",data:=.func (bv w a)}) Internal.CJ)(h2:autoParam ((KX w).lookup c=some {cls:=.type "code",data:=.fields (oz w c)}) Internal.CJ)(h3:autoParam (lE (bv w a).body=some bd) Internal.CJ)(h:autoParam (Aw w a c T b cd ar=true) Internal.CJ):FnAt w a c T b cd ar:=
 have h:(pO w a c T b cd ar).all id=true:=h
 ⟨pu (bZ h 0 rfl),pu (bZ h 1 rfl),h1,h2,lY (bZ h 2 rfl),oW (bZ h 3 rfl),NV (bZ h 4 rfl),λP hT=>⟨pb h P hT,by rw[mO h3,hT,e],by rw[hT];exact bZ h 12 rfl⟩⟩
end
def FnAt.of{w:World}{c:Addr}{T:List Str}(e:iY T b=aL i)(h1:autoParam ((KX w).lookup a=some {cls:=.type "function",data:=.func (bv w a)}) Internal.CJ)(h2:autoParam ((KX w).lookup c=some {cls:=.type "code",data:=.fields (oz w c)}) Internal.CJ)(h3:autoParam (lE (bv w a).body=some (aL i)) Internal.CJ)(h4:autoParam (Aw w a c T b cd ar=true) Internal.CJ):FnAt w a c T b cd ar:=.ofB e h1 h2 h3 h4
def MI(w:World):FnAt w 50 49 Na MX.1 none 1:=.of (i:=4) MX.2
def Kj(w:World):FnAt w 77 76 Nh Mf.1 (some yK) 1:=.of (i:=9) Mf.2
def GN(w:World):FnAt w 94 93 LD FP.1 (some oR) 1:=.of (i:=12) FP.2
def J7(w:World):FnAt w 102 101 LG Dp.1 none 1:=.of (i:=15) Dp.2
def Kw(w:World):FnAt w 122 121 KS Gc.1 none 1:=.of (i:=18) Gc.2
def LF(w:World):FnAt w 129 128 J1 Ge.1 none 1:=.of (i:=19) Ge.2
def L4(w:World):FnAt w 136 135 L8 Fj.1 none 1:=.of (i:=20) Fj.2
def JX(w:World):FnAt w 143 142 KT FH.1 none 1:=.of (i:=22) FH.2
def Ko(w:World):FnAt w 151 150 HY F8.1 none 2:=.of (i:=23) F8.2
def JD(w:World):FnAt w 159 158 HC Fd.1 none 2:=.of (i:=24) Fd.2
def LY(w:World):FnAt w 167 166 Hi HJ.1 none 2:=.of (i:=26) HJ.2
def J2(w:World):FnAt w 175 174 Jb Ie.1 none 3:=.of (i:=27) Ie.2
def LW(w:World):FnAt w 302 301 Ll EH.1 none 1:=.of (i:=35) EH.2
def KB(w:World):FnAt w 307 306 It FR.1 none 2:=.of (i:=36) FR.2
def Ma(w:World):FnAt w 314 313 HW IY.1 none 1:=.of (i:=37) IY.2
def KD(w:World):FnAt w 321 320 Lh Js.1 none 0:=.of (i:=38) Js.2
def KO(w:World):FnAt w 326 325 KR BQ.1 none 1:=.of (i:=39) BQ.2
def Lu(w:World):FnAt w 331 330 Ky Ee.1 none 1:=.of (i:=40) Ee.2
def Lo(w:World):FnAt w 336 335 KC Eu.1 none 1:=.of (i:=41) Eu.2
def Lq(w:World):FnAt w 341 340 J5 Eh.1 none 2:=.of (i:=42) Eh.2
def GH(w:World):FnAt w 351 350 Kq Iv.1 none 2:=.of (i:=44) Iv.2
def Lf(w:World):FnAt w 356 355 LZ EW.1 none 1:=.of (i:=45) EW.2
def Lk(w:World):FnAt w 361 360 jJ qR.1 none 1:=.of (i:=46) qR.2
end
section
def yP(C:cu):Prop:=C.fr=false∧∀st gs is l H K,¬C.xt st gs is l H K
def yP.xs(h:yP P.C)(st:Stmt)(gs:List Str)(is:List Nat):XS P (.ext st gs is):=λX s K Q E i ok O hx hQ=>(h.2 st _ _ _ _ _ hx).elim
noncomputable def cu.none:cu:=⟨λ_=>false,λ_ _=>false,λ_ _ _=>False,λ_ _ _=>False,λ_ _ _ _=>False,λ_ _ _ _ _=>False,λ_ _ _ _ _=>False,λ_ _=>False,λ_ _ _ _ _ _=>False,λ_ _=>false,λ_ _=>Option.none,λ_ _=>false,λ_ _ _ _ _=>False,λ_=>false,λ_ _ _ _=>False,false⟩
noncomputable def cu.fn(C:cu)(x:Str)(R:List PV→PV→Prop)(RK:Str→List PV→PV→PV→Prop:=λ_ _ _ _=>False):cu:=
 {C with fa:=λy=>y==x||C.fa y,f:=λy ds d=>(y=x∧R ds d)∨(y≠x∧C.f y ds d),k:=λy kw ds u d=>(y=x∧RK kw ds u d)∨(y≠x∧C.k y kw ds u d)}
section
variable{m:Nat}
theorem fF.le{A:Around}(h:fF A m)(le:n≤m):fF A n:=⟨h.handled,by have:=h.depth;exact bu this le,by have:=h.units;exact Hj this le le le⟩
theorem Gives.le{v:Value}{pre:List Value}(h:Gives S n v pre kw ds d)(le:n≤m):Gives S m v pre kw ds d:=λA g s vs Q E r=>h A g s vs Q E (r.le le)
theorem In.le(h:In m X)(le:n≤m):In n X:={h with depth:=(h.room.le le).depth,units:=(h.room.le le).units}
theorem ek.le(h:ek S n a R)(le:n≤m):ek S m a R:=λr=>h (r.le le)
theorem nL.le{kw:Str}{u:PV}(h:nL S n a kw ds u d)(le:n≤m):nL S m a kw ds u d:=λA g s vs w Q E r=>h A g s vs w Q E (r.le le)
theorem ah.le(h:ah S n C)(le:n≤m):ah S m C:=
 {h with
  f:=λx hx=>(h.f x hx).imp λa c=>{c with f:=λds d q=>(c.f ds d q).le le,k:=λkw ds u d q=>(c.k kw ds u d q).le le}
  x:=λx k hx=>(h.x x k hx).imp λv=>.imp λid c=>{c with f:=λds d q=>(c.f ds d q).le le}
  s:=λx lam cd hx=>(h.s x lam cd hx).imp λv=>.imp λid=>.imp λL c=>{c with ev:=λX i=>c.ev X (i.le le),f:=λy d q A g s f u Q E r=>c.f y d q A g s f u Q E (r.le le)}
  m:=λc y q=>(h.m c y q).imp_right (.imp λa c=>{c with r:=ek.le c.r le})
  nw:=λx q=>(h.nw x q).imp_right (.imp λa c=>{c with r:=ek.le c.r le})}
theorem ah.fn{o:Obj}{fd:FuncData}{R:List PV→PV→Prop}(h:ah S n C)(le:n≤m)(hg:bC S x (.ref a))(nt:¬S.T a)(ho:S.base.get? a=some o)(hd:o.data=.func fd)(hR:∀ds d,R ds d→Gives S m (.ref a) [] [] ds d)(hK:∀kw ds u d,RK kw ds u d→nL S m a kw ds u d):ah S m (C.fn x R RK):=
 {h.le le with
  f:=λy hy=>by
   by_cases e:y=x
   ·exact⟨a,e▸hg,nt,fw o fd ho hd,λds d q=>q.elim (λq=>hR ds d q.2) λq=>(q.1 e).elim,λkw ds u d q=>q.elim (λq=>hK kw ds u d q.2) λq=>(q.1 e).elim⟩
   ·exact((h.le le).f y ((On.mp hy).resolve_left λq=>e (Ol.mp q))).imp λa c=>{c with f:=λds d q=>c.f ds d (q.resolve_left λq=>e q.1).2,k:=λkw ds u d q=>c.k kw ds u d (q.resolve_left λq=>e q.1).2}}
def ah.start(L:Laid S):ah S 0 .none where
 f _ h:=by cases h
 x _ _ h:=by cases h
 s _ _ _ h:=h.elim
 g _ _ h:=h.elim
 bi:=L.bis
 en:=L.en
 sys:=L.sys
 aca:=L.bi kR kD kR
 abV:=L.bi kR kD kR
 ia _ _ h:=by cases h
 sl _ _ _ h:=by cases h
 m _ _ h:=by cases h
 nw _ h:=by cases h
def Binds(w:World)(a:Addr)(T:List Str)(ar:Nat):Prop:=∀vs:List Value,vs.length=ar→bindArgs (bv w a) ⟨vs,[]⟩=pure ((T.take vs.length).zip vs)
variable{c:Addr}{T:List Str}
def FnAt.run(F:FnAt S.w a c T b cd ar)(L:Laid S)(hC:ah S n C)(hX:∀st gs is,XS ⟨S,C,n,T⟩ (.ext st gs is))(P8:C.fr=false){A:Around}{us:List Value}{K:PV→Prop}(room:fF A (n+1))(w:Wl S g s)(OV:us.length=ar)(hbind:BindsTo s (bv S.w a) ⟨vs,kw⟩ ((T.take us.length).zip us))(rs:aD g s.heap ds us)(hf:fnW C b ds K)(hQ:∀v s' d,K d→Kp S g s s'→abb g s'.heap d v→Q v s'):wpAny S.M A (call (.ref a) vs kw) Q E s:=
 acg (P:=⟨S,C,n,T⟩) (F.ok _ rfl) hC hX P8 room w (L.abe F.nt) (L.at F.look) rfl
  (F.qual.elim λt q=>aG c _ (aJ _ t F.code (L.abe F.ntc) (L.at F.abD) rfl q)) ⟨L.abe rfl,L.nolimit⟩ OV F.len hbind rs hf hQ
def FnAt.gives(F:FnAt S.w a c T b cd ar)(L:Laid S)(hC:ah S n C)(hX:yP C)(hb:Binds S.w a T ar)(hl:ds.length=ar)(hf:fnW C b ds (·=d)):Gives S (n+1) (.ref a) [] [] ds d:=λA g s vs Q E room w rs hQ=>
 F.run L hC (yP.xs (P:=⟨S,C,n,T⟩) hX) hX.1 room w ((rs.length).trans hl) (.of_eq (hb vs (rs.length.trans hl))) rs hf λv s' d' e k r=>hQ v s' k (e▸r)
end
def Di{w:World}{T:List Str}(h:bindArgs (bv w a) ⟨[],[]⟩=pure []):Binds w a T 0:=λvs e=>by
 cases vs with
 |nil=>simpa using h
 |cons _ _=>cases e
def bR{w:World}{T:List Str}(h:autoParam (∀v,bindArgs (bv w a) ⟨[v],[]⟩=pure ((T.take 1).zip [v])) Internal.MY):Binds w a T 1:=λvs e=>qv e h
def iH{w:World}{T:List Str}(h:autoParam (∀v u,bindArgs (bv w a) ⟨[v,u],[]⟩=pure ((T.take 2).zip [v,u])) Internal.MY):Binds w a T 2:=λvs e=>uh e h
def LN(w:World):Binds w 314 HW 1:=bR
def KA(w:World):Binds w 307 It 2:=iH
end
noncomputable def bP(c k:Nat):List Stmt:=match PySem.Challenge.pw_oy0417_01.main.body[c]? with
 |some (.ClassDef _ _ _ b ..)=>(match b[k]? with
  |some (.FunctionDef _ _ b ..)=>b
  |_=>[])
 |_=>[]
noncomputable def Gx:List Str:=["self","node"]
noncomputable def CK:Em Gx (bP 31 1):=⟨(.cons (.xk (.set (vv 0) _ _ (.pl (vv 1)) _) .nil)
(.cons (.xk (.set (vv 0) _ _ (.pl kk) _) .nil)
(.cons (.xk (.set (vv 0) _ _ (.abq _) _) .nil) .nil))),rfl⟩
noncomputable def Af:List Str:=["self","graph","node","predecessors"]
noncomputable def BL:Em Af (bP 33 0):=⟨(.cons (.xk (.set (vv 0) _ _ (.newD _) _) .nil)
(.cons (.xk (.set (vv 0) _ _ (.pl kk) _) .nil)
(.cons (.xk (.set (vv 0) _ _ (.pl kk) _) .nil)
(.cons (.xk (.set (vv 0) _ _ (.pl kk) _) .nil)
(.cons (.ifS (.cmp .abC (vv 1) kk _)
(.cons (.never (b7 (bP 33 0) [4,0,0])) .nil) .nil _) .nil))))),rfl⟩
noncomputable def GA:List Str:=["self","node","result"]
noncomputable def BZ:Em GA (bP 33 1):=⟨(.cons (.xk (.ifN 2 _ (.mth .get (.att (vv 0) _ _) _ (e1 (vv 1)) _) _ _ _ _)
(.cons (.xk (.ab7 (.att (vv 0) _ _) (vv 1) _ 2 _ (.new _ _ (e1 (vv 1)) _) _) .nil) .nil))
(.cons (.ret (vv 2) _) .nil)),rfl⟩
noncomputable def BJ:List Str:=["self","node","predecessors","nodeinfo","pred","pred_info"]
noncomputable def CQ:Em BJ (bP 33 2):=⟨(.cons (.ifS (.cmp .abC (.att (vv 0) _ _) kk _)
(.cons (.never (b7 (bP 33 2) [0,0,0])) .nil) .nil _)
(.cons (.xk (.asg (.one 3 _) (.mc (vv 0) _ _ (e1 (vv 1)) _) _) .nil)
(.cons (.xk (.aug (vv 3) _ _ false (.bi .len _ (e1 (vv 2)) _) _) .nil)
(.cons (.abw (.one 4 _) (vv 2)
(.cons (.xk (.asg (.one 5 _) (.mc (vv 0) _ _ (e1 (vv 4)) _) _) .nil)
(.cons (.xk (.app (.att (vv 5) _ _) _ (.pl (vv 1)) _ _) .nil) .nil)) _) .nil)))),rfl⟩
noncomputable def Gk:List Str:=["self","result","n2i","node"]
noncomputable def yT:Em Gk (bP 33 4):=⟨(.cons (.ifS (.cmp .is (.att (vv 0) _ _) kk _)
(.cons (.never (b7 (bP 33 4) [0,0,0])) .nil) .nil _)
(.cons (ag 1 (.bi .tuple _ (e1 (.att (vv 0) _ _)) _))
(.cons (ag 2 (.att (vv 0) _ _))
(.cons (.abw (.one 3 _) (vv 1)
(.cons (.xk (.set (.idx (vv 2) (vv 3) _) _ _ (.pl (.gv _ _)) _) .nil) .nil) _)
(.cons (.xk (.clr (.att (vv 0) _ _) _ _ _) .nil)
(.cons (.xk (.aug (vv 0) _ _ false (.bi .len _ (e1 (vv 1)) _) _) .nil)
(.cons (.ret (vv 1) _) .nil))))))),rfl⟩
noncomputable def Gu:List Str:=["self"]
noncomputable def Ch:Em Gu (bP 33 5):=⟨(.cons (.ifS (.cmp .is (.att (vv 0) _ _) kk _)
(.cons (.never (b7 (bP 33 5) [0,0,0])) .nil) .nil _)
(.cons (.ret (.or (.cmp .lt (.att (vv 0) _ _) (.att (vv 0) _ _) _) (.bi .bool _ (e1 (.att (vv 0) _ _)) _) _) _) .nil)),rfl⟩
noncomputable def A9:List Str:=["self","nodes","n2i","node","nodeinfo","stat","successor","successor_info"]
noncomputable def AM:Em A9 (bP 33 7):=⟨(.cons (.ifS (.cmp .is (.att (vv 0) _ _) kk _)
(.cons (.never (b7 (bP 33 7) [0,0,0])) .nil) .nil _)
(.cons (ag 2 (.att (vv 0) _ _))
(.cons (.abw (.one 3 _) (vv 1)
(.cons (.xk (.ifN 4 _ (.mth .get (vv 2) _ (e1 (vv 3)) _) _ _ _ _)
(.cons (.never (b7 (bP 33 7) [2,0,0,0,0])) .nil))
(.cons (ag 5 (.att (vv 4) _ _))
(.cons (.ifS (.cmp .ne (vv 5) (.gv _ _) _)
(.cons (.ifS (.cmp .ge (vv 5) kk _)
(.cons (.never (b7 (bP 33 7) [2,0,2,0,0,0,0])) .nil)
(.cons (.ifS (.cmp .eq (vv 5) (.gv _ _) _)
(.cons (.never (b7 (bP 33 7) [2,0,2,0,0,1,0,0,0])) .nil)
(.cons (.abS kk (vr (b7 (bP 33 7) [2,0,2,0,0,1,0,1,0])) _) .nil) _) .nil) _) .nil) .nil _)
(.cons (.xk (.set (vv 4) _ _ (.pl (.gv _ _)) _) .nil)
(.cons (.xk (.ab2 (.one 6 _) (.att (vv 4) _ _) _)
(.cons (ag 7 (.idx (vv 2) (vv 6) _))
(.cons (.xk (.aug (vv 7) _ _ true kk _) .nil)
(.cons (.ifS (.cmp .eq (.att (vv 7) _ _) kk _)
(.cons (.xk (.app (.att (vv 0) _ _) _ (.pl (vv 6)) _ _) .nil) .nil) .nil _) .nil))))
(.cons (.xk (.aug (vv 0) _ _ false kk _) .nil) .nil)))))) _) .nil))),rfl⟩
noncomputable def ee:List Str:=["self","cycle","i"]
noncomputable def o7:Em ee ((bP 33 3).take 3):=⟨(.cons (.ifS (.cmp .abC (.att (vv 0) _ _) kk _)
(.cons (.never (b7 (bP 33 3) [0,0,0])) .nil) .nil _)
(.cons (.xk (.set (vv 0) _ _ (.own (.comp (.att (vv 2) _ _) (.one 2 _) (.mth .values (.att (vv 0) _ _) _ .nil _) (e1 (.cmp .eq (.att (vv 2) _ _) kk _)) [] _ _)) _) .nil)
(.cons (.xk (.asg (.one 1 _) (.mc (vv 0) _ _ .nil _) _) .nil) .nil))),rfl⟩
noncomputable def hZ:List Str:=["self","n2i","stack","itstack","seen","node2stacki","node"]
noncomputable def BW:Em hZ (bP 33 8):=⟨(.cons (ag 1 (.att (vv 0) _ _))
(.cons (.abq 2 _ _ _)
(.cons (.abq 3 _ _ _)
(.cons (.xk (.asg (.one 4 _) (.ab6 _ _) _) .nil)
(.cons (.newD 5 _ _ _)
(.cons (.xk (.ab2 (.one 6 _) (vv 1) _)
(.cons (.ifS (.cmp .isIn (vv 6) (vv 4) _)
(.cons (.cont _) .nil) .nil _)
(.cons (.aby kk
(.cons (.ifS (.cmp .isIn (vv 6) (vv 4) _)
(.cons (.ifS (.cmp .isIn (vv 6) (vv 5) _)
(.cons (.ret (.bin .add (.abp (vv 2) (.idx (vv 5) (vv 6) _) _ _) (.lst (e1 (vv 6)) _) _) _) .nil) .nil _) .nil)
(.cons (.xk (.ab0 (vv 4) _ (vv 6) _ _) .nil)
(.cons (.xk (.app (vv 3) _ (.nxt _ (.att (.idx (vv 1) (vv 6) _) _ _) _ _) _ _) .nil)
(.cons (.abT 5 _ (vv 6) _ (.bi .len _ (e1 (vv 2)) _) _)
(.cons (.app 2 _ _ (vv 6) _ _) .nil)))) _)
(.cons (.ext (b7 (bP 33 8) [5,0,1,0,1]) ["StopIteration"] [2,3,5,6]) .nil)) _) .nil)))
(.cons (.ret kk _) .nil))))))),rfl⟩
noncomputable def jZ:List Str:=["rows","sorter","ringed","needs","sums","pairs","name","rounds","ready","need","key","value"]
noncomputable def uC:Em jZ (aL 43):=⟨(.cons (.ext (b7 (aL 43) [0]) ["TopologicalSorter"] [1,2,3,4])
(.cons (.abw (.one 5 _) (vv 0)
(.cons (ag 6 (.idx (.idx (vv 5) kk _) kk _))
(.cons (.abT 3 _ (vv 6) _ (.comp (vv 11) (.two 10 11 _ _ 0 _) (vv 5) (e1 (.cmp .eq (vv 10) kk _)) [] _ _) _)
(.cons (.abT 4 _ (vv 6) _ (.bi .list _ (e1 (.call _ _ (e1 (.idx (.comp (vv 11) (.two 10 11 _ _ 0 _) (vv 5) (e1 (.cmp .eq (vv 10) kk _)) [] _ _) kk _)) _)) _) _)
(.cons (.xk (.expr (.mcs (vv 1) _ _ (e1 (vv 6)) (.idx (vv 3) (vv 6) _) _ _) _) .nil) .nil)))) _)
(.cons (.ext (b7 (aL 43) [2]) ["CycleError"] [1,2])
(.cons (.abq 7 _ _ _)
(.cons (.xk (.abI (.mc (vv 1) _ _ .nil _) _)
(.cons (.xk (.asg (.one 8 _) (.srt _ (vv 1) _ _ _ _) _) .nil)
(.cons (.abw (.one 6 _) (vv 8)
(.cons (.abw (.one 9 _) (.idx (vv 3) (vv 6) _)
(.cons (.abT 4 _ (vv 6) _ (.call _ _ (e2 (.idx (vv 4) (vv 6) _) (.idx (vv 4) (vv 9) _)) _) _) .nil) _) .nil) _)
(.cons (.xk (.expr (.mcs (vv 1) _ _ .nil (vv 8) _ _) _) .nil)
(.cons (.app 7 _ _ (.comp (.tup (e2 (vv 6) (.idx (vv 4) (vv 6) _)) 0 _) (.one 6 _) (vv 8) .nil [4] _ _) _ _) .nil)))))
(.cons (.ret (.lst (e2 (vv 2) (vv 7)) _) _) .nil)))))),rfl⟩
section
open Builtin Builtin.ObjectAttr
noncomputable def nA(p:Addr×Obj):Bool:=!(p.1==72||p.1==89)
def KN(w:World):Frag:=(KX w).filter nA
def lookup_tab:∀{l:Frag}{a:Addr}{o:Obj},(l.filter nA).lookup a=some o→(a==72||a==89)=false∧l.lookup a=some o:=by
 intro l;induction l with
 |nil=>
  intro _ _ h;cases h
 |cons zx l ihr=>
  obtain⟨b,o'⟩:=zx;intro a o h;rw[Ov] at h;by_cases q:nA (b,o')=true
  ·rw[N1 q,List.lookup_cons] at h;rw[List.lookup_cons];by_cases e:(a==b)=true
   ·rw[e] at h ⊢;have:a=b:=Ol.mp e;subst this;exact⟨by unfold nA at q;simpa using q,h⟩
   ·rw[Bool.not_eq_true] at e;rw[e] at h ⊢;exact ihr h
  ·rw[NY q] at h;refine aU (ihr h) λh1 h2=>⟨h1,?_⟩;rw[List.lookup_cons];by_cases e:(a==b)=true
   ·have:a=b:=Ol.mp e;subst this;exact absurd (by unfold nA;rw[h1];rfl) q
   ·rw[Bool.not_eq_true] at e;rw[e];exact h2
def Laid.kn(L:Laid S)(k:∀b o,¬S.T b→S.base.get? b=some o→h.get? b=some o):(KN S.w).In h:=λa o e=>
 have q:=lookup_tab e
 k a o (L.abe q.1) (L.at q.2)
section
variable{x d c:Addr}{ws:List Value}{es:List DictEntry}{k:Nat}
def eK.strs:∀{fs:List (Str×PV)}{es:List DictEntry},eK g h fs es→es.any (·.refKey)=false:=by
 intro fs;induction fs with
 |nil=>
  intro _ r;rw[show _=[] from r];rfl
 |cons d fs ihr=>
  intro _ r;refine aP r λe r O8 Qe=>?_;obtain rfl:=O8;refine bV Qe λVZ _ q=>?_;obtain⟨t,ht⟩:=VZ;rw[List.any_cons,ihr q,Bool.or_false];unfold DictEntry.refKey;rw[ht]
def eK.look(n:Str):∀{fs:List (Str×PV)}{es:List DictEntry},eK g h fs es→(∀pd,aM n fs=some pd→∃v,getL n es=some (some v)∧abb g h pd v)∧(aM n fs=none→getL n es=some none):=by
 intro fs;induction fs with
 |nil=>
  intro _ r;rw[show _=[] from r];exact⟨nofun,λ_=>rfl⟩
 |cons d fs ihr=>
  intro _ r;have rs:=eK.strs r;refine aP r λe r PI R8=>?_;obtain rfl:=PI;refine bV R8 λV1 a q=>?_;obtain⟨t,ht⟩:=V1;have ih:=ihr q;have hk:e.key.isStr n=(d.1==n):=by rw[ht];rfl
  rw[ey];unfold getL;rw[List.find?_cons,hk];by_cases hq:d.1=n
  ·rw[Ol.mpr hq,N1 hq];exact⟨λpd e=>by cases e;exact ak _ rfl a,nofun⟩
  ·rw[OG hq,NY hq];have Zh:=eK.strs q;refine⟨λpd e=>?_,λe=>?_⟩
   ·refine ay (ih.1 pd e) λv hv r=>?_;unfold getL at hv;dsimp only;rw[rs];rw[Zh] at hv;exact ak v hv r
   ·have:=ih.2 e;unfold getL at this;dsimp only;rw[rs];rw[Zh] at this;exact this
def hO.inst(I:hO S g h x d c ws es k fs):InstAt h x (lj c d ws) c (some (dictOf es k)):=⟨I.o,rfl,rfl,I.d⟩
theorem hO.kn(I:hO S g h x d c ws es k fs)(L:Laid S):(KN S.w).In h:=L.kn λb o t e=>(I.w b o t e).1
end
structure sN(K:Frag)(c:Addr):Prop where
 cd:(clsIn K c).isSome=true
 hga:findIn K (.ref c) "__getattribute__"=some (some (.builtin "object.__getattribute__"))
 hk:findIn K (.ref c) "__getattr__"=some none
 hs:findIn K (.ref c) "__setattr__"=some (some (.builtin "object.__setattr__"))
 po:plainOver K c=true
section
variable(L:Laid S){c:Addr}{n:Str}
include L
def xm(F:sN (KN S.w) c)(hd:hasDictIn (KN S.w) c=true)(hn:findIn (KN S.w) (.ref c) n=some none):vS S c n:=by
 intro A E Q s g x d ws es k fs pd I hl hQ;refine ay ((eK.look n I.f).1 pd hl) λv hv r=>ay (any_some hd) λcd Q0 hd=>get_value (I.kn L) I.inst F.hga ?_ (mz r) (hQ v _ r);unfold findObj;rw[Q0,Option.bind_some,hn,Option.bind_some];show((PySem.W.ownOf cd (some (dictOf es k)) n).bind _)=_;unfold PySem.W.ownOf;rw[hd,N1 rfl];show((lookIn n (dictOf es k)).bind _)=_;rw[lookIn_dict,hv];rfl
def kA{p:Addr}(F:sN (KN S.w) c)(ha:findIn (KN S.w) (.ref c) n=some (some (.ref p)))(hg:specialIn (KN S.w) (.ref p) "__get__"=some (some (.builtin "member_descriptor.__get__")))(ht:takesIn (KN S.w) (.ref p)=some true)(hp:slotIn (KN S.w) p c=some j):Gq S c n j:=by
 intro A E Q s g x d ws es k fs v I hv hh hQ;refine get_bind (I.kn L) I.inst F.hga (findObj_data F.cd ha hg ht) F.hk (wpAny_call (slot_get (v:=v) (s:={s with toks:=s.toks+1}) (I.kn L) I.inst hp ?_ ?_))
 ·show(((ws.map some).toArray)[j]?).join=some v;rw[List.getElem?_toArray,List.getElem?_map,hv];rfl
 ·exact handed_on hh (hQ _)
end
end
section
open Builtin Builtin.ObjectAttr
def eK.put{n:Str}{tk:Tok}{v:Value}(r:abb g h pd v):∀{fs:List (Str×PV)}{es:List DictEntry},eK g h fs es→eK g h (b9 n pd fs) (putL n hs (.str n tk) v es):=by
 intro fs;induction fs with
 |nil=>
  intro _ q;rw[show _=[] from q];exact bL _ [] rfl ⟨tk,rfl⟩ r rfl
 |cons d fs ihr=>
  intro _ q;refine aP q λe es O8 Qe=>?_;obtain rfl:=O8;refine bV Qe λVZ a q=>?_;obtain⟨t,ht⟩:=VZ;have hk:e.key.isStr n=(d.1==n):=by rw[ht];rfl
  rw[lC];unfold putL;rw[hk];by_cases hq:d.1=n
  ·rw[N1 hq,Ol.mpr hq,N1 rfl];exact bL _ es rfl ⟨t,hq▸ht⟩ r q
  ·rw[NY hq,OG hq,NY N'];exact bL e _ rfl ⟨t,ht⟩ a (ihr q)
theorem eK.length:∀{fs:List (Str×PV)}{es:List DictEntry},eK g h fs es→es.length=fs.length:=by
 intro fs;induction fs with
 |nil=>
  intro _ r;rw[show _=[] from r];rfl
 |cons d fs ihr=>
  intro _ r;refine aP r λe r PI R8=>?_;obtain rfl:=PI;refine bV R8 λ_ _ q=>N2 Nat.succ (ihr q)
def z6{n:Str}{k v:Value}:∀es:List DictEntry,(putL n hs k v es).length≤es.length+1:=by
 intro es;induction es with
 |nil=>
  exact Oe _
 |cons e es ihr=>
  unfold putL;split
  ·rw[NR,NR];exact Nat.le_succ _
  ·rw[NR,NR];exact Nat.succ_le_succ (ihr)
section
variable(L:Laid S){c:Addr}{n:Str}
include L
def oF{f:Addr}(F:sN (KN S.w) c)(ha:findIn (KN S.w) (.ref c) n=some (some (.ref f)))(ht:typeIn (KN S.w) (.ref f)=some (.type "function")):nI S c n f:=by
 intro A E P pl s g x d ws es k fs I hl h;refine method_fn (I.kn L) I.inst F.hga F.hk ha ht ?_ h;show(lookIn n (dictOf es k)).map _=_;rw[lookIn_dict,(eK.look n I.f).2 hl];rfl
def tN{f:Addr}(F:sN (KN S.w) c)(hd:hasDictIn (KN S.w) c=true)(ha:findIn (KN S.w) (.ref c) n=some (some (.ref f)))(ht:typeIn (KN S.w) (.ref f)=some (.type "function"))(hg:specialIn (KN S.w) (.ref f) "__get__"=some (some (.builtin "function.__get__")))(hk:takesIn (KN S.w) (.ref f)=some false)(hc:copiedNames.contains n=false):zF S c n f:=by
 intro A E Q s g x d ws es k fs I hl hQ;refine ay (any_some hd) λcd Q0 hd=>get_bind (g:=.builtin "function.__get__") (a:=.ref f) (I.kn L) I.inst F.hga ?_ F.hk (wpAny_call (fn_get (s:={s with toks:=s.toks+1}) (I.kn L) ht (NQ (hQ _))));unfold findObj;rw[Q0,Option.bind_some,ha,Option.bind_some];dsimp only;rw[hg,Option.bind_some];dsimp only;rw[hk,Option.bind_some];dsimp only;unfold PySem.W.ownOf;rw[hd,N1 rfl];dsimp only;rw[lookIn_dict,(eK.look n I.f).2 hl,Option.bind_some];dsimp only;rw[hc,Bool.false_and,NY N']
def yi(F:sN (KN S.w) c)(hd:hasDictIn (KN S.w) c=true)(ht:takerIn (KN S.w) c n=some none):vJ S c n:=by
 intro A E Q s g x d ws es k fs v I hl hQ;have X:=I.kn L;have hI:=I.inst;refine set_plain X hI F.hs (osa_open (s:={s with toks:=s.toks+1}) X hI F.po ht λb=>ay (any_some hd) λcd Q0 hd=>NN (NQ (NN (NN (wpAny_loadPart I.o (NN ((looks_clsIn X Q0).at ?_)))))));rw[hd];refine NQ (a:=some d) (NN (NQ (NN ?_)));unfold nsSet;refine NN (NN (wpAny_askSetting (NQ (NN (wpAny_mkText (NN (wpAny_loadPart I.d ?_)))))));have cc:(!es.toArray.any (·.key.isStr n)&&es.toArray.any (·.refKey))=false:=by
  rw[Array.any_toList.symm,Array.any_toList.symm];show(!_&&es.any (·.refKey))=false;rw[eK.strs I.f,Bool.and_false]
 dsimp only;rw[aRefKeyMayBeTheName_at,cc];refine wpAny_updatePart I.d ?_;have e1:Obj.putName n (PyData.keyHash S.w.params n) (.str n (s.toks+1)) v (dictOf es k)=dictOf (putL n (PyData.keyHash S.w.params n) (.str n (s.toks+1)) v es) (putN n es k):=putName_dict _ _ _ _ _ _;have D':=Heap.get?_update_self (Obj.putName n (PyData.keyHash S.w.params n) (.str n (s.toks+1)) v) I.d (by rw[e1];rfl);have e2:=D';rw[e1] at e2;have OV:es.length≤100:=by rw[eK.length I.f];exact hl
 have hz:(putL n (PyData.keyHash S.w.params n) (.str n (s.toks+1)) v es).length≤101:=NT (z6 es) (Nat.succ_le_succ OV);exact NN (wpAny_lookBehind D' (by rw[e1];exact pastItsLine_dict (by rw[N4,sizeLine_eq];exact NT hz kD)) (NQ (hQ _ _ _ _ (λb o hb e=>(Heap.get?_update_other _ _ (Ne.symm hb)).trans e) e2 λg' hh pd rf rv=>eK.put rv rf)))
def kI{p:Addr}(F:sN (KN S.w) c)(ht:takerIn (KN S.w) c n=some (some (.ref p)))(hT:typeIn (KN S.w) (.ref p)=some (.type "member_descriptor"))(hp:slotIn (KN S.w) p c=some j)(hj:j<100):GP S c n j:=by
 intro A E Q s g x d ws es k fs v I hl hQ;have X:=I.kn L;have hI:=I.inst;refine set_plain X hI F.hs (osa_descr (s:={s with toks:=s.toks+1}) KF.slot_mset X hI F.po ht hT (bh (slot_of X hp) λnn tn owner Rc TB=>bl TB λtb dd sl cd ho Q7=>bD Q7 λhc hm hb Pm=>?_));obtain rfl:=Pm;have L0:=hI.type (M:=model S.prog S.w);have L1:=looks_mroIn (M:=model S.prog S.w) X hm;have L2:Looks (model S.prog S.w) s.heap (Slots.slotNamesOf (.ref c)) cd.slotNames:=(looks_clsIn X hc).andThen .now;have hx:=I.o;have f0:=looks_field (M:=model S.prog S.w) ho 0 (v:=.str nn tn) rfl;have f1:=looks_field (M:=model S.prog S.w) ho 1 (v:=owner) rfl;have f3:=looks_field (M:=model S.prog S.w) ho 3 (v:=.builtin "proto.slot#set") rfl;have f4:=looks_field (M:=model S.prog S.w) ho 4 (v:=.int Rc tb) rfl;have f5:Looks (model S.prog S.w) s.heap (Getset_descriptor.descrItself (.ref p)) [.ref p]:=((Looks.ld (part:=none) ho).andThen .now).andThen (Looks.of_pure kR);obtain⟨hh,gg,dr,t,os⟩:=s;refine codeAny_call_builtin KF.slot_mset.plain KF.entry_mset (KF.slot_mset.check _ _ _ _ _ _ _ _ (ak _ ho rfl) (KF.args_mset _ _ _) ?_);unfold Builtin.«member_descriptor.__set__» Getset_descriptor.descrSet Getset_descriptor.descrStoreThrough Getset_descriptor.descrCheckInstance Getset_descriptor.descrNameAndClass isInstance;repeat lk
 refine⟨Code.quiet_builtin _ kE,codeAny_builtin KF.entry_slotset ?_⟩;unfold Builtin.«proto.slot#set» Slots.target;repeat lk
 rw[NY hb];refine NQ (NN ?_);unfold setSlotAt;dsimp only;rw[NY (by rw[sizeLine_eq];exact ao (az hj))];have eo:∀j,j≤ws.length→{lj c d ws with slots:=((lj c d ws).slots++Array.replicate (j+1-(lj c d ws).slots.size) none).setIfInBounds j (some v)}=lj c d (putAt ws j v):=λj hj=>by
  have e:(((ws.map some).toArray++Array.replicate (j+1-(ws.map some).toArray.size) none).setIfInBounds j (some v))=((putAt ws j v).map some).toArray:=by
   unfold putAt;apply Array.ext';by_cases q:j<ws.length
   ·rw[N1 q];have:j+1-(ws.map some).toArray.size=0:=by rw[N4,NO];exact ad q
    rw[this];simp[List.map_set]
   ·have q':j=ws.length:=Nat.le_antisymm hj (Nat.not_lt.mp q);subst q';have:ws.length+1-(ws.map some).toArray.size=1:=by rw[N4,NO];exact lr (ac (b:=ws.length) (a:=(ws.length+1)) eQ)
    rw[this,NY (Nat.lt_irrefl _)];simp
  show Obj.mk _ _ _ _=Obj.mk _ _ _ _;rw[e]
 refine wpAny_updatePart hx (NQ (hQ _ _ (λb o hb e=>(Heap.get?_update_other _ _ (Ne.symm hb)).trans e) ?_));have:=Heap.get?_update_self (λo=>{o with slots:=(o.slots++Array.replicate (cd.slotNames.length-1-Rc.toNat+1-o.slots.size) none).setIfInBounds (cd.slotNames.length-1-Rc.toNat) (some v)}) hx rfl;rw[eo _ hl] at this;exact this
end
end
section
open Builtin Builtin.ObjectAttr
def iK(w:World):sN (KN w) 194:=⟨kR,kR,kR,kR,kR⟩
def jw(w:World):sN (KN w) 291:=⟨kR,kR,kR,kR,kR⟩
noncomputable def bU:List Str:=["_node2info","_ready_nodes","_npassedout","_nfinished"]
noncomputable def iD(c:Addr)(n:Str):Option Nat:=if c==194 then(if n==("node":Str) then some 0 else if n==("npredecessors":Str) then some 1 else if n==("successors":Str) then some 2 else none) else none
def cu.att(C:cu):cu:={C with ia:=λc n=>c==291&&bU.contains n,sl:=iD,ma:=λ_ _=>false,na:=λ_=>false,fr:=true}
section
variable{m:Nat}
theorem uk{P:Str→Prop}(h:bU.contains y=true)(h1:P "_node2info")(h2:P "_ready_nodes")(h3:P "_npassedout")(h4:P "_nfinished"):P y:=by
 have:=List.contains_iff_mem.mp h;unfold bU at this;simp only[NU,Ou,or_false] at this;rcases this with rfl | rfl | rfl | rfl<;>assumption
theorem ah.att(h:ah S n C)(L:Laid S):ah S n C.att where
 f:=h.f
 x:=h.x
 s:=h.s
 g:=h.g
 bi:=h.bi
 en:=h.en
 sys:=h.sys
 aca:=h.aca
 abV:=h.abV
 ia c y q:=by
  refine aU (Oq.mp q) λq1 q2=>?_;obtain rfl:=Ol.mp q1;have g:∀y,findIn (KN S.w) (.ref 291) y=some none→takerIn (KN S.w) 291 y=some none→vS S 291 y∧vJ S 291 y:=λy e1 e2=>⟨xm L (jw S.w) kR e1,yi L (jw S.w) kR e2⟩;exact uk (P:=λy=>vS S 291 y∧vJ S 291 y) q2 (g _ kR kR) (g _ kR kR) (g _ kR kR) (g _ kR kR)
 sl c y j q':=by
  have q:iD c y=some j:=q';clear q';unfold iD at q;split at q
  ·rename_i hc;obtain rfl:=Ol.mp hc;split at q
   ·rename_i e;cases q;rw[Ol.mp e];exact⟨kA L (p:=195) (iK S.w) kR kR kR kR,kI L (p:=195) (iK S.w) kR kR kR kD⟩
   ·split at q
    ·rename_i e;cases q;rw[Ol.mp e];exact⟨kA L (p:=196) (iK S.w) kR kR kR kR,kI L (p:=196) (iK S.w) kR kR kR kD⟩
    ·split at q
     ·rename_i e;cases q;rw[Ol.mp e];exact⟨kA L (p:=197) (iK S.w) kR kR kR kR,kI L (p:=197) (iK S.w) kR kR kR kD⟩
     ·cases q
  ·cases q
 m _ _ q:=by cases q
 nw _ q:=by cases q
noncomputable def cu.mth(C:cu)(c:Addr)(y:Str)(R:AH→List PV→(PV→AH→Prop)→Prop):cu:=
 {C with ma:=λc' y'=>(c'==c&&y'==y)||C.ma c' y',mt:=λc' y' H ds K=>((c'=c∧y'=y)∧R H ds K)∨(¬(c'=c∧y'=y)∧C.mt c' y' H ds K)}
theorem ah.mth{c:Addr}{of:Obj}{fd:FuncData}(h:ah S n C)(le:n≤m)(nt:¬S.T a)(ho:S.base.get? a=some of)(hd:of.data=.func fd)(h1:nI S c y a)(h2:zF S c y a)(hR:ek S m a R)(P8:C.fr=true):ah S m (C.mth c y R):=
 {h.le le with
  m:=λc' y' q=>by
   by_cases e:c'=c∧y'=y
   ·refine aU e λO8 Pq=>?_;obtain rfl:=O8;obtain rfl:=Pq;exact⟨P8,a,nt,fw of fd ho hd,h1,h2,λr fk w R vs q=>hR r fk w R vs (q.elim (λq=>q.2) λq=>(q.1 ⟨rfl,rfl⟩).elim)⟩
   ·have q:C.ma c' y'=true:=(On.mp q).resolve_left λq=>e ((Oq.mp q).imp Ol.mp Ol.mp);exact⟨P8,((h.le le).m c' y' q).2.imp λa k=>{k with r:=λr fk w R vs q=>k.r r fk w R vs (q.resolve_left λq=>e q.1).2}⟩}
noncomputable def cu.cls(C:cu)(x:Str)(R:AH→List PV→(PV→AH→Prop)→Prop):cu:=
 {C with na:=λy=>y==x||C.na y,nt:=λy H ds K=>(y=x∧R H ds K)∨(y≠x∧C.nt y H ds K)}
theorem ah.cls(h:ah S n C)(le:n≤m)(hg:bC S x (.ref a))(hk:mS S (.ref a))(hR:ek S m a R)(P8:C.fr=true):ah S m (C.cls x R):=
 {h.le le with
  nw:=λy q=>by
   by_cases e:y=x
   ·subst e;exact⟨P8,a,hg,hk,λr fk w R vs q=>hR r fk w R vs (q.elim (λq=>q.2) λq=>(q.1 rfl).elim)⟩
   ·have q:C.na y=true:=(On.mp q).resolve_left λq=>e (Ol.mp q);exact⟨P8,((h.le le).nw y q).2.imp λa k=>{k with r:=λr fk w R vs q=>k.r r fk w R vs (q.resolve_left λq=>e q.1).2}⟩}
def Laid.ab5(L:Laid S)(hk:keepIn (KN S.w) (.ref a)=true):mS S (.ref a):=λh k=>keeps_K hk h (L.kn k)
def FnAt.runM{c:Addr}{T:List Str}(F:FnAt S.w a c T b cd ar)(L:Laid S)(hC:ah S n C)(hX:∀st gs is,XS ⟨S,C,n,T⟩ (.ext st gs is))(hb:Binds S.w a T ar)(P8:C.fr=true)(hR:∀H ds K,R H ds K→ds.length=ar∧abF C b ds H K):ek S (n+1) a R:=by
 intro A E Q s g H vs ds K room fk w R rs hr hQ;refine aU (hR H ds K hr) λhl hf=>?_;have OV:vs.length=ar:=rs.length.trans hl;refine fT (P:=⟨S,C,n,T⟩) (s:=s) (us:=vs) (F.ok _ rfl) hC hX room ⟨λ_=>fk,λh=>(by rw[P8] at h;cases h)⟩ w.W w R (L.abe F.nt) (L.at F.look) rfl (F.qual.elim λt q=>aG c _ (aJ _ t F.code (L.abe F.ntc) (L.at F.abD) rfl q)) ⟨L.abe rfl,L.nolimit⟩ OV F.len
  (BindsTo.of_eq (hb vs OV)) rs hf λv s' g' d' H'' e ev w' R' r=>hQ v s' g' d' H'' e ev w' R' r
def FnAt.acQ{c:Addr}{T:List Str}(F:FnAt S.w a c T b cd (ar+1))(L:Laid S)(hC:ah S n C)(hX:∀st gs is,XS ⟨S,C,n,T⟩ (.ext st gs is))(hb:∀us ps:List Value,us.length=ar→bindArgs (bv S.w a) ⟨us++ps,[]⟩=(newTuple ps>>=λt=>pure ((T.take (ar+1)).zip (us++[t]))))(P8:C.fr=true)(hR:∀H ds K,R H ds K→∃es ps,ds=es++ps∧es.length=ar∧aE ps.length=true∧abF C b (es++[.tup ps]) H K):ek S (n+1) a R:=by
 intro A E Q s g H vs ds K room fk w R rs hr hQ;refine aP (hR H ds K hr) λes ps PI R8=>?_;obtain rfl:=PI;refine bV R8 λhl WU hf=>?_;have k:∀b o,s.heap.get? b=some o→(s.heap.push (dX (vs.drop ar) 0)).get? b=some o:=λb o e=>NS _ e;have r1:aD g s.heap es (vs.take ar):=by have:=rs.take es.length;rw[List.take_left' rfl,hl] at this;exact this
 have r2:aD g s.heap ps (vs.drop ar):=by have:=rs.drop es.length;rw[List.drop_left' rfl,hl] at this;exact this
 have ht:=abb.newTuple w.T r2;have w':Wl S g {s with heap:=s.heap.push (dX (vs.drop ar) 0)}:=⟨λb z=>(w.T b z).imp λo=>k b o,w.W.over .push,w.I.over (λb o z e=>⟨z,k b o e⟩) λb o _ e=>k b o e,w.tp,w.tz⟩;have R':bG S g H (s.heap.push (dX (vs.drop ar) 0)):=R.over .push rfl (λ_ q=>q) λc o _ e=>k c o e;have OV:(vs.take ar++[Value.ref s.heap.objs.size]).length=ar+1:=by
  have:=r1.length;rw[NP,this,hl];rfl
 refine fT (P:=⟨S,C,n,T⟩) (s:={s with heap:=s.heap.push (dX (vs.drop ar) 0)}) (us:=vs.take ar++[.ref s.heap.objs.size]) (F.ok _ rfl) hC hX room ⟨λ_=>fk.imp λl q=>⟨q.1,λenv he=>(q.2 env he).imp id λq=>q.imp λb=>.imp λo q=>⟨q.1,k b o q.2.1,q.2.2⟩⟩,λh=>(by rw[P8] at h;cases h)⟩ w.W w' R' (L.abe F.nt) (L.at F.look) rfl (F.qual.elim λt q=>aG c _ (aJ _ t F.code (L.abe F.ntc) (L.at F.abD) rfl q)) ⟨L.abe rfl,L.nolimit⟩ OV F.len
  ?_ (aD.append (.one ht) (r1.over .push)) hf λv s' g' d' H'' e ev w' R' r=>?_
 ·intro M A E Q hq;have:=hb (vs.take ar) (vs.drop ar) (r1.length.trans hl);rw[List.take_append_drop] at this;rw[this];refine NN (wpAny_newTuple (NQ ?_) ?_)
  ·rw[OV] at hq;exact hq
  ·rw[r2.length];exact aO WU
 ·refine hQ v s' g' d' H'' e ⟨ce ev.same λh tk P2=>?_,λb o nw nt f e=>ev.abc b o nw nt f (k b o e),λb o nw nt f e=>ev.slot b o nw nt f (k b o e),ev.z,λb e z=>ev.zn b (e.imp λo=>k b o) z,λb e q=>ev.wn b (e.imp λo=>k b o) q,ev.ad,λb e=>ev.ex b (e.imp λo=>k b o)⟩ w' R' r;obtain rfl:=P2;exact aG h tk rfl
end
end
section
def mA.trans{A:Around}(a:mA S A g s g' s')(b:mA S A g' s' Ud s''):mA S A g s Ud s'':=by
 refine⟨ce a.same λh t Pt=>?_,λx o w t f e=>b.abc x o (λq=>w (a.wn x ⟨o,e⟩ q)) t f (a.abc x o w t f e),λx o w t f e=>(a.slot x o w t f e).elim λsl q=>b.slot x {o with slots:=sl} (λq=>w (a.wn x ⟨o,e⟩ q)) t f q,λx q=>b.z x (a.z x q),λx e q=>a.zn x e (b.zn x (a.ex x e) q),λx e q=>a.wn x e (b.wn x (a.ex x e) q),λi x e=>b.ad i x (a.ad i x e),λx e=>b.ex x (a.ex x e)⟩;obtain rfl:=Pt;refine ce b.same λh' t' O8=>?_;obtain rfl:=O8;exact aG h' t' rfl
def mA.to{A:Around}(m:mA S A g s g' s')(h:A.frames=B.frames):mA S B g s g' s':=
 have e:∀b,gR A b↔gR B b:=λb=>by unfold gR;rw[h]
 ⟨m.same,λb o w t f q=>m.abc b o w t (λf'=>f ((e b).mp f')) q,λb o w t f q=>m.slot b o w t ((e b).mpr f) q,m.z,m.zn,m.wn,m.ad,m.ex⟩
def vQ{c fI:Addr}(L:Laid S)(hm:makesIn (KN S.w) c=true)(hi:findIn (KN S.w) (.ref c) "__init__"=some (some (.ref fI)))(hf:typeIn (KN S.w) (.ref fI)=some (.type "function")){Tm:AH→List PV→(PV→AH→Prop)→Prop}(hI:ek S n fI Tm)(hR:∀H ds K,R H ds K→Tm (H++[.inst c [] []]) (.obj H.length::ds) (λd H'=>d=.none∧K (.obj H.length) H')):ek S (n+1) c R:=by
 intro A E Q s g H vs ds K room fk w R rs hr hQ;have hr:=hR H ds K hr;obtain⟨h,gs,dr,tk,os⟩:=s;have kn:(KN S.w).In h:=L.kn λb o t e=>(w.W b o t e).1;refine make_core (makes_of kn hm) (looks_findIn kn hi) (λself=>bind_fn kn self hf) (.inl rfl) ?_;generalize hI0:h.objs.size=I;have eD:((h.push emptyDict).push (instObj c I)).get? I=some emptyDict:=hI0▸NS _ (NZ _ rfl);have eX:((h.push emptyDict).push (instObj c I)).get? (I+1)=some (instObj c I):=by
  have:=NZ (h.push emptyDict) (o:=instObj c I) rfl;rw[Heap.size_push,hI0] at this;exact this
 have up:∀b o,h.get? b=some o→((h.push emptyDict).push (instObj c I)).get? b=some o:=λb o e=>NS _ (NS _ e);have fD:h.get? I=none:=hI0▸be h;have fX:h.get? (I+1)=none:=Heap.get?_none_of_le (by rw[hI0];exact Nat.le_succ _);have hN:∀x,(x=I+1∨x=I)→h.get? x=none:=λx e=>by rcases e with rfl | rfl;exact fX;exact fD
 have ov:=kq (g:=g) (p:=(I+1,I)) hN up;have R':bG S (g.grow (λx=>x=I+1∨x=I) (I+1,I)) (H++[.inst c [] []]) ((h.push emptyDict).push (instObj c I)):=
  R.grow (λi q e=>(R.w e).imp (λz=>w.T _ (g.sub _ z)) λz=>w.T _ (g.sub _ z)) hN up fX fD (aS (.inr (.inl rfl)) (.inr (.inr rfl)) (Nat.succ_ne_self I) (aH [] 0 [] eX eD rfl rfl))
 have w':Wl S (g.grow (λx=>x=I+1∨x=I) (I+1,I)) ⟨(h.push emptyDict).push (instObj c I),gs,dr,tk,os⟩:=
  ⟨λx hx=>hx.elim (λhx=>(w.T x hx).imp λo=>up x o) λe=>by rcases e with rfl | rfl;exact⟨_,eX⟩;exact⟨_,eD⟩,w.W.over ov,w.I.over ov.obj λb o _ e=>up b o e,w.tp,
   λb t=>⟨.inl (w.tz b t).1,λq=>q.elim (w.tz b t).2 λq=>c8 (by refine ay t λk m Pq=>?_;obtain rfl:=Pq;refine ay (w.I k m) λps q _=>⟨_,q⟩) (hN b q)⟩⟩
 have mv:mA S A g ⟨h,gs,dr,tk,os⟩ (g.grow (λx=>x=I+1∨x=I) (I+1,I)) ⟨(h.push emptyDict).push (instObj c I),gs,dr,tk,os⟩:=
  ⟨aG _ _ rfl,λb o _ _ _ e=>up b o e,λb o _ _ _ e=>⟨o.slots,up b o e⟩,λb q=>.inl q,λb e q=>q.elim id λq=>c8 e (hN b q),λb e q=>q.elim id λq=>c8 e (hN b q),ov.ad,λb e=>e.imp λo=>up b o⟩
 have ro:abb (g.grow (λx=>x=I+1∨x=I) (I+1,I)) ((h.push emptyDict).push (instObj c I)) (.obj H.length) (.ref (I+1)):=by
  refine ak (I+1,I) rfl ?_;show(g.ad++[_])[H.length]?=_;rw[R.len.symm];simp
 have YD:(A.under (.builtin "type.__call__" ⟨.ref c::vs,[]⟩)).frames=A.frames:=by
  show pushEnvs [] A.frames=_;rw[pushEnvs_eq];cases A.frames<;>rfl
 have YB:GK (g.grow (λx=>x=I+1∨x=I) (I+1,I)) (A.under (.builtin "type.__call__" ⟨.ref c::vs,[]⟩)) ((h.push emptyDict).push (instObj c I)):=by
  refine ay fk λl hl q=>ak l (YD.trans hl) (λenv he=>(q env he).imp id λq=>q.imp λb=>.imp λo q=>bY q.1 (up b o q.2.1) q.2.2.1 (.inl q.2.2.2.1) (λz=>z.elim q.2.2.2.2 λz=>c8 ⟨o,q.2.1⟩ (hN b z)))
 have VR:fF (A.under (.builtin "type.__call__" ⟨.ref c::vs,[]⟩)) n:=⟨room.handled,by
  have:=room.depth;show A.depth+1+n<recursionLimit;exact a8 this,by
  have:=room.units;show A.units+1+3*n+200<cLine;exact a8 this⟩
 refine codeAny_mono (hI (Q:=λv s'=>v=.none∧Q (.ref (I+1)) s') (E:=E) VR YB w' R' (vs:=.ref (I+1)::vs) (ds:=.obj H.length::ds) (aN _ _ rfl ro (rs.over ov)) hr λv s' g' d H' hk Y9 w'' Zo r=>?_) λr s' q=>?_
 ·obtain⟨rfl,hk⟩:=hk;have:v=.none:=r;exact⟨this,hQ _ s' g' _ H' hk (mv.trans (Y9.to YD)) w'' Zo (ro.over (Y9.over w'.tz λb ⟨l,hl,env,he,hf⟩=>by
   refine ay YB λl' RG q=>?_;rw[hl] at RG;cases RG;refine aU (q env he) λ_ R6=>cA R6 λb' o h1 _ QI=>bV QI λ_ h4 _=>?_;rw[hf] at h1;cases h1;exact h4))⟩
 ·rcases r with e | (v | _ | _ | _)<;>exact q
end
section
def HF(w:World):FnAt w 190 189 Gx CK.1 none 2:=.ofB (bd:=bP 31 1) CK.2
def GX(w:World):FnAt w 227 226 Af BL.1 none 2:=.ofB (bd:=bP 33 0) BL.2
def Az(w:World):FnAt w 234 233 GA BZ.1 none 2:=.ofB (bd:=bP 33 1) BZ.2
def zH(w:World):FnAt w 241 240 BJ CQ.1 none 3:=.ofB (bd:=bP 33 2) CQ.2
def zq(w:World):FnAt w 253 252 Gk yT.1 none 1:=.ofB (bd:=bP 33 4) yT.2
def zr(w:World):FnAt w 260 259 Gu Ch.1 none 1:=.ofB (bd:=bP 33 5) Ch.2
def y8(w:World):FnAt w 274 273 A9 AM.1 none 2:=.ofB (bd:=bP 33 7) AM.2
def Cz(w:World):FnAt w 281 280 hZ BW.1 none 1:=.ofB (bd:=bP 33 8) BW.2
def J8(w:World):FnAt w 346 345 jZ uC.1 none 1:=.ofB (bd:=aL 43) uC.2
structure MethAt(w:World)(y:Str)(a:Addr):Prop where
 f:findIn (KN w) (.ref 291) y=some (some (.ref a))
 t:typeIn (KN w) (.ref a)=some (.type "function")
 g:specialIn (KN w) (.ref a) "__get__"=some (some (.builtin "function.__get__"))
 k:takesIn (KN w) (.ref a)=some false
 c:copiedNames.contains y=false
def G8(w:World):MethAt w "_get_nodeinfo" 234:=⟨kR,kR,kR,kR,kR⟩
def HE(w:World):MethAt w "add" 241:=⟨kR,kR,kR,kR,kR⟩
def Jm(w:World):MethAt w "prepare" 246:=⟨kR,kR,kR,kR,kR⟩
def Iq(w:World):MethAt w "get_ready" 253:=⟨kR,kR,kR,kR,kR⟩
def IC(w:World):MethAt w "is_active" 260:=⟨kR,kR,kR,kR,kR⟩
def IV(w:World):MethAt w "done" 274:=⟨kR,kR,kR,kR,kR⟩
def IN(w:World):MethAt w "_find_cycle" 281:=⟨kR,kR,kR,kR,kR⟩
def ID(w:World)(us ps:List Value)(h:us.length=2):bindArgs (bv w 241) ⟨us++ps,[]⟩=(newTuple ps>>=λt=>pure ((BJ.take 3).zip (us++[t]))):=by
 refine uh h λu v=>?_;cases ps<;>kernel_rfl
def HZ(w:World)(us ps:List Value)(h:us.length=1):bindArgs (bv w 274) ⟨us++ps,[]⟩=(newTuple ps>>=λt=>pure ((A9.take 2).zip (us++[t]))):=by
 refine qv h λu=>?_;cases ps<;>kernel_rfl
def HS(w:World)(v:Value):∃k:Option (Array Value)→Sem (List (Str×Value)),bindArgs (bv w 227) ⟨[v],[]⟩=seqItems? (.ref 220)>>=k∧k (some #[.none])=pure ((Af.take 2).zip [v,.none]):=ak _ rfl kR
def HQ(w:World):(bv w 227).defaults=.ref 220:=kR
def HD(w:World):(KX w).lookup 220=some (dX [.none] 0):=kR
section
variable{m:Nat}
def ah.acb(h:ah S n C)(le:n≤m)(L:Laid S){c:Addr}{T:List Str}(F:FnAt S.w a c T b cd ar)(M:MethAt S.w y a)(hR:ek S m a R)(P8:C.fr=true):ah S m (C.mth 291 y R):=
 h.mth le (L.abe F.nt) (L.at F.look) rfl (oF L (jw S.w) M.f M.t) (tN L (jw S.w) kR M.f M.t M.g M.k M.c) hR P8
def FnAt.ac0{c:Addr}{T:List Str}(F:FnAt S.w a c T b cd 2)(L:Laid S)(hC:ah S n C)(hX:∀st gs is,XS ⟨S,C,n,T⟩ (.ext st gs is))(hd:(bv S.w a).defaults=.ref D)(nD:(D==72||D==89)=false)(hD:(KX S.w).lookup D=some (dX [.none] 0))(hb:∀v,∃k:Option (Array Value)→Sem (List (Str×Value)),bindArgs (bv S.w a) ⟨[v],[]⟩=seqItems? (.ref D)>>=k∧k (some #[.none])=pure ((T.take 2).zip [v,.none]))(P8:C.fr=true)(hR:∀H ds K,R H ds K→∃d,ds=[d]∧abF C b [d,.none] H K):ek S (n+1) a R:=by
 intro A E Q s g H vs ds K room fk w R rs hr hQ;refine ay (hR H ds K hr) λd O8 hf=>?_;obtain rfl:=O8;refine aP rs λv vs' PA QW=>?_;obtain rfl:=PA;refine aU QW λr PI=>?_;obtain rfl:=PI;refine ay (hb v) λk k1 k2=>?_;exact fT (P:=⟨S,C,n,T⟩) (s:=s) (us:=[v,.none]) (F.ok _ rfl) hC hX room ⟨λ_=>fk,λh=>(by rw[P8] at h;cases h)⟩ w.W w R (L.abe F.nt) (L.at F.look) rfl (F.qual.elim λt q=>aG c _ (aJ _ t F.code (L.abe F.ntc) (L.at F.abD) rfl q)) ⟨L.abe rfl,L.nolimit⟩ rfl F.len
  (BindsTo.of_defaults hd (w.W D _ (L.abe nD) (L.at hD)).1 rfl (by rw[hd];exact k1) k2) (ds:=[d,.none]) (aN _ _ rfl r (aN _ _ rfl rfl rfl)) hf λv s' g' d' H'' e ev w' R' r=>hQ v s' g' d' H'' e ev w' R' r
end
end
structure Mh where
 bm:List Value
 N:Addr
 nm:Str
 q:Str
 bs:List Value
 hd:Bool
 sn:List Str
 sub:List Value
 ab:Bool
 col:Option Bool
 dd:Option Addr
 k0:Option Value
 k1:Option Value
 k2:Option Value
 k3:Option Value
 k5:Option Value
 m:Str→Option Value
noncomputable def Mh.o(x:Mh)(C:Addr)(SL:String):Obj:=excClassObj x.nm x.q C x.N x.bs x.bm x.hd x.sn x.sub x.ab x.col x.dd x.k0 x.k1 x.k2 x.k3 x.k5 SL
structure Mw(h:Heap)(C:Addr)(Zr:List Value)(SL:String)(x:Mh):Prop where
 o:h.get? C=some (x.o C SL)
 ns:h.Ns x.N x.m
 ni:x.m "__init__"=none
 tl:OwnTail h Zr x.bm
noncomputable abbrev Lx:List Value:=[.type "ValueError",.type "Exception",.type "BaseException",.type "object"]
def Dq(w:World):∃x:Mh,x.N=208∧(KN w).lookup 209=some (x.o 209 "ValueError.__new__")∧tailIn (KN w) Lx x.bm=true:=aV ⟨_,208,_,_,_,_,_,_,_,_,_,_,_,_,_,_,λ_=>none⟩ rfl rfl kR
def zt(w:World):nsOkIn (KN w) 208=true:=kR
def Ht(w:World):nsIn (KN w) 208 "__init__"=some none:=kR
def CM{w:World}(X:(KN w).In Qb):∃x,Mw Qb 209 Lx "ValueError.__new__" x:=by
 refine c9 (Dq w) λx hN ho ht=>?_;obtain⟨bm,N,nm,q,bs,hd,sn,sub,ab,col,dd,k0,k1,k2,k3,k5,m⟩:=x;cases hN;exact⟨⟨bm,208,nm,q,bs,hd,sn,sub,ab,col,dd,k0,k1,k2,k3,k5,Qb.nsMap 208⟩,X _ _ ho,.of_isNs (isNs_of_in X (zt w)),nsMap_none_of_in X (zt w) (Ht w),tail_of_in X ht⟩
set_option backward.match.sparseCases true in
def pZ(m:List Stmt):∀l:List Stmt,execs (l++m) env=(execs l env>>=λf=>match f with | .next=>execs m env | f=>pure f):=by
 intro l;induction l with
 |nil=>
  exact rfl
 |cons s l ihr=>
  show(exec s env>>=λf=>match f with | .next=>execs (l++m) env | f=>pure f)=((exec s env>>=λf=>match f with | .next=>execs l env | f=>pure f)>>=_);rw[bind_assoc];congr 1;funext f;cases f with
  |next=>exact ihr
  |_=>rfl
structure wx(w:World)(a c:Addr)(T:List Str)(b:MB)(bd:List Stmt)(cd:Option (Addr×Str))(ar:Nat):Prop where
 nt:(a==72||a==89)=false
 ntc:(c==72||c==89)=false
 look:(KX w).lookup a=some {cls:=.type "function",data:=.func (bv w a)}
 abD:(KX w).lookup c=some {cls:=.type "code",data:=.fields (oz w c)}
 code:(bv w a).code=.ref c
 qual:∃t,(oz w c)[1]?=some (.str (bv w a).qualname t)
 len:ar≤T.length
 base:∀P:Pk,P.T=T→FnBase P (bv w a) cd ar
 ok:sS T b (bv w a).scope.names cd=true
 body:(bv w a).body=.stmts bd
def wx.ofB{w:World}{c:Addr}{T:List Str}(h1:(KX w).lookup a=some {cls:=.type "function",data:=.func (bv w a)})(h2:(KX w).lookup c=some {cls:=.type "code",data:=.fields (oz w c)})(h3:lE (bv w a).body=some bd)(h4:Aw w a c T b cd ar=true):wx w a c T b bd cd ar:=
 have h:(pO w a c T b cd ar).all id=true:=h4
 ⟨pu (bZ h 0 rfl),pu (bZ h 1 rfl),h1,h2,lY (bZ h 2 rfl),oW (bZ h 3 rfl),NV (bZ h 4 rfl),pb h,bZ h 12 rfl,mO h3⟩
def Br(w:World):wx w 246 245 ee o7.1 (bP 33 3) none 1:=.ofB kR kR kR kR
def BG(w:World)(v:Value):bindArgs (bv w 246) ⟨[v],[]⟩=pure ((ee.take 1).zip [v]):=kR
set_option backward.match.sparseCases true in
def Bm{w:World}{A:Around}{o:Obj}{fd:FuncData}{body:List Stmt}(hroom:A.depth<recursionLimit)(ho:O5.heap.get? a=some o)(hdata:o.data=.func fd)(P4:s.heap.NoLimit)(Q0:O5.heap.CodeRec fd.code fd.qualname)(hbody:fd.body=.stmts body)(hbind:lD O5 s fd ⟨QD,kw⟩ binds)(hclo:fd.closure=[])(hkind:∀x∈binds,fd.scope.names.lookup x.1=some .local∨(fd.scope.names.lookup x.1=some .cell∧((cellsFrom (s.heap.objs.size+1) fd.scope.names []).lookup x.1).isSome=true))(hco:fd.scope.isCoroutine=false)(hgen:fd.scope.isGenerator=false)(hk:fd.scope.kind=.function)(tp:0<s.toks)(h:∀OP,0<OP.toks→InCallC s (callEnvC fd s.heap.objs.size a).locals (bindL (callEnvC fd s.heap.objs.size a).kindOf binds λ_=>none) (callEnvC fd s.heap.objs.size a).cells
    (bindC (callEnvC fd s.heap.objs.size a).kindOf binds λ_=>none) OP →
   wpAny (model prog w) (A.deeper (callEnvC fd s.heap.objs.size a)) (execs body (callEnvC fd s.heap.objs.size a)) (λf s'=>Q (match f with | .ret v=>v | _=>.none) s')
    (λe s'=>wpAny (model prog w) (A.deeper (callEnvC fd s.heap.objs.size a)) (leaving (callEnvC fd s.heap.objs.size a) e) (λ_ s''=>E e s'') (λe' s''=>E e' s'') s') OP):
  codeAny (model prog w) A (.call (.ref a) ⟨QD,kw⟩) (wants Q E) O5:=by
 refine codeAny_call_function hroom ho hdata hco hgen hbody Q0 (hbind _ _ _ _ ?_);rw[hclo];refine aW tp (wpAny_newFunctionEnv_cells hk hkind λenv he s' x Tj=>?_);subst he;exact⟨P4.keeps x.toInCall.keep,codeAny_func (h s' Tj x)⟩
structure DJ(S:Cx)(A:Around)(g:Gh)(s:Shared)(Ke:AH→Prop)(e:Addr)(OR:Shared)(hp:Heap)(A':Around)(l:List Env)(base:Heap)(a0:Value):Prop where
 fr:A.frames=some l
 up:∀b,gR A b→gR A' b
 ba:∀b o,¬gR A' b→OR.heap.get? b=some o→base.get? b=some o
 no:lb A' e OR.heap hp
 fl:Heap.FlyingW base l e (.ref 209) a0 hp
 post:∀h5,lb A' e OR.heap h5→∃g' H',Ke H'∧mA S A g s g' {OR with heap:=h5}∧Wl S g' {OR with heap:=h5}∧bG S g' H' h5
def Ac(S:Cx)(A:Around)(g:Gh)(s:Shared)(Ke:AH→Prop)(e:Addr)(s':Shared):Prop:=
 ∃(OR:Shared)(hp:Heap)(A':Around)(l:List Env)(base:Heap)(a0:Value),s'={OR with heap:=hp}∧DJ S A g s Ke e OR hp A' l base a0
section
noncomputable def r0(S:Cx):Heap:=hideAll S.base [72,89]
def M8(L:Laid S):S.T 72:=ak gM (by rw[L.tabs];exact .head _) rfl
def MN(L:Laid S):S.T 89:=ak eL (by rw[L.tabs];exact .tail _ (.head _)) rfl
def rA(L:Laid S):∀b o,¬S.T b→S.base.get? b=some o→(r0 S).get? b=some o:=λb o t e=>hideAll_get _ e λm=>by
 simp only[NU,Ou,or_false] at m;rcases m with rfl | rfl
 ·exact t (M8 L)
 ·exact t (MN L)
def oO(L:Laid S){b:Addr}{o:Obj}(e:(r0 S).get? b=some o):¬S.T b∧S.base.get? b=some o:=by
 refine⟨L.abe ?_,of_hideAll _ e⟩;by_cases h:b=72
 ·rw[h] at e;have:(r0 S).get? 72=none:=hideAll_none _ (.head _);rw[this] at e;cases e
 ·by_cases h':b=89
  ·rw[h'] at e;have:(r0 S).get? 89=none:=hideAll_none _ (.tail _ (.head _));rw[this] at e;cases e
  ·rw[OG h,OG h'];rfl
def xR:∃(tx:Str)(k:Nat)(p1 p2 p3 p4 p5 p6 p7 p8:Pos),bP 33 3=iY ee o7.1++[.If (.Name (nm ee 1) p1) [.Raise (some (.Call (.Name ("CycleError":Str) p2) [.JoinedStr [aX ee (.c (.str tx) k p3)] p4,aX ee (.v 1 p5)] [] p6)) none p7] [] p8]:=aG _ _ (aG _ _ (aG _ _ (aG _ _ (aG _ _ rfl))))
set_option maxHeartbeats 1000000 in
theorem CU{a:Addr}(F:wx S.w a ca ee o7.1 (bP 33 3) none 1)(Ug:∀v,bindArgs (bv S.w a) ⟨[v],[]⟩=pure ((ee.take 1).zip [v]))(L:Laid S)(hC:ah S n C)(hX:∀st gs is,XS ⟨S,C,n,ee⟩ (.ext st gs is))(P8:C.fr=true)(ZY:(bv S.w a).scope.names.lookup ("CycleError":Str)=some NameKind.globalImplicit)(WJ:bC S "CycleError" (.ref 209)){A:Around}{s:Shared}{g:Gh}{H:AH}{v:Value}(room:fF A (n+1))(fk:GK g A s.heap)(w:Wl S g s)(R:bG S g H s.heap)(r:abb g s.heap d v)(Kn Ke:AH→Prop)(hf:xb C o7.1 (λi=>[d][i]?) H λfl l' H'=>match fl with | .next=>(l' 1=some .none∧Kn H')∨(∃c,c≠[]∧aE c.length=true∧l' 1=some (.lst c)∧Ke H') | _=>False)(hQ:∀s' g' H',Kn H'→mA S A g s g' s'→Wl S g' s'→bG S g' H' s'.heap→Q .none s')(hE:∀e s',Ac S A g s Ke e s'→E (.ref e) s'):
  codeAny S.M A (.call (.ref a) ⟨[v],[]⟩) (wants Q E) s:=by
 refine a9 (CM (L.kn (rA L))) λx xc=>?_
 let P:Pk:=⟨S,C,n,ee⟩
 let Pb:Env:=callEnvC (bv S.w a) s.heap.objs.size a
 let A₁:Around:=A.deeper Pb
 let X₁:Rt:=gk g H (bv S.w a) none s.heap.objs.size a [d] A
 have FB:=F.base P rfl;have P4:¬S.T cStatics∧S.base.NoLimit:=⟨L.abe rfl,L.nolimit⟩;have lW:∀x∈(ee.take 1).zip [v],x.1∈ee.take 1:=λx hx=>(List.of_mem_zip hx).1;refine Bm (prog:=S.prog) (w:=S.w) (fd:=bv S.w a) (body:=bP 33 3) (O5:=s) (s:=s) (o:={cls:=.type "function",data:=.func (bv S.w a)}) (binds:=(ee.take 1).zip [v]) (Nat.lt_of_le_of_lt (Nat.le_add_right _ _) room.depth) (w.W _ _ (L.abe F.nt) (L.at F.look)).1 rfl (P4.2.imp λmc q=>⟨fh q.1 λo e=>(w.W _ o P4.1 e).1,q.2⟩) ?_ F.body (BindsTo.of_eq (Ug v)) FB.closure (λx hx=>(mQ FB _ (lW x hx)).imp id λq=>⟨q,c7 q⟩) FB.co FB.gen FB.kind w.tp λOP QB ic=>?_
 ·exact a9 F.qual λt q=>aG ca _ (bL _ t F.code ((w.W _ _ (L.abe F.ntc) (L.at F.abD)).1) rfl q)
 refine bh xR λtx k p1 p2 QV=>bh QV λp3 p4 p5 p6 R3=>ce R3 λp7 p8 hb=>?_;rw[hb,pZ];refine nX λQ' E' q' e'=>?_;have OS:=j3 (P:=P) (H:=H) (ds:=[d]) (A:=A) (us:=[v]) FB w R rfl F.len (aD.one r) ⟨λ_=>fk,λh=>(by rw[P8] at h;cases h)⟩ QB ic;have Tk:=vX (P:=P) (H:=H) (ds:=[d]) (A:=A) (g:=g) (s:=s) (a:=a) FB room;have OZ:ee.Nodup:=FB.nodup;refine NN (qS OZ hC hX o7.1 X₁ OP _ _ _ Tk F.ok OS hf λf fl OR Pp l₂ Pd hk OW PZ U9=>?_);cases fl with
 |brk=>exact hk.elim
 |cont=>exact hk.elim
 |ret d=>exact hk.elim
 |next=>
  cases U9;refine nX λWv Wm Rs O2=>wpAny_execs_cons (wpAny_If (nX λWw Wn Rv Pi=>?_))
  let X₂:Rt:={X₁ with g:=Pp,l:=l₂,H:=Pd}
  have PG:In n X₂:=Tk.to;have OW:Ok P X₂ OR:=OW;have PZ:Ev P X₁ OP Pp OR:=PZ;have U0:=(aR (P:=P) OZ hC (.v 1 p1)).2;rcases hk with ⟨h1,hn⟩ | ⟨c,hc,hfc,h1,he⟩
  ·refine U0 X₂ OR (λd=>d=.none) _ _ PG rfl OW.toAt (aQ h1 rfl) λd hd=>?_;subst hd;refine ak false rfl (λOX O3=>?_);have O6:=OW.kp O3;exact Rv _ _ (wpAny_execs_nil (wpAny_execs_nil (Rs _ _ (q' _ _ (hQ OX Pp Pd hn (fS ic (PZ.trans (l:=l₂) (H:=Pd) (Ev.kp (X:=X₂) O3))) O6.toAt.wl O6.R)))))
  ·refine U0 X₂ OR (λd=>d=.lst c) _ _ PG rfl OW.toAt (aQ h1 rfl) λd hd=>?_;subst hd;refine ak true (by
    show(if aE c.length=true then some (!c.isEmpty) else none)=_;rw[hfc];cases c
    ·exact absurd rfl hc
    ·rfl) (λOX O3=>?_)
   have O6:=OW.kp O3;have Qn:=PZ.trans (l:=l₂) (H:=Pd) (Ev.kp (X:=X₂) O3);refine Rv _ _ ?_;rw[N1 rfl];refine nX λWx Wo VQ Pg=>?_;have bt:∀{s':Shared},Ok P X₂ s'→∀b o,(r0 S).get? b=some o→s'.heap.get? b=some o:=λO b o e=>have q:=oO L e;(O.W b o q.1 q.2).1;refine wpAny_execs_cons (wpAny_Raise_call_subT (C:=209) (nm:=x.nm) (q:=x.q) (N:=x.N) (bs:=x.bs) (bm:=x.bm) (hdct:=x.hd) (sn:=x.sn) (sub:=x.sub) (ab:=x.ab) (col:=x.col) (dd:=x.dd) (k0:=x.k0) (k1:=x.k1) (k2:=x.k2) (k3:=x.k3) (k5:=x.k5)
    PySem.F.excBase_ValueError (mN:=x.m) (xc.tl.hasType PySem.F.excBase_ValueError.hasBase) room.handled rfl xc.ni ?_)
   refine Name_function_global PG.kind (PG.glob _ ZY) (WJ PG.globals PG.builtins (λb o t e=>(O6.W b o t e).1) ⟨rfl,bo rfl ?_⟩) kD;show wpAny S.M A₁ (spliced ((false,eval (aX ee (.c (.str tx) k p3)) Pb)::(false,eval (aX ee (.v 1 p5)) Pb)::[])) _ _ OX;refine spliced_cons ((aR (P:=P) OZ hC (.c (.str tx) k p3)).1 X₂ OX (λ_=>True) _ _ PG rfl O6.toAt (aQ rfl trivial) λaaS O0 Zy _ Pn Qs=>?_);have Pe:=O6.kp Pn;refine spliced_cons ((aR (P:=P) OZ hC (.v 1 p5)).1 X₂ O0 (λ_=>True) _ _ PG rfl Pe.toAt (aQ h1 trivial) λaaT QA Zz _ Qz aaK=>spliced_nil ?_);have PL:=Pe.kp Qz;have PD:=Qn.trans (l:=l₂) (H:=Pd) (Ev.kp (X:=X₂) (Pn.trans Qz));refine bY rfl (by show 2≤sizeLine;decide +kernel) (bt PL _ _ xc.o) (xc.ns.keeps (bt PL)) ⟨(xc.tl.keeps (bt PL)),(λh' e hm=>ay (id fk) λl WZ _=>?_)⟩;have Sy:A₁.frames=some (Pb::l):=by show A.frames.map _=_;rw[WZ];rfl
   have PH:∀b,(∃o,QA.heap.get? b=some o)→b≠e:=λb hb q=>c8 hb (q▸hm.new);refine Pg _ _ (O2 _ _ (e' _ _ ?_));refine wpAny_leaves_madeW (base:=hideAll QA.heap ((Pb::l).filterMap (·.frame))) Sy rfl (λb o q=>of_hideAll _ q)
    (lf ((PL.fr.1 P8).frames Sy) λenv he b hb=>hideAll_none _ (List.mem_filterMap.mpr (ak env he hb))) hm λh'' t hF aat hbt Xj=>hE e _ ⟨QA,_,A₁,l,_,_,rfl,WZ,?_,λb o f q=>hideAll_get _ q λm=>?_,?_,hF,λh5 N5=>?_⟩
   ·rintro b ⟨l',RG,env,he,hb⟩;exact ak _ Sy (ak env (.tail _ (by rw[WZ] at RG;cases RG;exact he)) hb)
   ·exact ay (List.mem_filterMap.mp m) λenv he hb=>f (ak _ Sy (ak env he hb))
   ·exact⟨λb o _ f q=>hF.1 b o (hideAll_get _ q λm=>ay (List.mem_filterMap.mp m) λenv he hb=>f (ak _ Sy (ak env he hb))),λb o f q d=>Xj b o (hm.keeps b o q) d⟩
   ·exact aU (PL.acP (h':=h5) (tk:=QA.toks) (λb z=>PH b (PL.T b z)) (λb o _ q=>PH b ⟨o,q⟩) N5 PL.tp) λQZ U5=>bL Pp Pd he (fS ic (PD.trans (l:=l₂) (H:=Pd) U5)) QZ.toAt.wl QZ.R
end
def LK(T:List Str)(k:Nat)(p1 p2 p3 p4 p5 p6 p7 p8 p9 Qt:Pos):Stmt:=
 .Try [.Expr (.Call (.Attribute (.Name (nm T 1) p1) ("prepare":Str) p2) [] [] p3) p4] [.ExceptHandler (some (.Name ("CycleError":Str) p5)) none [.Assign [.Name (nm T 2) p6] (.Constant (.bool true) k p7) p8] p9] [] [] Qt
def Iu(Pre:AH→PV→(AH→Prop)→(AH→Prop)→Prop)(l:Loc)(H:AH)(K:Fl→Loc→AH→Prop):Prop:=
 ∃i fs ss,l 1=some (.obj i)∧H[i]?=some (.inst 291 fs ss)∧aM ("prepare":Str) fs=none∧Pre H (.obj i) (λH'=>K .next l H') λH'=>K .next (upd l 2 (.bool true)) H'
section
def xI(L:Laid P.toCx)(OZ:P.T.Nodup)(hC:ah P.toCx P.n P.C)(P8:P.C.fr=true)(WJ:bC P.toCx "CycleError" (.ref 209)){Pre:AH→PV→(AH→Prop)→(AH→Prop)→Prop}(hprep:∀{A:Around}{E Q:Value→Shared→Prop}{s:Shared}{g:Gh}{H:AH}{v:Value}{d:PV}{Kn Ke:AH→Prop},fF A P.n→GK g A s.heap→Wl P.toCx g s→bG P.toCx g H s.heap→abb g s.heap d v→Pre H d Kn Ke →
   (∀s' g' H',Kn H'→mA P.toCx A g s g' s'→Wl P.toCx g' s'→bG P.toCx g' H' s'.heap→Q .none s')→(∀e s',Ac P.toCx A g s Ke e s'→E (.ref e) s')→codeAny P.M A (.call (.ref 246) ⟨[v],[]⟩) (wants Q E) s){k:Nat}{p1 p2 p3 p4 p5 p6 p7 p8 p9 Qt:Pos}(e1:(p2.endLine==p3.line)=true)(K:Fl→Loc→AH→Prop)(Q:Flow→Shared→Prop)(E:Value→Shared→Prop)(i:In P.n X)(hg:o0 X.ns "CycleError"=true)(h1:gE X.ns (nm P.T 1)=true)(Sd:2<P.T.length)(h2:gE X.ns (nm P.T 2)=true)(O:Ok P X s)(hx:Iu Pre X.l X.H K)(hQ:∀f fl s' g' l' H',K fl l' H'→Ok P {X with g:=g',l:=l',H:=H'} s'→Ev P X s g' s'→fE g' s'.heap fl f→Q f s'):wpAny P.M X.A (exec (LK P.T k p1 p2 p3 p4 p5 p6 p7 p8 p9 Qt) X.env) Q E s:=by
 refine cD hx λj fs ss l1 hj W4 Pj=>a9 (CM (L.kn (rA L))) λx xc=>?_;have hq:=oO L xc.o;refine wpAny_Try_except (nX λQ₁ Wk TA O2=>wpAny_execs_cons (wpAny_Expr_any (mM rfl (by show 0<30;decide) e1 rfl ((aR OZ hC (.v 1 p1)).1 X s (λd=>d=.obj j) _ _ i (ae h1) O.toAt (aQ l1 rfl) λv OP d hd OQ OT pl=>?_)) (by unfold interactive;rw[i.kind];rfl) rfl));subst hd;have OS:=O.kp OQ;have PR:Ev P X s X.g OP:=Ev.kp OQ;have VT:=OT;refine ay OT λpa O8 hp=>?_;obtain rfl:=O8;refine bD (lI OS.R OS.W hj hp) λ_ _ _ R5=>a5 R5 λws es kk I _=>?_;have M:=Jm P.w;refine oF L (jw P.w) M.f M.t I W4 ?_;have F:=Br P.w;show wpAny P.M X.A (spliced []) _ _ OP;refine spliced_nil ⟨mW (OS.W _ _ (L.abe F.nt) (L.at F.look)).1 rfl,wpAny_call (hprep i.room (OS.fr.1 P8) OS.toAt.wl OS.R VT Pj (λOR Pp Pd hk mv w R=>?_) λe OR th=>?_)⟩
 ·refine wpAny_execs_nil (TA _ _ (wpAny_execs_nil (hQ _ .next OR Pp X.l Pd hk (OS.m mv w R) (PR.trans (l:=X.l) (H:=X.H) (Ev.acd mv)) rfl)))
 ·obtain⟨OX,VE,A',l,base,a0,rfl,th⟩:=th;refine ay (OS.hd P8) λQa hA hf=>?_;obtain rfl:X.env::Qa=l:=NW (hA.symm.trans th.fr);refine O2 _ _ (wpAny_looks_onW (s:={OX with heap:=VE}) hA hf th.fl λO9 Vs Qy=>wpAny_landsW Vs λO4 Sq SF=>?_);have Q9:lb A' e OX.heap O4:=⟨λb o n f q=>Sq.1 b o (th.ba b o f q),λb o f q d=>by
   exact a9 (th.no.slot b o f q d) λsl q1=>a9 (Qy b _ q1 d) λsl2 q2=>SF b {o with slots:=sl2} q2 d⟩
  refine cA (th.post O4 Q9) λPN QL hk mv R6=>aU R6 λw R=>ay Sq.there λoe hoe ZR=>wpAny_handleBy_cons (codeAny_handlers_test (Name_function_global i.kind (i.glob _ (Ol.mp (ai hg))) (WJ i.globals i.builtins (λb o t e'=>(w.W b o t e').1) (wpAny_excMatches_sub_self (w.W _ _ hq.1 hq.2).1 hoe ZR (xc.tl.hasType PySem.F.excBase_ValueError.hasBase) (codeAny_handlers_suite (bD Sq λf1 f2 f3 f4=>wpAny_setFlight_noneW f1 f3 f4.at λSI k1 k2 k3 k4=>?_)))) (eN (ae hg)))) (by intro q;cases q);have Ws:lb A' e OX.heap SI:=⟨λb o n f q=>k1 b o (th.ba b o f q),λb o f q d=>by
   exact a9 (Q9.slot b o f q d) λsl q1=>⟨sl,k4 b {o with slots:=sl} q1 d⟩⟩
  refine cA (th.post SI Ws) λU' Sl Vx TU QI=>aU QI λXM Wy=>?_;have PL:=OS.m TU XM Wy;refine wpAny_execs_cons (c5 (.inl (aG _ _ rfl)) rfl dE ?_);show wpAny _ _ (pure (Value.bool true)) _ _ _;refine NQ (wpAny_assign_Name (cF (X:={X with g:=U',H:=Sl}) (s:={OX with heap:=SI}) (d:=.bool true) i.to PL.fm PL.L OZ Sd h2 PL.tp rfl λSR Sm=>?_));have RM:=PL.st Sm;have WF:=Ev.st Sm;exact wpAny_execs_nil (hQ _ .next SR U' (upd X.l 2 (.bool true)) Sl Vx RM ((PR.trans (l:=X.l) (H:=X.H) (Ev.acd TU)).trans (l:=X.l) (H:=Sl) WF) rfl)
end
def Md(T:List Str)(k1 k2 k3:Nat)(p1 p2 p3 p4 p5 p6 p7 p8 p9 Qt QY p12:Pos):Stmt:=
 .Assign [.Tuple [.Name (nm T 1) p1,.Name (nm T 2) p2,.Name (nm T 3) p3,.Name (nm T 4) p4] k1 p5] (.Tuple [.Call (.Name ("TopologicalSorter":Str) p6) [] [] p7,.Constant (.bool false) k2 p8,.Dict [] [] p9,.Dict [] [] Qt] k3 QY) p12
def Ib(C:cu)(l:Loc)(H:AH)(K:Fl→Loc→AH→Prop):Prop:=
 C.na "TopologicalSorter"=true∧C.nt "TopologicalSorter" H [] λd O1=>∀Px Py,K .next (upd (upd (upd (upd l 1 d) 2 (.bool false)) 3 (.obj O1.length)) 4 (.obj (O1.length+1))) (O1++[.dict [] Px]++[.dict [] Py])
section
def xn(OZ:P.T.Nodup)(hC:ah P.toCx P.n P.C){k1 k2 k3:Nat}{p1 p2 p3 p4 p5 p6 p7 p8 p9 Qt QY p12:Pos}(K:Fl→Loc→AH→Prop)(Q:Flow→Shared→Prop)(E:Value→Shared→Prop)(i:In P.n X)(hg:o0 X.ns "TopologicalSorter"=true)(ha:∀j∈[1,2,3,4],j<P.T.length∧gE X.ns (nm P.T j)=true)(O:Ok P X s)(hx:Ib P.C X.l X.H K)(hQ:∀f fl s' g' l' H',K fl l' H'→Ok P {X with g:=g',l:=l',H:=H'} s'→Ev P X s g' s'→fE g' s'.heap fl f→Q f s'):wpAny P.M X.A (exec (Md P.T k1 k2 k3 p1 p2 p3 p4 p5 p6 p7 p8 p9 Qt QY p12) X.env) Q E s:=by
 refine aU hx λhna VC=>c5 (.inr (aG _ _ ⟨_,rfl⟩)) rfl rfl (wpAny_Tuple_spliced ?_);show wpAny P.M X.A (spliced ((false,eval (fH P.T (.new "TopologicalSorter" p6 .nil p7)) X.env)::(false,eval (.Constant (.bool false) k2 p8) X.env)::(false,eval (fH P.T (.newD p9)) X.env)::(false,eval (fH P.T (.newD Qt)) X.env)::[])) _ _ s;refine spliced_cons (zG hC (eA OZ hC .nil).1 X s _ _ E i (by show(o0 X.ns _&&true)=true;rw[hg];rfl) O (bE hna VC) λPQ OP Pw Rf O1 Vu OS Pb OT=>spliced_cons ?_);show wpAny _ _ (pure (Value.bool false)) _ _ _;refine NQ (spliced_cons (qf hC {X with g:=Pw,H:=O1} OP (λd H=>∃ep,d=.obj O1.length∧H=O1++[.dict [] ep]) _ E i.to rfl OS (λep=>ak ep rfl rfl) λQl OR Pp Zw Pd Vv OW O2 OY=>ay Vv λPx O8 Pq=>?_));obtain rfl:=O8;obtain rfl:=Pq;refine spliced_cons (qf hC {X with g:=Pp,H:=O1++[.dict [] Px]} OR (λd H=>∃ep,d=.obj (O1.length+1)∧H=O1++[.dict [] Px]++[.dict [] ep]) _ E i.to rfl OW (λep=>ak ep (by rw[NP];rfl) rfl) λQc OX PN Zx QL Vw O6 Pi Pf=>ay Vw λPy PI P2=>?_);obtain rfl:=PI;obtain rfl:=P2;refine spliced_nil ⟨by show 4≤sizeLine;decide +kernel,?_⟩;have Pn:Kp P.toCx PN OX {OX with heap:=OX.heap.push {cls:=.type "tuple",data:=.seq #[PQ,.bool false,Ql,Qc]}}:=⟨Kp0.push,O6.tp⟩;refine assign_Tuple_tuple (items:=#[PQ,.bool false,Ql,Qc]) i.handled (bS _ (NZ _ rfl) rfl 0 rfl) rfl rfl λh' he=>?_;have kk:∀b o,OX.heap.get? b=some o→h'.get? b=some o:=λb o e=>he b o (Nat.ne_of_lt (by rw[Heap.size_push];exact Nat.lt_succ_of_lt (Heap.lt_size e))) (NS _ e);have Pe:Ok P {X with g:=PN,H:=O1++[.dict [] Px]++[.dict [] Py]} {OX with heap:=h'}:=O6.kp ⟨Kp0.of kk,O6.tp⟩;have SO:aC PN PN OX.heap h':=.of kk;have r1:abb PN h' Rf PQ:=((OT.over (O2.over OS)).over (Pi.over OW)).over SO;have r2:abb PN h' (.obj O1.length) Ql:=(OY.over (Pi.over OW)).over SO;have r3:abb PN h' (.obj (O1.length+1)) Qc:=Pf.over SO;have P0:Ev P X s PN {OX with heap:=h'}:=((Pb.trans (l:=X.l) (H:=O1) O2).trans (l:=X.l) (H:=O1++[.dict [] Px]) Pi).trans (l:=X.l) (H:=O1++[.dict [] Px]++[.dict [] Py]) (Ev.kp (X:={X with g:=PN,H:=O1++[.dict [] Px]++[.dict [] Py]}) ⟨Kp0.of kk,O6.tp⟩);refine aU (ha 1 (by simp)) λa1 b1=>aU (ha 2 (by simp)) λa2 b2=>aU (ha 3 (by simp)) λa3 b3=>aU (ha 4 (by simp)) λa4 b4=>assignInOrder_cons (wpAny_assign_Name (cF (X:={X with g:=PN,H:=O1++[.dict [] Px]++[.dict [] Py]}) (s:={OX with heap:=h'}) i.to Pe.fm Pe.L OZ a1 b1 Pe.tp r1 λQA UX=>?_));have PL:=Pe.st UX;have v5:=Ev.st UX;have Zd:=v5.over Pe;refine assignInOrder_cons (wpAny_assign_Name (cF (X:={X with g:=PN,l:=upd X.l 1 Rf,H:=O1++[.dict [] Px]++[.dict [] Py]}) (s:=QA) (d:=.bool false) i.to PL.fm PL.L OZ a2 b2 PL.tp rfl λVV UY=>?_));have QZ:=PL.st UY;have v6:=Ev.st UY;have Ze:=v6.over PL;refine assignInOrder_cons (wpAny_assign_Name (cF (X:={X with g:=PN,l:=upd (upd X.l 1 Rf) 2 (.bool false),H:=O1++[.dict [] Px]++[.dict [] Py]}) (s:=VV) i.to QZ.fm QZ.L OZ a3 b3 QZ.tp ((r2.over Zd).over Ze) λSR Sm=>?_));have RM:=QZ.st Sm;have v7:=Ev.st Sm;have ov7:=v7.over QZ;refine assignInOrder_cons (wpAny_assign_Name (cF (X:={X with g:=PN,l:=upd (upd (upd X.l 1 Rf) 2 (.bool false)) 3 (.obj O1.length),H:=O1++[.dict [] Px]++[.dict [] Py]}) (s:=SR) i.to RM.fm RM.L OZ a4 b4 RM.tp (((r3.over Zd).over Ze).over ov7) λXG UZ=>?_));have Wt:=RM.st UZ;have v8:=Ev.st UZ;exact assignInOrder_nil (hQ _ .next XG PN _ _ (Vu Px Py) Wt ((((P0.trans (l:=X.l) (H:=O1++[.dict [] Px]++[.dict [] Py]) v5).trans (l:=upd X.l 1 Rf) (H:=O1++[.dict [] Px]++[.dict [] Py]) v6).trans (l:=upd (upd X.l 1 Rf) 2 (.bool false)) (H:=O1++[.dict [] Px]++[.dict [] Py]) v7).trans (l:=upd (upd (upd X.l 1 Rf) 2 (.bool false)) 3 (.obj O1.length)) (H:=O1++[.dict [] Px]++[.dict [] Py]) v8) rfl)
end
section
def jm{P Q:Prop}(h:P=Q)(q:Q):P:=h▸q
def nr{P:Prop}{α:Type}(a:α)(h:P=(a=a)):P:=h▸rfl
section
variable{α:Type}{K:α→Prop}{P Q:Prop}{KP:PV→Prop}
def wH{d:α}:el (some d) K=K d:=rfl
def bF:cG true P=P:=rfl
variable{a b:Int}{z:Str}{l m:List PV}{e:PV}
def FF:fo .add (.int a) (.int b) KP=KP (.int (a+b)):=rfl
def vk:fo .sub (.int a) (.int b) KP=KP (.int (a-b)):=rfl
def wj:fo .mul (.int a) (.int b) KP=cG (cY a||cY b) (KP (.int (a*b))):=rfl
def vt:fo .mod (.int a) (.int b) KP=cG (!decide (b=0)) (KP (.int (a.fmod b))):=rfl
def zS:fo .fdiv (.int a) (.int b) KP=cG (!decide (b=0)) (cG (decide (b.natAbs<1073741824)) (KP (.int (a.fdiv b)))):=rfl
def DW:fo .pow (.int a) (.int b) KP=cG (decide (0≤b)) (cG (decide (b≤1000)) (cG (cY a) (KP (.int (a^b.toNat))))):=rfl
def lU:fo .shl (.int a) (.int b) KP=cG (decide (0≤b)) (cG (decide (b≤1000)) (cG (cY a) (KP (.int (a*2^b.toNat))))):=rfl
def pR:fo .shr (.int a) (.int b) KP=cG (decide (0≤b)) (KP (.int (a.fdiv (2^b.toNat)))):=rfl
def kg:fo .band (.int a) (.int b) KP=KP (.int (Builtin.bitAnd a b)):=rfl
def lH:fo .bor (.int a) (.int b) KP=KP (.int (Builtin.bitOr a b)):=rfl
def CA:fo .bxor (.int a) (.int b) KP=KP (.int (Builtin.bitXor a b)):=rfl
def BV:fo .add (.str x) (.str y) KP=cG (aE (x.length+y.length)) (KP (.str (x++y))):=rfl
def e8:fo .add (.lst l) (.lst m) KP=cG (aE (l.length+m.length)) (KP (.lst (l++m))):=rfl
def yW:fo .mul (.lst l) (.int b) KP=cG (decide (0≤b)) (cG (decide (b≤1)) (cG (aE l.length) (KP (.lst (if b=0 then[] else l))))):=rfl
def Ck:fo .mod (.str x) (.str y) KP=cG (decide (x=j4)) (cG (aE y.length) (KP (.str (cB y)))):=rfl
def Ab(h:aE x.length=true):bB H (.str x)=some (x.length !=0):=by show(if aE x.length=true then _ else none)=_;rw[h];rfl
def IQ(e:H[i]?=some (.lst l))(h:aE l.length=true):bB H (.obj i)=some (!l.isEmpty):=by
 show(listItems H (.obj i)).bind _=_;have:listItems H (.obj i)=some l:=jt e;rw[this];show(if aE l.length=true then _ else none)=_;rw[h];rfl
def iG:dS H .eq (.int a) (.int b)=some (decide (a=b)):=rfl
def Ld:dS H .lt (.int a) (.int b)=some (decide (a<b)):=rfl
def Ly:dS H .le (.int a) (.int b)=some (decide (a≤b)):=rfl
def Gs:dS H .ge (.int a) (.int b)=some (decide (b≤a)):=rfl
def uW:dS H .is d .none=d.isNone:=rfl
def fJ:dS H .abC d .none=d.isNone.map (!·):=rfl
end
section
def Dat(n:Nat)(d:PV)(p:PyData):Prop:=d.toD=some p∧p.canLay0=true∧p.depth≤n∧PyData.eqv p p=true
theorem Dat.int{i:Int}:Dat 0 (.int i) (.int i):=aS rfl rfl (Oe _) (show(i==i)=true from beq_self_eq_true i)
theorem Dat.bool{b:Bool}:Dat 0 (.bool b) (.bool b):=aS rfl rfl (Oe _) (show(b==b)=true from beq_self_eq_true b)
theorem Dat.none:Dat 0 .none .none:=aS rfl rfl (Oe _) rfl
theorem Dat.str(h:PyData.strOk x=true):Dat 0 (.str x) (.str x):=aS rfl h (Oe _) (show(x==x)=true from beq_self_eq_true x)
theorem Dat.le{m:Nat}{p:PyData}(h:Dat n d p)(le:n≤m):Dat m d p:=aS h.1 h.2.1 (NT h.2.2.1 le) h.2.2.2
noncomputable def fK(n:Nat):List PV→List PyData→Prop
 |[],ps=>ps=[]
 |d::l,ps=>∃p r,ps=p::r∧Dat n d p∧fK n l r
def fK.all:∀{l:List PV}{ps:List PyData},fK n l ps→PV.toDs l=some ps∧PyData.canLayAll0 ps=true∧PyData.depthAll ps≤n∧PyData.eqvAll ps ps=true:=by
 intro l;induction l with
 |nil=>
  intro _ h;cases h;exact aS rfl rfl (Oc _) rfl
 |cons d l ihr=>
  intro _ h;refine aP h λp r O8 Qe=>?_;obtain rfl:=O8;refine aU Qe λh1 h2=>bD (ihr h2) λa b c e=>aS ?_ ?_ ?_ ?_
  ·show(PV.toD d).bind _=_;rw[h1.1];show(PV.toDs l).map _=_;rw[a];rfl
  ·show(PyData.canLay0 p&&PyData.canLayAll0 r)=true;rw[h1.2.1,b];rfl
  ·exact Nat.max_le.mpr ⟨h1.2.2.1,c⟩
  ·show(PyData.eqv p p&&PyData.eqvAll r r)=true;rw[h1.2.2.2,e];rfl
def fK.of:∀{l:List PV},(∀d∈l,∃p,Dat n d p)→∃ps,fK n l ps:=by
 intro l;induction l with
 |nil=>
  exact λ_=>⟨[],rfl⟩
 |cons d l ihr=>
  exact λh=>a9 (h d (.head _)) λp hp=>a9 (ihr λe he=>h e (.tail _ he)) λps hs=>aG (p::ps) p (aV ps rfl hp hs)
theorem fK.map{α:Type}{f:α→PV}{q:α→PyData}(h:∀a,Dat n (f a) (q a)):∀l:List α,fK n (l.map f) (l.map q):=by
 intro l;induction l with
 |nil=>
  exact rfl
 |cons a l ihr=>
  exact aN (q a) (l.map q) rfl (h a) ihr
theorem Dat.lst{l:List PV}(h:fK n l ps):Dat (n+1) (.lst l) (.list ps):=by
 exact bD h.all λa b c e=>aS (by show(PV.toDs l).map _=_;rw[a];rfl) b (Nat.succ_le_succ c) e
theorem Dat.tup{l:List PV}(h:fK n l ps):Dat (n+1) (.tup l) (.tuple ps):=by
 exact bD h.all λa b c e=>aS (by show(PV.toDs l).map _=_;rw[a];rfl) b (Nat.succ_le_succ c) e
theorem Dat.shaped{p:PyData}(h:Dat n d p)(le:n≤64):SeqAt.shaped p=true:=by
 show(p.canLay0&&decide (p.depth≤64))=true;rw[h.2.1,N0 (NT h.2.2.1 le)];rfl
theorem Dat.toDH{p:PyData}(h:Dat n d p):Internal.qV H d=some p:=by
 have h1:=h.1;cases d<;>first | exact h1 | cases h1
def sE{m:Nat}{e:PV}{p q:PyData}(h:Dat n d p)(k:Dat m e q)(hn:n≤64)(hm:m≤64):dS H .eq d e=some (PyData.eqv p q):=by
 show(Internal.qV H d).bind _=_;rw[h.toDH];show(Internal.qV H e).bind _=_;rw[k.toDH];show(if(SeqAt.shaped p&&SeqAt.shaped q)=true then _ else none)=_;rw[h.shaped hn,k.shaped hm];rfl
def KJ{m:Nat}{e:PV}{p q:PyData}(h:Dat n d p)(k:Dat m e q)(hn:n≤64)(hm:m≤64):dS H .ne d e=some (!PyData.eqv p q):=by
 show(dS H .eq d e).map _=_;rw[sE h k hn hm];rfl
def Bj{m:Nat}{l:List PV}{p:PyData}(h:Dat n d p)(k:fK m l ps)(hn:n≤64)(hm:m≤63):dS H .isIn d (.lst l)=some (ps.any λy=>PyData.eqv y p):=by
 show d.toD.bind _=_;rw[h.1];show(PV.toDs l).bind _=_;rw[k.all.1];show(if(SeqAt.shaped p&&SeqAt.shaped (.list ps))=true then _ else none)=_;rw[h.shaped hn,(Dat.lst k).shaped (Nat.succ_le_succ hm)];rfl
def nk{a:Int}{l:List Int}:dS H .isIn (.int a) (.lst (l.map .int))=some (l.any λy=>y==a):=by
 rw[Bj Dat.int (fK.map (n:=0) (q:=PyData.int) (λ_=>Dat.int) l) kD kD,List.any_map];rfl
def vR{r:Nat→Option PV}:∀{d:PV},dW d=true→xN r d=some d:=by
 intro d;induction d using PV.rec (motive_2:=λds=>cQ ds=true→cg r ds=some ds) with
 |obj=>exact λh=>absurd h N'
 |vw=>exact λh=>absurd h N'
 |lst l ih=>exact λh=>by show(cg r l).map _=_;rw[ih h];rfl
 |tup l ih=>exact λh=>by show(cg r l).map _=_;rw[ih h];rfl
 |nil=>rfl
 |cons d ds h1 h2 h=>show(xN r d).bind _=_;rw[h1 (ai h)];show(cg r ds).map _=_;rw[h2 (ae h)];rfl
 |_=>exact λ_=>rfl
def nB{r:Nat→Option PV}:∀{ds:List PV},cQ ds=true→cg r ds=some ds:=by
 intro ds;induction ds with
 |nil=>exact λ_=>rfl
 |cons d ds ih=>exact λh=>by show(xN r d).bind _=_;rw[vR (ai h)];show(cg r ds).map _=_;rw[ih (ae h)];rfl
def zO(h:dW d=true):res H d=some d:=vR h
def uV:∀{ds:List PV},(∀d∈ds,dW d=true)→cQ ds=true:=by
 intro ds;induction ds with
 |nil=>
  exact λ_=>rfl
 |cons d ds ihr=>
  intro h;show(dW d&&cQ ds)=true;rw[h d (.head _),ihr λe he=>h e (.tail _ he)];rfl
def b0{α:Type}{f:α→PV}(h:∀a,dW (f a)=true)(l:List α):cQ (l.map f)=true:=uV λd hd=>by
 refine ay (Oj.mp hd) λa _ Pq=>?_;obtain rfl:=Pq;exact h a
end
def ze{f:PV→(List PV→Prop)→Prop}{h:PV→List PV}:∀{ds:List PV}{K:List PV→Prop},(∀d∈ds,∀K':List PV→Prop,K' (h d)→f d K')→K (ds.flatMap h)→mh f ds K:=by
 intro ds;induction ds with
 |nil=>
  intro _ _ k;exact k
 |cons d r ihr=>
  intro K hf k;exact hf d (.head _) _ (ihr (λe he=>hf e (.tail _ he)) (by simpa using k))
noncomputable def Ho(x:Int):List Int:=[((40503*x+17).fdiv 256).fmod 256,(40503*x+17).fmod 256,(x.fdiv 64).fmod 256]
def JY(C:cu)(x:Int):fnW C IY.1 [.int x] (·=.lst ((Ho x).map .int)):=⟨rfl,rfl⟩
noncomputable def Ki:List Str:=["a","b c","d\"","e\\","f,g","h;i","j=k"]
def af(k:Nat):Str:=Ki.getD k ""
def LT(C:cu)(k:Nat)(h:k<7):fnW C EH.1 [.int k] (·=.str (af k)):=by
 exact cH (P:=λk:Nat=>fnW C EH.1 [.int k] (·=.str (af k))) (cH (cH (cH (cH (cH (cH ye ⟨rfl,nr (PV.str (af 0)) kR⟩) ⟨rfl,nr (PV.str (af 1)) kR⟩) ⟨rfl,nr (PV.str (af 2)) kR⟩) ⟨rfl,nr (PV.str (af 3)) kR⟩) ⟨rfl,nr (PV.str (af 4)) kR⟩) ⟨rfl,nr (PV.str (af 5)) kR⟩) ⟨rfl,nr (PV.str (af 6)) kR⟩ k h
noncomputable def signs:Str:="ABCDEFGHIJKLMNOPQRSTUVWXYZabcdefghijklmnopqrstuvwxyz0123456789+/"
def JR(C:cu):fnW C Js.1 [] (·=.str signs):=⟨rfl,rfl⟩
noncomputable def bJ(x:Int)(n:Nat):List Nat:=(List.range n).filter λ(k:Nat)=>[x.fmod 8,(x.fdiv 8).fmod 8].any λy=>y==(k:Int)
def AP(x:Int):∀l:List Nat,((l.map λ(i:Nat)=>PV.int i).flatMap λd=>match d with | .int k=>if([x.fmod 8,(x.fdiv 8).fmod 8].any λy=>y==k)=true then[d] else[] | _=>[]) =
  (l.filter λ(k:Nat)=>[x.fmod 8,(x.fdiv 8).fmod 8].any λy=>y==(k:Int)).map λ(k:Nat)=>.int k:=by
 intro l;induction l with
 |nil=>
  exact rfl
 |cons k l ihr=>
  rw[OF,OD,ihr,Ov];dsimp only;split<;>rfl
def KU(C:cu)(x:Int)(n:Nat)(hn:n≤1000):fnW C FR.1 [.int x,.int n] (·=.lst ((bJ x n).map λ(k:Nat)=>.int k)):=by
 refine⟨rfl,?_⟩;have h1:decide (0≤(n:Int))=true:=N0 (Oy n);have h2:eP n=(List.range n).map λ(i:Nat)=>PV.int i:=rfl;dsimp only [FR,xb,xs,pe,pg,tA];refine aQ rfl (aQ rfl (aQ (d:=eP n) (by show(if decide (0≤(n:Int))=true then _ else none)=_;rw[h1];rfl) ?_));rw[h2];refine bE (au (by simp;exact az hn)) (ze (h:=λd=>match d with | .int k=>if([x.fmod 8,(x.fdiv 8).fmod 8].any λy=>y==k)=true then[d] else[] | _=>[]) ?_ ?_)
 ·refine λd hd K' k=>ay (Oj.mp hd) λi _ PA=>?_;obtain rfl:=PA;refine jm (Q:=el (dS [] .isIn (.int i) (.lst ([x.fmod 8,(x.fdiv 8).fmod 8].map .int))) λr=>br r (K' [.int i]) (K' [])) kR ?_;rw[nk];dsimp only at k;split at k<;>(rename_i h;rw[wH];first | (rw[h];exact k) | (rw[Bool.not_eq_true] at h;rw[h];exact k))
 ·rw[AP];refine bE (au ?_) (aQ (zO (b0 (λ_=>rfl) _)) rfl);rw[NO];exact NT (OK _ _) (by simp;exact az hn)
end
noncomputable def Is:List String:=["bool","int","float","complex","str","bytes","bytearray","list","tuple","dict","set","frozenset","range"]
def Fb:Array UInt8:=(signs.cps.toList.map λc=>c.toUInt8).toArray
def C0:cu:={cu.none with g:=λx d=>(∃t∈Is,x=Str.ofString t∧d=.typ t)∨(x="_B64"∧d=.bytes Fb)}
def i7:yP C0:=⟨rfl,λ_ _ _ _ _ _ h=>h⟩
section
def z4(L:Laid S):ah S 0 C0 where
 f _ h:=by cases h
 x _ _ h:=by cases h
 s _ _ _ h:=h.elim
 g x d h:=by
  rcases h with ⟨t,ht,rfl,rfl⟩ | ⟨rfl,rfl⟩
  ·refine ak (.type t) (L.bi (S:=S) ?_ ?_ ?_) (λg s _=>rfl)<;>revert t<;>intro t ht<;>(unfold Is at ht;repeat (rcases NU.mp ht with rfl | ht;first | kernel_rfl | decide))<;>cases ht
  ·exact ak (.bytes Fb 671) (L.glob kR) (λg s _=>⟨_,rfl⟩)
 bi:=L.bis
 en:=L.en
 sys:=L.sys
 aca:=(ah.start L).aca
 abV:=(ah.start L).abV
 ia _ _ h:=by cases h
 sl _ _ _ h:=by cases h
 m _ _ h:=by cases h
 nw _ h:=by cases h
end
section
def BP(C:cu):Prop:=∀t∈Is,C.g (Str.ofString t) (.typ t)
def Ai{K:PV→Prop}(h:C.g x d)(k:K d):∃d,C.g x d∧K d:=ak d h k
def K8(h:BP C)(a:Txt.isascii x=true)(f:aE x.length=true):fnW C Dp.1 [.str x] (·=.bytes (asciiBytes x)):=by
 refine⟨rfl,?_⟩;dsimp only [Dp,xb,xs,pe,pg,tA,yQ];refine Ai (h "str" kD) ?_;show el (pK [] .encode (.str x) [.str "ascii"]) λd=>el (res [] d) λy=>y=.bytes (asciiBytes x);refine aQ (d:=.bytes (asciiBytes x)) ?_ rfl;show(if(decide (("ascii":Str)="ascii")&&(Txt.isascii x&&aE x.length))=true then some (PV.bytes (asciiBytes x)) else none)=_;rw[a,f];rfl
def J9(h:BP C){b:Array UInt8}:fnW C Gc.1 [.bytes b] (·=.bytes b):=by
 refine⟨rfl,?_⟩;dsimp only [Gc,xb,xs,pe,pg,tA,yQ];refine Ai (h "str" kD) (Ai (h "bytes" kD) rfl)
def K0(h:BP C){b:Array UInt8}:fnW C Ge.1 [.bytes b] (·=.bytes b):=by
 refine⟨rfl,?_⟩;dsimp only [Ge,xb,xs,pe,pg,tA,yQ];exact Ai (h "bytes" kD) rfl
def LJ(h:BP C){b:Bool}:fnW C Fj.1 [.bool b] (·=.bool b):=by
 refine⟨rfl,?_⟩;dsimp only [Fj,xb,xs,pe,pg,tA,yQ];refine Ai (h "bool" kD) ?_;cases b<;>exact rfl
noncomputable def jW(c:Int):Int:=if 65≤c∧c≤90 then c-65 else if 97≤c∧c≤122 then c-71 else if 48≤c∧c≤57 then c+4 else if c=43 then 62 else if c=47 then 63 else 64
structure Xb(C:cu)(b:MB)(l:Loc)(H:AH)(K:Fl→Loc→AH→Prop):Prop where
 run:xb C b l H K
def GI:Xb C b l H K=xb C b l H K:=propext ⟨Xb.run,Xb.mk⟩
def gS(C:cu)(b:MB)(K:Fl→Loc→AH→Prop):Fl→Loc→AH→Prop:=λfl l H=>match fl with
 |.next=>Xb C b l H K
 |fl=>K fl l H
def FO:gS C b K=λfl l H=>match fl with
 |.next=>xb C b l H K
 |fl=>K fl l H:=by
 funext fl l H;cases fl<;>first | exact GI | rfl
def abd{s:MS}(k:xs C s l H (gS C b K)):Xb C (.cons s b) l H K:=⟨by rw[FO] at k;exact k⟩
def MD(K:PV→Prop):Fl→Loc→AH→Prop:=λfl _ H=>match fl with
 |.ret d=>el (res H d) K
 |.next=>K .none
 |_=>False
def ft{K:PV→Prop}(h:cQ ds=true)(k:Xb C b (λi=>ds[i]?) [] (MD K)):fnW C b ds K:=⟨h,k.run⟩
structure qn(C:cu)(H:AH)(e:ME)(l:Loc)(r:Bool):Prop where
 run:∀Kb:Bool→Prop,Kb r→yQ C H e l Kb
def cM{c:ME}{a:MB}{r:Bool}(hc:qn C H c l r)(h1:r=true→Xb C a l H (gS C rest K))(h2:r=false→Xb C b l H (gS C rest K)):
  Xb C (.cons (.ifS c a b p) rest) l H K:=by
 refine abd (hc.run (λr=>br r (xb C a l H (gS C rest K)) (xb C b l H (gS C rest K))) ?_);cases r
 ·exact(h2 rfl).run
 ·exact(h1 rfl).run
def aB(k:K .next l H):Xb C .nil l H K:=⟨k⟩
def aA(k:Xb C rest l H K):gS C rest K .next l H:=k
def bc{c:ME}{a:MB}{r:Bool}(hc:qn C H c l r)(h1:r=true→Xb C a l H (gS C rest K))(h2:r=false→Xb C rest l H K):
  Xb C (.cons (.ifS c a .nil p) rest) l H K:=cM hc h1 λh=>aB (aA (h2 h))
def qw{a b c:Int}{p'':Pos}(hv:l i=some (.int c)):qn C H (.abU .le .le (.c (.int a) n p) (.v i q) (.c (.int b) n' p') p'') l (decide (a≤c)&&decide (c≤b)):=by
 refine⟨λKb k=>?_⟩;dsimp only [yQ,pe];refine aQ rfl (aQ hv ?_);rw[Ly,wH];by_cases h:a≤c
 ·rw[N0 h] at k ⊢;exact k
 ·rw[Os h] at k ⊢;exact k
def w7{b c:Int}(hv:l i=some (.int c)):qn C H (.cmp .eq (.v i q) (.c (.int b) n p) p') l (decide (c=b)):=by
 refine⟨λKb k=>?_⟩;dsimp only [yQ,pe];refine aQ hv (aQ rfl ?_);rw[iG];exact k
def MH{a b c:Int}(h:(decide (a≤c)&&decide (c≤b))=true):a≤c∧c≤b:=by
 rw[Bool.and_eq_true,decide_eq_true_eq,decide_eq_true_eq] at h;exact h
def HG{a b c:Int}(h:(decide (a≤c)&&decide (c≤b))=false):¬(a≤c∧c≤b):=λq=>by
 rw[N0 q.1,N0 q.2] at h;cases h
def LH{c d:Int}(hd:jW c=d):fnW C FH.1 [.int c] (·=.int d):=by
 refine ft rfl ?_;unfold jW at hd;unfold FH;refine bc (qw rfl) (λh=>?_) λh1=>?_
 ·exact⟨jm (Q:=PV.int (c-65)=.int d) kR (by rw[hd.symm,N1 (MH h)])⟩
 rw[NY (HG h1)] at hd;refine bc (qw rfl) (λh=>?_) λh1=>?_
 ·exact⟨jm (Q:=PV.int (c-71)=.int d) kR (by rw[hd.symm,N1 (MH h)])⟩
 rw[NY (HG h1)] at hd;refine bc (qw rfl) (λh=>?_) λh1=>?_
 ·exact⟨jm (Q:=PV.int (c+4)=.int d) kR (by rw[hd.symm,N1 (MH h)])⟩
 rw[NY (HG h1)] at hd;refine bc (w7 rfl) (λh=>?_) λh1=>?_
 ·exact⟨jm (Q:=PV.int 62=.int d) kR (by rw[hd.symm,N1 (NV h)])⟩
 rw[NY (of_decide_eq_false h1)] at hd;refine bc (w7 rfl) (λh=>?_) λh1=>?_
 ·exact⟨jm (Q:=PV.int 63=.int d) kR (by rw[hd.symm,N1 (NV h)])⟩
 rw[NY (of_decide_eq_false h1)] at hd;exact⟨jm (Q:=PV.int 64=.int d) kR (by rw[hd.symm])⟩
end
section
structure Ev1(C:cu)(H:AH)(e:ME)(l:Loc)(d:PV):Prop where
 run:∀Kv:PV→Prop,Kv d→pe C H e l Kv
structure pV(f:PV→Loc→AH→(Fl→Loc→AH→Prop)→Prop)(ds:List PV)(l:Loc)(H:AH)(K:Fl→Loc→AH→Prop):Prop where
 run:abM f ds l H K
def aF{t:Tg}(he:Ev1 C H e l d)(ht:gP t l d=some l')(k:Xb C rest l' H K):Xb C (.cons (.asg t e p) rest) l H K:=abd (he.run _ (aQ ht k))
def abi{d:PV}(hi:l i=some (.obj j))(hj:H[j]?=some (.lst ys))(hf:aE ys.length=true)(he:Ev1 C H e l d)(k:Xb C rest l (H.set j (.lst (ys++[d]))) K):Xb C (.cons (.app i q ap e p r) rest) l H K:=
 abd (aQ hi (aQ (d:=j) rfl (aQ (d:=ys) (by simp only[listItems,hj]) (bE hf (he.run _ k)))))
def ct(he:Ev1 C H e l d)(k:K (.ret d) l H):Xb C (.cons (.ret e p) rest) l H K:=⟨he.run _ k⟩
def cW(k:Xb C rest (upd l i (.obj H.length)) (H++[.lst []]) K):Xb C (.cons (.abq i q r p) rest) l H K:=abd k
def FS(k:∀ep,Xb C rest (upd l i (.obj H.length)) (H++[.dict [] ep]) K):Xb C (.cons (.newD i q r p) rest) l H K:=abd k
def yb(C:cu)(t:Tg)(b:MB):PV→Loc→AH→(Fl→Loc→AH→Prop)→Prop:=λd l H K'=>el (gP t l d) λl'=>xb C b l' H K'
def EK{f:PV→Loc→AH→(Fl→Loc→AH→Prop)→Prop}{r:List PV}:eM (λl' H'=>pV f r l' H' K) K=eM (λl' H'=>abM f r l' H' K) K:=N2 (eM · K) (by funext l H;exact propext ⟨pV.run,pV.mk⟩)
def eu{t:Tg}{r:List PV}(ht:gP t l d=some l')(k:Xb C b l' H (eM (λl' H'=>pV (yb C t b) r l' H' K) K)):pV (yb C t b) (d::r) l H K:=⟨aQ ht (by rw[EK] at k;exact k.run)⟩
def qL{t:Tg}(k:K .next l H):pV (yb C t b) [] l H K:=⟨k⟩
def cP{again:Loc→AH→Prop}(k:again l H):eM again K .next l H:=k
def xy{again:Loc→AH→Prop}(k:again l H):eM again K .cont l H:=k
def da{t:Tg}{x:PV}(hi:Ev1 C H it l x)(hd:iF x=some ds)(hf:aE ds.length=true)(k:pV (yb C t b) ds l H (gS C rest K)):Xb C (.cons (.abw t it b p) rest) l H K:=abd (hi.run _ (aQ hd (bE hf k.run)))
def Fy{t:Tg}(hi:Ev1 C H it l (.lst ds))(hf:aE ds.length=true)(k:pV (yb C t b) (eg 0 ds) l H (gS C rest K)):Xb C (.cons (.ab1 t q it r b p) rest) l H K:=abd (hi.run _ (aQ rfl (bE hf k.run)))
def mE{c:ME}(k:ab' (λl H K=>yQ C H c l K) (λl H K=>xb C b l H K) l H (gS C rest K)):Xb C (.cons (.aby c b p) rest) l H K:=abd k
def vx{c:ME}{m:Option Expr}(hc:qn C H c l true)(k:Xb C rest l H K):Xb C (.cons (.abS c m p) rest) l H K:=abd (hc.run _ k)
theorem Ev1.c{k:Const}(h:autoParam (IX k=some d) Internal.FE):Ev1 C H (.c k n p) l d:=⟨λKv q=>aQ h q⟩
theorem Ev1.v(h:autoParam (l i=some d) Internal.FE):Ev1 C H (.v i p) l d:=⟨λKv q=>aQ h q⟩
theorem Ev1.bin{op:tI}{a b:ME}{x y:PV}(ha:Ev1 C H a l x)(hb:Ev1 C H b l y)(h:∀Kv:PV→Prop,Kv z→fo op x y Kv):Ev1 C H (.bin op a b p) l z:=⟨λKv q=>ha.run _ (hb.run _ (h Kv q))⟩
theorem Ev1.cmp{op:Dz}{a b:ME}{x y:PV}{r:Bool}(ha:Ev1 C H a l x)(hb:Ev1 C H b l y)(h:dS H op x y=some r):Ev1 C H (.cmp op a b p) l (.bool r):=⟨λKv q=>ha.run _ (hb.run _ (aQ h q))⟩
def Ev1.t{r:Bool}(h:Ev1 C H e l d)(ht:bB H d=some r):qn C H e l r:=⟨λKb k=>h.run _ (aQ ht k)⟩
def Ev1.acG{a b:ME}{x:PV}(ha:Ev1 C H a l x)(h:bB H x=some false):Ev1 C H (.and a b p) l x:=⟨λKv q=>ha.run _ (aQ h q)⟩
def Ev1.acT{a b:ME}{x y:PV}(ha:Ev1 C H a l x)(h:bB H x=some true)(hb:Ev1 C H b l y):Ev1 C H (.and a b p) l y:=⟨λKv q=>ha.run _ (aQ h (hb.run _ q))⟩
def Ev1.orT{a b:ME}{x:PV}(ha:Ev1 C H a l x)(h:bB H x=some true):Ev1 C H (.or a b p) l x:=⟨λKv q=>ha.run _ (aQ h q)⟩
def Ev1.orF{a b:ME}{x y:PV}(ha:Ev1 C H a l x)(h:bB H x=some false)(hb:Ev1 C H b l y):Ev1 C H (.or a b p) l y:=⟨λKv q=>ha.run _ (aQ h (hb.run _ q))⟩
theorem Ev1.idx{a b:ME}{x y:PV}(ha:Ev1 C H a l x)(hb:Ev1 C H b l y)(h:pI H x y=some z):Ev1 C H (.idx a b p) l z:=⟨λKv q=>ha.run _ (hb.run _ (aQ h q))⟩
structure dt(C:cu)(H:AH)(es:hV)(l:Loc)(ds:List PV):Prop where
 run:∀Kv:List PV→Prop,Kv ds→pg C H es l Kv
theorem dt.nil:dt C H .nil l []:=⟨λKv q=>q⟩
theorem dt.cons(h:Ev1 C H e l d)(hs:dt C H es l ds):dt C H (.cons e es) l (d::ds):=⟨λKv q=>h.run _ (hs.run _ q)⟩
def dt.one(h:Ev1 C H e l d):dt C H (.cons e .nil) l [d]:=dt.cons h .nil
theorem Ev1.call(hf:C.fa x=true)(hs:dt C H es l ds)(hc:C.f x ds d):Ev1 C H (.call x q es p) l d:=⟨λKv k=>bE hf (hs.run _ (ak d hc k))⟩
theorem Ev1.abz{kp:Pos}{kw:Str}{u:PV}(hf:C.fa x=true)(hs:dt C H es l ds)(he:Ev1 C H e l u)(hc:C.k x kw ds u d):Ev1 C H (.abz x q es kw e kp p) l d:=⟨λKv k=>bE hf (hs.run _ (he.run _ (ak d hc k)))⟩
theorem Ev1.rx{m:Str}(hf:C.xa x m=true)(hs:dt C H es l ds)(hc:C.x x m ds d):Ev1 C H (.rx x m q ap es p) l d:=⟨λKv k=>bE hf (hs.run _ (ak d hc k))⟩
theorem Ev1.abR{cd:Addr×Str}{y:PV}(hf:C.sa x lam cd)(he:Ev1 C H e l y)(hc:C.s x lam cd y d):Ev1 C H (.abR x q ap lam cd e p) l d:=⟨λKv k=>⟨hf,he.run _ (ak d hc k)⟩⟩
theorem Ev1.gv(hc:C.g x d):Ev1 C H (.gv x p) l d:=⟨λKv k=>ak d hc k⟩
theorem Ev1.bi{b:Bi}(hs:dt C H es l ds)(h:CX H b ds=some d):Ev1 C H (.bi b q es p) l d:=⟨λKv k=>hs.run _ (aQ h k)⟩
theorem Ev1.mth{m:zL}{o:ME}{x:PV}(ho:Ev1 C H o l x)(ok:BC H m x=true)(hs:dt C H es l ds)(h:pK H m x ds=some d):Ev1 C H (.mth m o ap es p) l d:=⟨λKv k=>ho.run _ (bE ok (hs.run _ (aQ h k)))⟩
theorem Ev1.tup(hs:dt C H es l ds)(hf:autoParam (aE ds.length=true) Internal.Ni):Ev1 C H (.tup es n p) l (.tup ds):=⟨λKv k=>hs.run _ (bE hf k)⟩
theorem Ev1.lst(hs:dt C H es l ds)(hf:autoParam (aE ds.length=true) Internal.Ni):Ev1 C H (.lst es p) l (.lst ds):=⟨λKv k=>hs.run _ (bE hf k)⟩
theorem Ev1.abG{a b:ME}{x:PV}{k:Int}(ha:Ev1 C H a l x)(hb:Ev1 C H b l (.int k))(h:lK H x k=some z):Ev1 C H (.abG a b q p) l z:=⟨λKv kk=>ha.run _ (hb.run _ (aQ rfl (aQ h kk)))⟩
theorem Ev1.abp{a b:ME}{x:PV}{k:Int}(ha:Ev1 C H a l x)(hb:Ev1 C H b l (.int k))(h:kJ H x k=some z):Ev1 C H (.abp a b q p) l z:=⟨λKv kk=>ha.run _ (hb.run _ (aQ rfl (aQ h kk)))⟩
def Ev1.ite{t a b:ME}{r:Bool}(ht:qn C H t l r)(h:Ev1 C H (if r then a else b) l z):Ev1 C H (.ife t a b p) l z:=⟨λKv k=>ht.run (λr=>br r (pe C H a l Kv) (pe C H b l Kv)) (by cases r;exact h.run Kv k;exact h.run Kv k)⟩
theorem Ev1.not{a:ME}{r:Bool}(h:qn C H a l r):Ev1 C H (.not a p) l (.bool (!r)):=⟨λKv k=>h.run _ k⟩
def qp{α:Type}{f:PV→(List PV→Prop)→Prop}{p:α→PV}{h:α→List PV}:∀{as:List α}{K:List PV→Prop},(∀a∈as,∀K':List PV→Prop,K' (h a)→f (p a) K')→K (as.flatMap h)→mh f (as.map p) K:=by
 intro as;induction as with
 |nil=>
  intro _ _ k;exact k
 |cons a r ihr=>
  intro K hf k;exact hf a (.head _) _ (ihr (λe he=>hf e (.tail _ he)) (by simpa using k))
theorem Ev1.comp{α:Type}{f:α→PV}{h:α→List PV}{as:List α}{t:Tg}{x:PV}(hi:Ev1 C H it l x)(hd:nM H x=some (as.map f))(hf:aE as.length=true)(ht:∀a∈as,∀K':List PV→Prop,K' (h a)→el (gP t (kN l cap) (f a)) λl'=>tA C H Pl l' λr=>br r (pe C H Pa l' λy=>K' [y]) (K' []))(hy:as.flatMap h=ys)(hg:aE ys.length=true):Ev1 C H (.comp Pa t it Pl cap sc p) l (.lst ys):=
 ⟨λKv k=>hi.run _ (aQ hd (bE (by rw[NO];exact hf) (qp ht (by rw[hy];exact bE hg k))))⟩
theorem Ev1.map{α:Type}{f:α→PV}{g:α→PV}{as:List α}{t:Tg}{x:PV}(hi:Ev1 C H it l x)(hd:nM H x=some (as.map f))(hf:aE as.length=true)(ht:∀a∈as,∃l',gP t (kN l cap) (f a)=some l'∧Ev1 C H Pa l' (g a)):Ev1 C H (.comp Pa t it .nil cap sc p) l (.lst (as.map g)):=
 Ev1.comp (h:=λa=>[g a]) hi hd hf (λa ha K' k=>(ht a ha).elim λl' q=>aQ q.1 (q.2.run _ k)) (by rw[List.map_eq_flatMap]) (by rw[NO];exact hf)
def n7{α β:Type}{g:α→β}{c:α→Bool}:∀as:List α,(as.flatMap λa=>if c a=true then[g a] else[])=(as.filter c).map g:=by
 intro as;induction as with
 |nil=>
  exact rfl
 |cons a r ihr=>
  rw[OD,ihr,Ov];split<;>rfl
theorem Ev1.filter{α:Type}{f:α→PV}{g:α→PV}{c:α→Bool}{as:List α}{t:Tg}{x:PV}(hi:Ev1 C H it l x)(hd:nM H x=some (as.map f))(hf:aE as.length=true)(ht:∀a∈as,∃l',gP t (kN l cap) (f a)=some l'∧qn C H e l' (c a)∧(c a=true→Ev1 C H Pa l' (g a))):Ev1 C H (.comp Pa t it (.cons e .nil) cap sc p) l (.lst ((as.filter c).map g)):=
 Ev1.comp (h:=λa=>if c a=true then[g a] else[]) hi hd hf (λa ha K' k=>(ht a ha).elim λl' q=>aQ q.1 (q.2.1.run (λr=>br r (br true (pe C H Pa l' λy=>K' [y]) (K' [])) (br false (pe C H Pa l' λy=>K' [y]) (K' []))) (by
  cases e:c a with
  |true=>rw[N1 e] at k;exact(q.2.2 e).run _ k
  |false=>rw[NY (by rw[e];exact N')] at k;exact k)))
  (n7 as) (au (by rw[NO];exact NT (OK _ _) (dq hf)))
end
def ir(a b:Nat):Builtin.bitAnd (a:Int) (b:Int)=((a&&&b:Nat):Int):=by
 unfold Builtin.bitAnd;rw[N0 (Oy a),N0 (Oy b)];rfl
theorem wZ(a b:Nat):Builtin.bitOr (a:Int) (b:Int)=((a|||b:Nat):Int):=by
 have h:∀n:Nat,decide (0≤Builtin.bitNot (n:Int))=false:=λn=>Os (by unfold Builtin.bitNot;lia);have h2:∀n:Nat,Builtin.bitNot (Builtin.bitNot (n:Int))=n:=λn=>by unfold Builtin.bitNot;lia
 unfold Builtin.bitOr Builtin.bitAnd;rw[h a,h b];show Builtin.bitNot (Builtin.bitNot ((((Builtin.bitNot (Builtin.bitNot (a:Int))).toNat|||(Builtin.bitNot (Builtin.bitNot (b:Int))).toNat:Nat)):Int))=_;rw[h2,h2,h2];rfl
def ug(a b:Nat):(a|||b)=(a^^^b)+(a&&&b):=by
 induction a using Nat.strongRecOn generalizing b with
 |_ a ih=>
  by_cases h:a=0
  ·subst h;simp
  ·have q:=ih (a/2) (Nat.div_lt_self (Nat.pos_of_ne_zero h) kD) (b/2);have e1:=Nat.or_div_two (a:=a) (b:=b);have e2:=Nat.xor_div_two (a:=a) (b:=b);have e3:=Nat.and_div_two (a:=a) (b:=b);have m1:(a|||b)%2=(a%2|||b%2):=by simpa using Nat.or_mod_two_pow (a:=a) (b:=b) (n:=1)
   have m2:(a^^^b)%2=(a%2^^^b%2):=by simpa using Nat.xor_mod_two_pow (a:=a) (b:=b) (n:=1)
   have m3:(a&&&b)%2=(a%2&&&b%2):=by simpa using Nat.and_mod_two_pow (a:=a) (b:=b) (n:=1)
   have c:(a%2|||b%2)=(a%2^^^b%2)+(a%2&&&b%2):=by
    rcases Nat.mod_two_eq_zero_or_one a with h | h<;>rcases Nat.mod_two_eq_zero_or_one b with k | k<;>rw[h,k]<;>rfl
   rw[← e1,← e2,← e3] at q;rw[← m1,← m2,← m3] at c;have k1:=Nat.div_add_mod' (a|||b) 2;rw[c,q] at k1;exact k1.symm.trans (yD (Nat.div_add_mod' (a^^^b) 2) (Nat.div_add_mod' (a&&&b) 2))
def Bg(a b:Nat):Builtin.bitXor (a:Int) (b:Int)=((a^^^b:Nat):Int):=by
 unfold Builtin.bitXor;rw[wZ,ir,ug];exact JB _ _
def lX{a b k:Nat}(h:b<2^k):Builtin.bitOr ((a*2^k:Nat):Int) (b:Int)=((a*2^k+b:Nat):Int):=by
 rw[wZ,Nat.mul_comm,Nat.two_pow_add_eq_or_of_lt h]
def j0(a b:Nat):(a:Int).fdiv (b:Int)=((a/b:Nat):Int):=by
 rw[Int.fdiv_eq_ediv_of_nonneg _ (Oy b)];rfl
def Cb(a b:Nat):(a:Int).fmod (b:Int)=((a%b:Nat):Int):=by
 rw[Int.fmod_eq_emod_of_nonneg _ (Oy b)];rfl
def dB{a:Nat}(h:a<2^62):cY (a:Int)=true:=by
 show(decide _&&decide _)=true;rw(occs:=.all) [N0 (Int.le_trans kD (Oy a)),N0 (Int.lt_of_lt_of_le (Int.ofNat_lt.mpr h) kD)];rfl
noncomputable def bW:Nat→MB→MB
 |0,b=>b
 |n+1,.cons _ b=>bW n b
 |_+1,.nil=>.nil
noncomputable def lW:MB→MB
 |.cons (.abw _ _ b _) _=>b
 |.cons (.ab1 _ _ _ _ b _) _=>b
 |.cons (.aby _ b _) _=>b
 |.cons (.ifS _ b _ _) _=>b
 |_=>.nil
section
structure H7(C:cu):Prop where
 v:C.fa "_b64_value"=true
 vc:∀c d:Int,jW c=d→C.f "_b64_value" [.int c] (.int d)
 a:C.fa "_ascii_buffer"=true
 ac:∀b,C.f "_ascii_buffer" [.bytes b] (.bytes b)
 t:C.fa "_truth"=true
 tc:∀b,C.f "_truth" [.bool b] (.bool b)
structure A2(l:Loc)(q lc:Nat):Prop where
 s:l 1=some (.bool false)
 o:l 3=some (.obj 0)
 q:l 4=some (.int q)
 c:l 5=some (.int lc)
 p:l 6=some (.int 0)
 i:∃i,l 7=some (.int i)
def tY:MB:=lW (bW 7 F8.1)
def lO(A:H7 C){q v:Nat}{c:Int}(S:A2 l q lc)(hv:v<64)(hc:c≠61)(hb:jW c=v)(k:Xb C (bW 5 tY) (upd (upd (upd l 8 (.int c)) 8 (.int v)) 6 (.int 0)) H K):Xb C tY (upd l 8 (.int c)) H K:=by
 exact bc (r:=false) ((Ev1.cmp (Ev1.v rfl) (Ev1.c rfl) (iG.trans (N2 some (Os hc)))).t rfl) nofun λ_=>aF (Ev1.call A.v (dt.one (Ev1.v rfl)) (A.vc c v hb)) rfl (bc (r:=false) ((Ev1.cmp (Ev1.v rfl) (Ev1.c rfl) (Gs.trans (N2 some (Os (mt (Int.ofNat_le (m:=64)).mp (Nat.not_le.mpr hv)))))).t rfl) nofun λ_=>bc (r:=false) ((Ev1.acG (Ev1.v (by exact S.p)) rfl).t rfl) nofun λ_=>aF (Ev1.c rfl) rfl k)
def eY{a b:Int}(h:a≠b):dS H .eq (.int a) (.int b)=some false:=iG.trans (N2 some (Os h))
def pY{a b:Int}(h:a=b):dS H .eq (.int a) (.int b)=some true:=iG.trans (N2 some (N0 h))
def lP{q:Nat}(S:A2 l q lc)(k:∀l',A2 l' q lc→K .next l' H):Xb C (bW 6 tY) l H K:=by
 refine a9 S.i λi hi=>aF (Ev1.bin (Ev1.v hi) (Ev1.c rfl) λ_ k=>k) rfl (aB (k _ ⟨S.s,S.o,S.q,S.c,S.p,_,rfl⟩))
def MO(A:H7 C){v:Nat}{c:Int}(S:A2 l 0 lc)(hv:v<64)(hc:c≠61)(hb:jW c=v)(k:∀l',A2 l' 1 v→K .next l' [.lst out]):Xb C tY (upd l 8 (.int c)) [.lst out] K:=by
 refine lO A S hv hc hb (cM (r:=true) ((Ev1.cmp (Ev1.v (by exact S.q)) (Ev1.c rfl) (pY rfl)).t rfl) (λ_=>aF (Ev1.c rfl) rfl (aF (Ev1.v rfl) rfl (aB (aA (lP ⟨by exact S.s,by exact S.o,rfl,rfl,rfl,by exact S.i⟩ k))))) nofun)
def MQ(A:H7 C){v:Nat}{c:Int}(S:A2 l 1 lc)(hl:lc<64)(hv:v<64)(hc:c≠61)(hb:jW c=v)(hf:aE out.length=true)(k:∀l',A2 l' 2 (v%16)→K .next l' [.lst (out++[.int ((lc*4+v/16:Nat):Int)])]):Xb C tY (upd l 8 (.int c)) [.lst out] K:=by
 refine lO A S hv hc hb (cM (r:=false) ((Ev1.cmp (Ev1.v (by exact S.q)) (Ev1.c rfl) (eY kD)).t rfl) nofun λ_=>cM (r:=true) ((Ev1.cmp (Ev1.v (by exact S.q)) (Ev1.c rfl) (pY rfl)).t rfl) (λ_=>aF (Ev1.c rfl) rfl (abi (by exact S.o) rfl hf (Ev1.bin (z:=.int ((lc*4+v/16:Nat):Int)) (Ev1.bin (z:=.int ((lc*2^2:Nat):Int)) (Ev1.v (by exact S.c)) (Ev1.c rfl) λKv q=>?_) (Ev1.bin (z:=.int ((v/16:Nat):Int)) (Ev1.v rfl) (Ev1.c rfl) λKv q=>?_) λKv q=>?_) ?_)) nofun)
 ·rw(occs:=.all) [lU];rw(occs:=.all) [show decide ((0:Int)≤2)=true from rfl,bF,show decide ((2:Int)≤1000)=true from by decide,bF,dB (az hl),bF];exact q
 ·rw[pR];exact bE kD (by rw[show(2:Int)^(4:Int).toNat=((16:Nat):Int) from rfl,j0];exact q)
 ·rw[lH,lX (qU hv)];exact q
 refine aF (Ev1.bin (z:=.int ((v%16:Nat):Int)) (Ev1.v rfl) (Ev1.c rfl) λKv q=>?_) rfl (aB (aA (aB (aA (lP ⟨by exact S.s,by exact S.o,rfl,rfl,rfl,by exact S.i⟩ k)))));rw[kg,show(15:Int)=((15:Nat):Int) from rfl,ir,show(v&&&15)=v%16 from Nat.and_two_pow_sub_one_eq_mod v 4];exact q
def MJ(A:H7 C){v:Nat}{c:Int}(S:A2 l 2 lc)(hl:lc<64)(hv:v<64)(hc:c≠61)(hb:jW c=v)(hf:aE out.length=true)(k:∀l',A2 l' 3 (v%4)→K .next l' [.lst (out++[.int ((lc*16+v/4:Nat):Int)])]):Xb C tY (upd l 8 (.int c)) [.lst out] K:=by
 refine lO A S hv hc hb (cM (r:=false) ((Ev1.cmp (Ev1.v (by exact S.q)) (Ev1.c rfl) (eY kD)).t rfl) nofun λ_=>cM (r:=false) ((Ev1.cmp (Ev1.v (by exact S.q)) (Ev1.c rfl) (eY kD)).t rfl) nofun λ_=>cM (r:=true) ((Ev1.cmp (Ev1.v (by exact S.q)) (Ev1.c rfl) (pY rfl)).t rfl) (λ_=>aF (Ev1.c rfl) rfl (abi (by exact S.o) rfl hf (Ev1.bin (z:=.int ((lc*16+v/4:Nat):Int)) (Ev1.bin (z:=.int ((lc*2^4:Nat):Int)) (Ev1.v (by exact S.c)) (Ev1.c rfl) λKv q=>?_) (Ev1.bin (z:=.int ((v/4:Nat):Int)) (Ev1.v rfl) (Ev1.c rfl) λKv q=>?_) λKv q=>?_) ?_)) nofun)
 ·rw(occs:=.all) [lU];rw(occs:=.all) [show decide ((0:Int)≤4)=true from rfl,bF,show decide ((4:Int)≤1000)=true from by decide,bF,dB (az hl),bF];exact q
 ·rw[pR];exact bE kD (by rw[show(2:Int)^(2:Int).toNat=((4:Nat):Int) from rfl,j0];exact q)
 ·rw[lH,lX (qU hv)];exact q
 refine aF (Ev1.bin (z:=.int ((v%4:Nat):Int)) (Ev1.v rfl) (Ev1.c rfl) λKv q=>?_) rfl (aB (aA (aB (aA (aB (aA (lP ⟨by exact S.s,by exact S.o,rfl,rfl,rfl,by exact S.i⟩ k)))))));rw[kg,show(3:Int)=((3:Nat):Int) from rfl,ir,show(v&&&3)=v%4 from Nat.and_two_pow_sub_one_eq_mod v 2];exact q
def Mv(A:H7 C){v:Nat}{c:Int}(S:A2 l 3 lc)(hl:lc<64)(hv:v<64)(hc:c≠61)(hb:jW c=v)(hf:aE out.length=true)(k:∀l',A2 l' 0 0→K .next l' [.lst (out++[.int ((lc*64+v:Nat):Int)])]):Xb C tY (upd l 8 (.int c)) [.lst out] K:=by
 refine lO A S hv hc hb (cM (r:=false) ((Ev1.cmp (Ev1.v (by exact S.q)) (Ev1.c rfl) (eY kD)).t rfl) nofun λ_=>cM (r:=false) ((Ev1.cmp (Ev1.v (by exact S.q)) (Ev1.c rfl) (eY kD)).t rfl) nofun λ_=>cM (r:=false) ((Ev1.cmp (Ev1.v (by exact S.q)) (Ev1.c rfl) (eY kD)).t rfl) nofun λ_=>aF (Ev1.c rfl) rfl (abi (by exact S.o) rfl hf (Ev1.bin (z:=.int ((lc*64+v:Nat):Int)) (Ev1.bin (z:=.int ((lc*2^6:Nat):Int)) (Ev1.v (by exact S.c)) (Ev1.c rfl) λKv q=>?_) (Ev1.v rfl) λKv q=>?_) ?_))
 ·rw(occs:=.all) [lU];rw(occs:=.all) [show decide ((0:Int)≤6)=true from rfl,bF,show decide ((6:Int)≤1000)=true from by decide,bF,dB (az hl),bF];exact q
 ·rw[lH,lX hv];exact q
 exact aF (Ev1.c rfl) rfl (aB (aA (aB (aA (aB (aA (lP ⟨by exact S.s,by exact S.o,rfl,rfl,rfl,by exact S.i⟩ k)))))))
def km(l:List Nat)(h:∀n∈l,n<256):bytesOf (l.map λ(n:Nat)=>PV.int n)=some (l.map λ(n:Nat)=>(n:Int)):=by
 induction l with
 |nil=>rfl
 |cons n l ih=>
  show(if(decide (0≤(n:Int))&&decide ((n:Int)<256))=true then(bytesOf (l.map λ(n:Nat)=>PV.int n)).map _ else none)=_;have h1:n<256:=h n (.head _);rw[N0 (Oy n),N0 ((Int.ofNat_lt (m:=256)).mpr h1),ih λm hm=>h m (.tail _ hm)];rfl
def pz{l:List PV}{ns:List Int}(h1:listItems H d=some l)(h2:bytesOf l=some ns)(h3:aE ns.length=true):CX H .bytes [d]=some (.bytes (byteArr ns)):=by
 show(listItems H d).bind (λl=>(bytesOf l).bind λns=>if aE ns.length=true then some (PV.bytes (byteArr ns)) else none)=_;rw[h1];show(bytesOf l).bind (λns=>if aE ns.length=true then some (PV.bytes (byteArr ns)) else none)=_;rw[h2];exact N1 h3
theorem LR(A:H7 C){b:Array UInt8}{c1 c2 c3 c4 v1 v2 v3 v4:Nat}(hb:dT b=[.int c1,.int c2,.int c3,.int c4])(hv:v1<64∧v2<64∧v3<64∧v4<64)(hn:c1≠61∧c2≠61∧c3≠61∧c4≠61)(hc:jW c1=v1∧jW c2=v2∧jW c3=v3∧jW c4=v4):fnW C F8.1 [.bytes b,.bool false] (·=.bytes (byteArr ([v1*4+v2/16,v2%16*16+v3/4,v3%4*64+v4].map λ(n:Nat)=>(n:Int)))):=by
 refine ft rfl (aF (Ev1.call A.a (dt.one (Ev1.v rfl)) (A.ac b)) rfl (aF (Ev1.call A.t (dt.one (Ev1.v rfl)) (A.tc false)) rfl (cW (aF (Ev1.c rfl) rfl (aF (Ev1.c rfl) rfl (aF (Ev1.c rfl) rfl (aF (Ev1.c rfl) rfl (da (ds:=[.int c1,.int c2,.int c3,.int c4]) (Ev1.v rfl) (N2 some hb) rfl (eu rfl (MO A (lc:=0) (by exact⟨rfl,rfl,rfl,rfl,rfl,_,rfl⟩) hv.1 (by lia) hc.1 λl1 S1=>cP (eu rfl (MQ A S1 hv.1 hv.2.1 (by lia) hc.2.1 rfl λl2 S2=>cP (eu rfl (MJ A S2 (Nat.lt_trans (Nat.mod_lt _ kD) (by decide:16<64)) hv.2.2.1 (by lia) hc.2.2.1 rfl λl3 S3=>cP (eu rfl (Mv A S3 (Nat.lt_trans (Nat.mod_lt _ kD) (by decide:4<64)) hv.2.2.2 (by lia) hc.2.2.2 rfl λl4 S4=>cP (qL (aA (bc (r:=false) ((Ev1.cmp (Ev1.v (by exact S4.q)) (Ev1.c rfl) (eY kD)).t rfl) nofun λ_=>bc (r:=false) ((Ev1.acG (Ev1.cmp (Ev1.v (by exact S4.q)) (Ev1.c rfl) (show dS _ .ne (.int 0) (.int 0)=some false from rfl)) rfl).t rfl) nofun λ_=>ct (Ev1.bi (dt.one (Ev1.v (by exact S4.o))) (d:=.bytes (byteArr ([v1*4+v2/16,v2%16*16+v3/4,v3%4*64+v4].map λ(n:Nat)=>(n:Int)))) ?_) (aQ rfl rfl))))))))))))))))))));exact pz rfl (km [v1*4+v2/16,v2%16*16+v3/4,v3%4*64+v4] (by
  intro n hn;simp only[NU,Ou,or_false] at hn;rcases hn with rfl | rfl | rfl
  ·exact bu (N9 4 hv.1) (qU (m:=4) hv.2.1)
  ·exact bu (N9 16 (Nat.mod_lt v2 (by decide:0<16))) (qU (m:=16) hv.2.2.1)
  ·exact bu (N9 64 (Nat.mod_lt v3 (by decide:0<4))) hv.2.2.2)) rfl
end
section
structure Jx(C:cu):Prop where
 a:C.fa "_buffer"=true
 ac:∀b,C.f "_buffer" [.bytes b] (.bytes b)
 t:C.fa "_truth"=true
 tc:∀b,C.f "_truth" [.bool b] (.bool b)
 b:C.g "_B64" (.bytes Fb)
def sg(k:Nat):Nat:=(Fb.toList.getD k 0).toNat
structure B2(l:Loc)(bits lc:Nat):Prop where
 s:l 1=some (.bool false)
 o:l 3=some (.obj 0)
 q:l 4=some (.int bits)
 c:l 5=some (.int lc)
def LU:MB:=lW (bW 5 Fd.1)
def JS:MB:=lW (bW 2 LU)
def Cg:Fb.size=64:=by rfl
def GV{k:Nat}(h:k<64):pI H (.bytes Fb) (.int k)=some (.int (sg k)):=by
 show(if(decide (0≤(k:Int))&&(decide ((k:Int)<Fb.size)&&aE Fb.size))=true then some (PV.int ((Fb.toList.getD (k:Int).toNat 0).toNat)) else none)=_;rw[Cg,N0 (Oy k),N0 (Int.ofNat_lt.mpr h)];rfl
def EC(B:Jx C)(S:B2 l (bits+6) lc)(hf:aE out.length=true)(k:∀l',B2 l' bits lc→K .next l' [.lst (out++[.int (sg (lc/2^bits%64))])]):Xb C JS l [.lst out] K:=by
 refine abi S.o rfl hf (Ev1.idx (Ev1.gv B.b) (Ev1.bin (z:=.int ((lc/2^bits%64:Nat):Int)) (Ev1.bin (z:=.int ((lc/2^bits:Nat):Int)) (Ev1.v S.c) (Ev1.bin (z:=.int (bits:Int)) (Ev1.v S.q) (Ev1.c rfl) λKv q=>?_) λKv q=>?_) (Ev1.c rfl) λKv q=>?_) (GV (Nat.mod_lt _ kD))) ?_
 ·rw[vk,show(((bits+6:Nat):Int)-6)=bits from JB bits 6];exact q
 ·rw[pR,N0 (Oy bits),bF,show(2:Int)^(bits:Int).toNat=((2^bits:Nat):Int) by simp,j0];exact q
 ·rw[kg,show(63:Int)=((63:Nat):Int) from rfl,ir,show(lc/2^bits&&&63)=lc/2^bits%64 from Nat.and_two_pow_sub_one_eq_mod _ 6];exact q
 refine aF (Ev1.bin (z:=.int (bits:Int)) (Ev1.v S.q) (Ev1.c rfl) λKv q=>?_) rfl (aB (k _ ⟨S.s,S.o,rfl,S.c⟩));rw[vk,show(((bits+6:Nat):Int)-6)=bits from JB bits 6];exact q
def ED(S:B2 l bits lc){r:Bool}(h:decide (6≤bits)=r):qn C H (.cmp .ge (.v 4 p) (.c (.int 6) n q) p') l r:=
 (Ev1.cmp (Ev1.v S.q) (Ev1.c rfl) (Gs.trans (N2 some (by rw[h.symm];exact decide_eq_decide.mpr (Int.ofNat_le (m:=6)))))).t rfl
noncomputable def nO(lc:Nat):Nat→List PV
 |n+6=>.int (sg (lc/2^n%64))::nO lc n
 |_=>[]
def Cr(h:n<6):nO lc n=[]:=by
 exact cH (P:=λn=>nO lc n=[]) (cH (cH (cH (cH (cH ye rfl) rfl) rfl) rfl) rfl) rfl n h
def Fa(B:Jx C){c:ME}(hc:∀l H b r,B2 l b lc→decide (6≤b)=r→qn C H c l r)(S:B2 l bits lc)(hf:out.length+bits≤1000)(k:∀l',B2 l' (bits%6) lc→K .next l' [.lst (out++nO lc bits)]):
  ab' (λl H K=>yQ C H c l K) (λl H K=>xb C JS l H K) l [.lst out] K:=by
 refine ak (λn l H=>∃out',B2 l n lc∧H=[.lst out']∧out'++nO lc n=out++nO lc bits∧n%6=bits%6∧out'.length+n≤1000) (aJ bits out S rfl rfl rfl hf) ?_;rintro n l H ⟨out',S',rfl,e,em,le⟩;rcases Nat.lt_or_ge n 6 with h | h
 ·refine(hc l _ n false S' (Os (ao h))).run _ ?_;rw[Cr h,N6] at e;rw[e];exact k l (by rw[em.symm,Nat.mod_eq_of_lt h];exact S')
 ·obtain⟨m,rfl⟩:∃m,n=m+6:=⟨n-6,(ac h).symm⟩;exact(hc l _ (m+6) true S' (N0 ax)).run _ ((EC B S' (au (a8 le)) λl' Zp=>⟨m,eQ,_,Zp,rfl,by rw[e.symm,Oi];rfl,(Nat.add_mod_right m 6).symm.trans em,by rw[NP];simp;exact a8 le⟩).run)
def qC(B:Jx C){o:Nat}(S:B2 l bits lc)(ho:o<256)(hl:lc<65536)(hb:bits<6)(hf:out.length≤900)(k:∀l',B2 l' ((bits+8)%6) ((lc*256+o)%65536)→K .next l' [.lst (out++nO ((lc*256+o)%65536) (bits+8))]):Xb C LU (upd l 6 (.int o)) [.lst out] K:=by
 refine aF (Ev1.bin (z:=.int (((lc*256+o)%65536:Nat):Int)) (Ev1.bin (z:=.int ((lc*256+o:Nat):Int)) (Ev1.bin (z:=.int ((lc*2^8:Nat):Int)) (Ev1.v (by exact S.c)) (Ev1.c rfl) λKv q=>?_) (Ev1.v rfl) λKv q=>?_) (Ev1.c rfl) λKv q=>?_) rfl ?_
 ·rw(occs:=.all) [lU,show decide ((0:Int)≤8)=true from rfl,bF,show decide ((8:Int)≤1000)=true from by decide,bF,dB (az hl),bF];exact q
 ·rw[lH,lX ho];exact q
 ·rw[kg,show(65535:Int)=((65535:Nat):Int) from rfl,ir,show(lc*256+o&&&65535)=(lc*256+o)%65536 from Nat.and_two_pow_sub_one_eq_mod _ 16];exact q
 refine aF (Ev1.bin (z:=.int ((bits+8:Nat):Int)) (Ev1.v (by exact S.q)) (Ev1.c rfl) λKv q=>?_) rfl ?_
 ·rw[FF];exact q
 exact mE (Fa B (λl H b r S h=>ED S h) (by exact⟨S.s,S.o,rfl,rfl⟩) (bu hf hb) λl' S'=>aA (aB (k l' S')))
def LQ(B:Jx C){b:Array UInt8}{o1 o2 o3:Nat}(hb:dT b=[.int o1,.int o2,.int o3])(h1:o1<256)(h2:o2<256)(h3:o3<256):
  fnW C Fd.1 [.bytes b,.bool false] (·=.bytes (byteArr ([sg (o1/4),sg (o1%4*16+o2/16),sg (o2%16*4+o3/64),sg (o3%64)].map λ(n:Nat)=>(n:Int)))):=by
 refine ft rfl (aF (Ev1.call B.a (dt.one (Ev1.v rfl)) (B.ac b)) rfl (aF (Ev1.call B.t (dt.one (Ev1.v rfl)) (B.tc false)) rfl (cW (aF (Ev1.c rfl) rfl (aF (Ev1.c rfl) rfl (da (ds:=[.int o1,.int o2,.int o3]) (Ev1.v rfl) (N2 some hb) rfl (eu rfl (qC B (bits:=0) (lc:=0) (out:=[]) (by exact⟨rfl,rfl,rfl,rfl⟩) h1 kD kD kD λl1 S1=>cP (eu rfl (qC B S1 h2 (Nat.mod_lt _ kD) kD (Nat.le_of_ble_eq_true rfl) λl2 S2=>cP (eu rfl (qC B S2 h3 (Nat.mod_lt _ kD) kD (Nat.le_of_ble_eq_true rfl) λl3 S3=>cP (qL (aA (cM (r:=false) ((Ev1.cmp (Ev1.v (by exact S3.q)) (Ev1.c rfl) (eY kD)).t rfl) nofun λ_=>bc (r:=false) ((Ev1.cmp (Ev1.v (by exact S3.q)) (Ev1.c rfl) (eY kD)).t rfl) nofun λ_=>aB (aA (bc (r:=false) ((Ev1.v (by exact S3.s)).t rfl) nofun λ_=>ct (Ev1.bi (dt.one (Ev1.v (by exact S3.o))) (pz rfl (ns:=[sg (o1/4),sg (o1%4*16+o2/16),sg (o2%16*4+o3/64),sg (o3%64)].map λ(n:Nat)=>(n:Int)) (Eq.trans (N2 bytesOf ?_) (km [sg (o1/4),sg (o1%4*16+o2/16),sg (o2%16*4+o3/64),sg (o3%64)] ?_)) rfl)) (aQ rfl rfl))))))))))))))))))
 ·show[PV.int (sg ((0*256+o1)%65536/4%64)),PV.int (sg (((0*256+o1)%65536*256+o2)%65536/16%64)),PV.int (sg ((((0*256+o1)%65536*256+o2)%65536*256+o3)%65536/64%64)),PV.int (sg ((((0*256+o1)%65536*256+o2)%65536*256+o3)%65536/1%64))]=_;have m:=M1 h1 h2 h3;have h:=(Mt h1 h2 h3).2.1;rw(occs:=.all) [m.1,m.2.1,m.2.2,h.1,h.2.1,h.2.2.1,h.2.2.2];rfl
 ·intro n hn;have:∀k,sg k<256:=λk=>UInt8.toNat_lt _;simp only[NU,Ou,or_false] at hn;rcases hn with rfl | rfl | rfl | rfl<;>exact this _
end
section
def Ha(w:World)(v u:Value):bindArgs (bv w 151) ⟨[v],[("strict_mode",u)]⟩=pure ((HY.take 2).zip [v,u]):=kR
def Ic(w:World)(v u:Value):bindArgs (bv w 159) ⟨[v],[("newline",u)]⟩=pure ((HC.take 2).zip [v,u]):=kR
section
variable{R:List PV→PV→Prop}
def ah.add{c:Addr}{T:List Str}(h:ah S n C)(L:Laid S)(hx:yP C)(F:FnAt S.w a c T b cd ar)(hb:Binds S.w a T ar)(hR:∀ds d,R ds d→ds.length=ar∧fnW C b ds (·=d))(hg:autoParam (nsFind (nC S.w) x=some (.ref a)) Internal.CJ):ah S (n+1) (C.fn x R):=
 h.fn (Nat.le_succ n) (L.glob hg) (L.abe F.nt) (L.at F.look) rfl (λds d q=>F.gives L h hx hb (hR ds d q).1 (hR ds d q).2) nofun
def bq(h:R ds d):(C.fn x R RK).f x ds d:=.inl ⟨rfl,h⟩
def aj(h:y≠x)(k:C.f y ds d):(C.fn x R RK).f y ds d:=.inr ⟨h,k⟩
def tw{kw:Str}{u:PV}(h:RK kw ds u d):(C.fn x R RK).k x kw ds u d:=.inl ⟨rfl,h⟩
def pw{kw:Str}{u:PV}(h:y≠x)(k:C.k y kw ds u d):(C.fn x R RK).k y kw ds u d:=.inr ⟨h,k⟩
end
def Nx(ds:List PV)(d:PV):Prop:=∃x,ds=[.str x]∧Txt.isascii x=true∧aE x.length=true∧d=.bytes (asciiBytes x)
def Np(ds:List PV)(d:PV):Prop:=∃b,ds=[.bytes b]∧d=.bytes b
def NE(ds:List PV)(d:PV):Prop:=∃b,ds=[.bool b]∧d=.bool b
def NM(ds:List PV)(d:PV):Prop:=∃c e,ds=[.int c]∧d=.int e∧jW c=e
def C1:cu:=((((C0.fn "_bytes_from_decode_data" Nx).fn "_ascii_buffer" Np).fn "_buffer" Np).fn "_truth" NE).fn "_b64_value" NM
def jS:BP C0:=λt ht=>.inl (aV t ht rfl rfl)
def BN(L:Laid S):ah S 5 C1:=by
 refine ah.add (ah.add (ah.add (ah.add (ah.add (z4 L) L i7 (J7 S.w) bR ?_) L i7 (Kw S.w) bR ?_) L i7 (LF S.w) bR ?_) L i7 (L4 S.w) bR ?_) L i7 (JX S.w) bR ?_
 ·rintro _ _ ⟨x,rfl,h1,h2,rfl⟩;exact⟨rfl,K8 jS h1 h2⟩
 ·rintro _ _ ⟨x,rfl,rfl⟩;exact⟨rfl,J9 jS⟩
 ·rintro _ _ ⟨x,rfl,rfl⟩;exact⟨rfl,K0 jS⟩
 ·rintro _ _ ⟨x,rfl,rfl⟩;exact⟨rfl,LJ jS⟩
 ·rintro _ _ ⟨x,e,rfl,rfl,h⟩;exact⟨rfl,LH h⟩
def oB(l:List Nat):Str:=⟨(l.map sg).toArray⟩
def iz:∀v,v<64→jW (sg v)=v∧sg v≠61∧sg v<128:=kE
noncomputable def Dv(v1 v2 v3 v4:Nat):List Int:=[v1*4+v2/16,v2%16*16+v3/4,v3%4*64+v4].map λ(n:Nat)=>(n:Int)
noncomputable def kW(o1 o2 o3:Nat):List Nat:=[o1/4,o1%4*16+o2/16,o2%16*4+o3/64,o3%64]
def Kz(kw:Str)(ds:List PV)(u d:PV):Prop:=kw="strict_mode"∧u=.bool false∧∃v1 v2 v3 v4,v1<64∧v2<64∧v3<64∧v4<64∧ds=[.bytes (asciiBytes (oB [v1,v2,v3,v4]))]∧d=.bytes (byteArr (Dv v1 v2 v3 v4))
def Mx(kw:Str)(ds:List PV)(u d:PV):Prop:=kw="newline"∧u=.bool false∧∃o1 o2 o3,o1<256∧o2<256∧o3<256∧ds=[.bytes (byteArr ([o1,o2,o3].map λ(n:Nat)=>(n:Int)))]∧d=.bytes (byteArr ((kW o1 o2 o3).map λ(v:Nat)=>((sg v:Nat):Int)))
def sM{v:Nat}(h:v<64):(sg v).toUInt8.toNat=sg v:=by
 have:=(iz v h).2.2;simp[Nat.toUInt8];exact az this
def Jg:H7 C1 where
 v:=kR
 vc c d h:=bq (aN c d rfl rfl h)
 a:=kR
 ac b:=aj kD (aj kD (aj kD (bq (ak b rfl rfl))))
 t:=kR
 tc b:=aj kD (bq (ak b rfl rfl))
def uD:Jx C1 where
 a:=kR
 ac b:=aj kD (aj kD (bq (ak b rfl rfl)))
 t:=kR
 tc b:=aj kD (bq (ak b rfl rfl))
 b:=.inr ⟨rfl,rfl⟩
def C2:cu:=(C1.fn "a2b_base64" (λ_ _=>False) Kz).fn "b2a_base64" (λ_ _=>False) Mx
section
def ah.acN{c:Addr}{T:List Str}{kw:Str}(h:ah S n C)(L:Laid S)(hx:yP C)(F:FnAt S.w a c T b cd 2)(hg:nsFind (nC S.w) x=some (.ref a))(hb:∀v u,bindArgs (bv S.w a) ⟨[v],[(kw,u)]⟩=pure ((T.take 2).zip [v,u]))(hR:∀k ds u d,RK k ds u d→k=kw∧ds.length=1∧fnW C b (ds++[u]) (·=d)):ah S (n+1) (C.fn x (λ_ _=>False) RK):=
 h.fn (Nat.le_succ n) (L.glob hg) (L.abe F.nt) (L.at F.look) rfl (λ_ _ q=>q.elim) λk ds u d q A g s vs w Q E room wl rs r hQ=>by
  refine aU (hR k ds u d q) λO8 Qe=>?_;obtain rfl:=O8;refine aU Qe λh1 h2=>?_;have hl:=rs.length.trans h1;revert rs;exact qv hl λv rs=>F.run (us:=[v,w]) (ds:=ds++[u]) L h (yP.xs (P:=⟨S,C,n,T⟩) hx) hx.1 room wl rfl (.of_eq (hb v w)) (aD.append (aD.one r) rs) h2 λv s' d' e k r=>hQ v s' k (e▸r)
end
def nh{l:List Nat}(h:∀v∈l,v<64):dT (asciiBytes (oB l))=l.map λ(v:Nat)=>PV.int (sg v):=by
 show(((l.map sg).toArray.toList.map λc=>c.toUInt8).toArray.toList.map λc=>PV.int c.toNat)=_;rw[List.toList_toArray,List.toList_toArray,List.map_map,List.map_map];refine List.map_congr_left λv hv=>?_;show PV.int (((sg v).toUInt8.toNat:Nat):Int)=_;rw[sM (h v hv)]
def jF{l:List Nat}(h:∀v∈l,v<256):dT (byteArr (l.map λ(n:Nat)=>(n:Int)))=l.map λ(v:Nat)=>PV.int v:=by
 show(((l.map λ(n:Nat)=>(n:Int)).map λn=>n.toNat.toUInt8).toArray.toList.map λc=>PV.int c.toNat)=_;rw[List.toList_toArray,List.map_map,List.map_map];refine List.map_congr_left λv hv=>?_;show PV.int (((v:Int).toNat.toUInt8.toNat:Nat):Int)=_;have:=h v hv;rw[show(v:Int).toNat.toUInt8.toNat=v by simp[Nat.toUInt8];exact this]
theorem Aa(L:Laid S):ah S 7 C2:=by
 refine ah.acN (kw:="newline") (ah.acN (kw:="strict_mode") (BN L) L i7 (Ko S.w) kR (Ha S.w) ?_) L i7 (JD S.w) kR (Ic S.w) ?_
 ·rintro _ _ _ _ ⟨rfl,rfl,v1,v2,v3,v4,h1,h2,h3,h4,rfl,rfl⟩;refine⟨rfl,rfl,LR Jg (nh (l:=[v1,v2,v3,v4]) ?_) ⟨h1,h2,h3,h4⟩ (aS ((iz v1 h1).2.1) ((iz v2 h2).2.1) ((iz v3 h3).2.1) ((iz v4 h4).2.1)) (aS ((iz v1 h1).1) ((iz v2 h2).1) ((iz v3 h3).1) ((iz v4 h4).1))⟩;intro v hv;simp only[NU,Ou,or_false] at hv;rcases hv with rfl | rfl | rfl | rfl<;>assumption
 ·rintro _ _ _ _ ⟨rfl,rfl,o1,o2,o3,h1,h2,h3,rfl,rfl⟩;have B:Jx (C1.fn "a2b_base64" (λ_ _=>False) Kz):=⟨kR,λb=>aj kD (uD.ac b),kR,λb=>aj kD (uD.tc b),uD.b⟩;refine⟨rfl,rfl,LQ B (jF (l:=[o1,o2,o3]) ?_) h1 h2 h3⟩;intro v hv;simp only[NU,Ou,or_false] at hv;rcases hv with rfl | rfl | rfl<;>assumption
section
variable{R:List PV→PV→Prop}
def ah.acM{c:Addr}{T:List Str}{o:Obj}{dv:List Value}{dd:List PV}(h:ah S n C)(L:Laid S)(hx:yP C)(F:FnAt S.w a c T b cd ar)(hg:nsFind (nC S.w) x=some (.ref a))(hd:(bv S.w a).defaults=.ref D)(nD:(D==72||D==89)=false)(hD:(KX S.w).lookup D=some (dX dv 0))(hdd:∀g h,aD g h dd dv)(OV:1+dv.length=ar)(hb:∀v,∃k:Option (Array Value)→Sem (List (Str×Value)),bindArgs (bv S.w a) ⟨[v],[]⟩=seqItems? (.ref D)>>=k∧k (some dv.toArray)=pure ((T.take (1+dv.length)).zip (v::dv)))(hR:∀ds d,R ds d→ds.length=1∧fnW C b (ds++dd) (·=d)):ah S (n+1) (C.fn x R):=
 h.fn (Nat.le_succ n) (L.glob hg) (L.abe F.nt) (L.at F.look) rfl (λds d q A g s vs Q E room wl rs hQ=>by
  refine aU (hR ds d q) λh1 h2=>?_;match vs,rs.length.trans h1 with
  |[v],_=>
   refine ay (hb v) λk k1 k2=>?_;refine F.run (us:=v::dv) (ds:=ds++dd) L h (yP.xs (P:=⟨S,C,n,T⟩) hx) hx.1 room wl (by rw[NR,Nat.add_comm];exact OV)
    (BindsTo.of_defaults hd (wl.W D _ (L.abe nD) (L.at hD)).1 rfl (by rw[hd];exact k1) (by rw[k2,NR,Nat.add_comm])) ?_ h2 λv s' d' e k r=>hQ v s' k (e▸r)
   exact aD.append (hdd _ _) rs) nofun
end
def Nq(ds:List PV)(d:PV):Prop:=∃o1 o2 o3,o1<256∧o2<256∧o3<256∧ds=[.bytes (byteArr ([o1,o2,o3].map λ(n:Nat)=>(n:Int)))]∧d=.bytes (byteArr ((kW o1 o2 o3).map λ(v:Nat)=>((sg v:Nat):Int)))
def NB(ds:List PV)(d:PV):Prop:=∃v1 v2 v3 v4,v1<64∧v2<64∧v3<64∧v4<64∧ds=[.str (oB [v1,v2,v3,v4])]∧d=.bytes (byteArr (Dv v1 v2 v3 v4))
def C3:cu:=(C2.fn "b64encode" Nq).fn "b64decode" NB
def Km{b:Array UInt8}(hf:C.fa "b2a_base64"=true)(hc:C.k "b2a_base64" "newline" [.bytes b] (.bool false) (.bytes b')):fnW C HJ.1 ([.bytes b]++[.none]) (·=.bytes b'):=by
 exact ft rfl (aF (Ev1.abz hf (dt.one Ev1.v) Ev1.c hc) rfl (bc (r:=false) ((Ev1.cmp Ev1.v Ev1.c (by rw[fJ];rfl)).t rfl) nofun λ_=>ct Ev1.v (aQ rfl rfl)))
def Lt{b:Array UInt8}(hf:C.fa "_bytes_from_decode_data"=true)(hc:C.f "_bytes_from_decode_data" [.str x] (.bytes b))(WT:C.fa "a2b_base64"=true)(ZP:C.k "a2b_base64" "strict_mode" [.bytes b] (.bool false) (.bytes b')):
  fnW C Ie.1 ([.str x]++[.none,.bool false]) (·=.bytes b'):=by
 exact ft rfl (aF (Ev1.call hf (dt.one Ev1.v) hc) rfl (bc (r:=false) ((Ev1.cmp Ev1.v Ev1.c (by rw[fJ];rfl)).t rfl) nofun λ_=>ct (Ev1.abz WT (dt.one Ev1.v) Ev1.v ZP) (aQ rfl rfl)))
def ua{l:List Nat}(h:∀v∈l,v<64):Txt.isascii (oB l)=true:=by
 show(l.map sg).toArray.all (λc=>decide (c<128))=true;rw[List.all_toArray,List.all_map,Ob];exact λv hv=>N0 (iz v (h v hv)).2.2
theorem JO{P:Nat→Prop}{a b c d:Nat}(h1:P a)(h2:P b)(h3:P c)(h4:P d):∀v∈[a,b,c,d],P v:=by
 intro v hv;simp only[NU,Ou,or_false] at hv;rcases hv with rfl | rfl | rfl | rfl<;>assumption
noncomputable def MC(x:Str):Arg:={arg:=x,annotation:=none,pos:=default}
def Nl(x:Str)(as:List Str)(ds:List Expr)(D:Addr):FuncData:={ (default:FuncData) with name:=x,qualname:=x,params:={posonlyargs:=[],args:=as.map MC,vararg:=none,kwonlyargs:=[],kw_defaults:=[],kwarg:=none,defaults:=ds},defaults:=.ref D,kwdefaults:=.none}
def Ls(v:Value):∃k:Option (Array Value)→Sem (List (Str×Value)),bindArgs (Nl "b64encode" ["s","altchars"] [.Constant .none 0 default] 160) ⟨[v],[]⟩=seqItems? (.ref 160)>>=k∧k (some #[.none])=pure ((Hi.take 2).zip [v,.none]):=ak _ rfl rfl
def KQ(v:Value):∃k:Option (Array Value)→Sem (List (Str×Value)),bindArgs (Nl "b64decode" ["s","altchars","validate"] [.Constant .none 0 default,.Constant .none 0 default] 168) ⟨[v],[]⟩=seqItems? (.ref 168)>>=k∧k (some #[.none,.bool false])=pure ((Jb.take 3).zip [v,.none,.bool false]):=ak _ rfl rfl
def AF(L:Laid S):ah S 9 C3:=by
 refine ah.acM (dv:=[.none,.bool false]) (dd:=[.none,.bool false]) (D:=168) (o:=dX [] 0) (ah.acM (dv:=[.none]) (dd:=[.none]) (D:=160) (o:=dX [] 0) (Aa L) L i7 (LY S.w) kR kR rfl kR (λ_ _=>aN _ _ rfl rfl rfl) rfl ?_ ?_) L i7 (J2 S.w) kR kR rfl kR (λ_ _=>aN _ _ rfl rfl (aN _ _ rfl rfl rfl)) rfl ?_ ?_
 ·exact λv=>(Ls v).imp λk q=>⟨Eq.trans kR q.1,q.2⟩
 ·rintro _ _ ⟨o1,o2,o3,h1,h2,h3,rfl,rfl⟩;exact⟨rfl,Km kR (tw ⟨rfl,rfl,o1,o2,o3,h1,h2,h3,rfl,rfl⟩)⟩
 ·exact λv=>(KQ v).imp λk q=>⟨Eq.trans kR q.1,q.2⟩
 ·rintro _ _ ⟨v1,v2,v3,v4,h1,h2,h3,h4,rfl,rfl⟩;exact⟨rfl,Lt (b:=asciiBytes (oB [v1,v2,v3,v4])) kR (aj kD (aj kD (aj kD (aj kD (aj kD (aj kD (aj kD (bq (cb _ rfl (ua (JO h1 h2 h3 h4)) rfl rfl))))))))) kR (pw kD (pw kD (tw ⟨rfl,rfl,v1,v2,v3,v4,h1,h2,h3,h4,rfl,rfl⟩)))⟩
end
noncomputable def oct(x:Int):List Nat:=[(((40503*x+17).fdiv 256).fmod 256).toNat,((40503*x+17).fmod 256).toNat,((x.fdiv 64).fmod 256).toNat]
def j5(a:Int){b:Int}(h:0<b):0≤a.fmod b∧a.fmod b<b:=⟨Int.fmod_nonneg_of_pos _ h,Int.fmod_lt_of_pos _ h⟩
def DK(x:Int):Ho x=(oct x).map λ(n:Nat)=>(n:Int):=by
 unfold Ho oct;simp only[OF,List.map_nil];rw[Int.toNat_of_nonneg (j5 _ kD).1,Int.toNat_of_nonneg (j5 _ kD).1,Int.toNat_of_nonneg (j5 _ kD).1]
def kB(x:Int):∀o∈oct x,o<256:=by
 intro o ho;have h:=λa:Int=>j5 a (b:=256) kD;unfold oct at ho;simp only[NU,Ou,or_false] at ho;have a:=h ((40503*x+17).fdiv 256);have b:=h (40503*x+17);have c:=h (x.fdiv 64);rcases ho with rfl | rfl | rfl
 ·exact(Int.toNat_lt a.1).mpr a.2
 ·exact(Int.toNat_lt b.1).mpr b.2
 ·exact(Int.toNat_lt c.1).mpr c.2
def signs_at:∀k:Nat,k<64→Txt.item signs (k:Int)=⟨#[sg k]⟩:=kE
section
def AR{k:Nat}(h:k<64):pI H (.str signs) (.int k)=some (.str ⟨#[sg k]⟩):=by
 have e:signs.length=64:=by rfl
 show(if(cY (k:Int)&&(decide (-(signs.length:Int)≤k)&&decide ((k:Int)<signs.length)))=true then some (PV.str (Txt.item signs k)) else none)=_;rw[e,dB (az h),N0 (Int.le_trans kD (Oy k)),N0 (Int.ofNat_lt.mpr h),signs_at k h];rfl
def kM{xs:List PV}{k:Nat}(h:xs[k]?=some d)(hf:xs.length≤1000000)(hk:k<2^62):pI H (.lst xs) (.int k)=some d:=by
 rw[show pI H (.lst xs) (.int k)=(some xs).bind λl=>if(cY (k:Int)&&aE l.length)=true then fZ l k else Option.none from rfl,Option.bind_some,dB hk,au hf];unfold fZ;rw[N1 (Oy k),Int.toNat_natCast,h];rfl
def kP{xs:List PV}(h:xs.length≤1000000):CX H .len [.lst xs]=some (.int xs.length):=by
 rw[show CX H .len [.lst xs]=(some xs.length).bind λn=>if aE n=true then some (PV.int n) else none from rfl,Option.bind_some,au h];rfl
def zR:iF (.rng n)=some ((List.range n).map λ(i:Nat)=>PV.int i):=by
 show(if decide (0≤(n:Int))=true then some (eP n) else none)=_;rw[N0 (Oy n)];rfl
noncomputable def aK(l:List Nat):PV:=.lst (l.map λ(n:Nat)=>.int n)
noncomputable def uQ:MB→ME
 |.cons (.asg _ e _) _=>e
 |.cons (.ret e _) _=>e
 |_=>.v 0 default
noncomputable def IF:ME→ME
 |.comp e _ _ _ _ _ _=>e
 |.abt e _ _ _ _ _ _ _ _ _=>e
 |.mth _ _ _ (.cons e _) _=>e
 |e=>e
def HV{o1 o2 o3:Nat}(h1:o1<256)(h2:o2<256)(h3:o3<256)(h0:l 0=some (aK [o1,o2,o3])):Ev1 C H (uQ BQ.1) l (.int ((o1*65536+o2*256+o3:Nat):Int)):=by
 refine Ev1.bin (Ev1.bin (z:=.int ((o1*65536+o2*256:Nat):Int)) (Ev1.bin (z:=.int ((o1*65536:Nat):Int)) (Ev1.idx (Ev1.v h0) Ev1.c (kM (k:=0) rfl (by simp) kD)) Ev1.c λKv q=>?_)
  (Ev1.bin (z:=.int ((o2*256:Nat):Int)) (Ev1.idx (Ev1.v h0) Ev1.c (kM (k:=1) rfl (by simp) kD)) Ev1.c λKv q=>?_) λKv q=>q) (Ev1.idx (Ev1.v h0) Ev1.c (kM (k:=2) rfl (by simp) kD)) λKv q=>q
 ·rw(occs:=.all) [wj,dB (az h1)];exact q
 ·rw(occs:=.all) [wj,dB (az h2)];exact q
def Et(hs:C.fa "_law_signs"=true)(hc:C.f "_law_signs" [] (.str signs)){n k:Nat}(hk:k<5)(h0:l 1=some (.int n))(h2:l 2=some (.int k)):Ev1 C H (IF (IF (uQ (bW 1 BQ.1)))) l (.str ⟨#[sg (n/64^k%64)]⟩):=by
 have h5:(64:Nat)^k<1073741824∧(64:Nat)^k≠0:=by
  refine cH (P:=λk=>(64:Nat)^k<1073741824∧(64:Nat)^k≠0) (cH (cH (cH (cH ye ?_) ?_) ?_) ?_) ?_ k hk<;>decide
 refine Ev1.idx (Ev1.call hs .nil hc) (Ev1.bin (z:=.int ((n/64^k%64:Nat):Int)) (Ev1.bin (z:=.int ((n/64^k:Nat):Int)) (Ev1.v h0) (Ev1.bin (z:=.int ((64^k:Nat):Int)) Ev1.c (Ev1.v h2) λKv q=>?_) λKv q=>?_) Ev1.c λKv q=>?_) (AR (Nat.mod_lt _ kD))
 ·rw[DW,N0 (Oy k),bF,N0 ((Int.ofNat_le (n:=1000)).mpr (az (Nat.le_of_lt hk))),bF,show cY 64=true from rfl,bF,Int.toNat_natCast];rw[Int.natCast_pow] at q;exact q
 ·rw[zS,Os λe=>h5.2 ((Int.ofNat_inj (n:=0)).mp e),Int.natAbs_natCast,N0 h5.1,j0];exact q
 ·rw[vt,show(64:Int)=((64:Nat):Int) from rfl,Cb];exact q
def JQ(hs:C.fa "_law_signs"=true)(hc:C.f "_law_signs" [] (.str signs)){o1 o2 o3:Nat}(h1:o1<256)(h2:o2<256)(h3:o3<256):fnW C BQ.1 [aK [o1,o2,o3]] (·=.str (oB (kW o1 o2 o3))):=by
 refine ft rfl (aF (HV h1 h2 h3 kU) rfl (ct (d:=.str (Txt.join "" ([3,2,1,0].map λ(k:Nat)=>(⟨#[sg ((o1*65536+o2*256+o3)/64^k%64)]⟩:Str)))) (Ev1.mth Ev1.c rfl (dt.one (Ev1.map (as:=[3,2,1,0]) (f:=λ(k:Nat)=>.int k) (g:=λ(k:Nat)=>.str ⟨#[sg ((o1*65536+o2*256+o3)/64^k%64)]⟩) (Ev1.lst (.cons Ev1.c (.cons Ev1.c (.cons Ev1.c (.one Ev1.c))))) rfl (au (by simp)) λk hk=>ak _ rfl (Et hs hc (by simp at hk;omega) kU kU))) rfl) (aQ rfl ?_)));unfold Txt.join;rw[StrLaws.glued_eq_join];show PV.str ⟨#[sg ((o1*65536+o2*256+o3)/262144%64),sg ((o1*65536+o2*256+o3)/4096%64),sg ((o1*65536+o2*256+o3)/64%64),sg ((o1*65536+o2*256+o3)/1%64)]⟩=_;have h:=(Mt h1 h2 h3).1;rw[h.1,h.2.1,h.2.2.1,h.2.2.2];rfl
noncomputable def cL(a b:List Nat):List Nat:=[a.getD 0 0^^^b.getD 0 0,a.getD 1 0^^^b.getD 1 0,a.getD 2 0^^^b.getD 2 0]
def GZ{a1 a2 a3 b1 b2 b3 k:Nat}(hk:k<3)(h0:l 0=some (aK [a1,a2,a3]))(h1:l 1=some (aK [b1,b2,b3]))(h2:l 2=some (.int k)):Ev1 C H (IF (uQ Eh.1)) l (.int (([a1,a2,a3].getD k 0 ^^^ [b1,b2,b3].getD k 0:Nat):Int)):=by
 refine Ev1.bin (Ev1.idx (z:=.int (([a1,a2,a3].getD k 0:Nat):Int)) (Ev1.v h0) (Ev1.v h2) (kM ?_ (by simp) (az hk))) (Ev1.idx (z:=.int (([b1,b2,b3].getD k 0:Nat):Int)) (Ev1.v h1) (Ev1.v h2) (kM ?_ (by simp) (az hk))) λKv q=>?_
 ·exact cH (P:=λk=>[PV.int (a1:Nat),.int (a2:Nat),.int (a3:Nat)][k]?=some (PV.int (([a1,a2,a3].getD k 0:Nat):Int))) (cH (cH ye rfl) rfl) rfl k hk
 ·exact cH (P:=λk=>[PV.int (b1:Nat),.int (b2:Nat),.int (b3:Nat)][k]?=some (PV.int (([b1,b2,b3].getD k 0:Nat):Int))) (cH (cH ye rfl) rfl) rfl k hk
 ·rw[CA,Bg];exact q
theorem KY{a b:List Nat}(ha:a.length=3)(hb:b.length=3):fnW C Eh.1 [aK a,aK b] (·=aK (cL a b)):=by
 exact g4 ha λa1 a2 a3=>g4 hb λb1 b2 b3=>ft rfl (ct (Ev1.map (as:=[0,1,2]) (f:=λ(k:Nat)=>.int k) (g:=λ(k:Nat)=>.int (([a1,a2,a3].getD k 0 ^^^ [b1,b2,b3].getD k 0:Nat):Int)) (Ev1.bi (dt.one Ev1.c) rfl) rfl (au (by simp)) λk hk=>ak _ rfl (GZ (by simp at hk;lia) kU kU kU)) (aQ rfl rfl))
end
section
def cK{α:Type}{f:α→PV}{t:Tg}(I:List α→Loc→AH→Prop)(h:∀a r l H,I (a::r) l H→∀X:Fl→Loc→AH→Prop,(∀l' H',I r l' H'→X .next l' H'∧X .cont l' H')→∃l',gP t l (f a)=some l'∧Xb C b l' H X)(he:∀l H,I [] l H→K .next l H):∀as l H,I as l H→pV (yb C t b) (as.map f) l H K:=by
 intro as;induction as with
 |nil=>
  exact λl H i=>qL (he l H i)
 |cons a r ihr=>
  exact λl H i=>(h a r l H i _ λl' H' i'=>⟨cP (ihr l' H' i'),xy (ihr l' H' i')⟩).elim λl' q=>eu q.1 q.2
def BE{α:Type}{f:α→PV}:∀(as:List α)(n:Nat),eg n (as.map f)=(as.zipIdx n).map λa=>.tup [.int a.2,f a.1]:=by
 intro as;induction as with
 |nil=>
  exact λ_=>rfl
 |cons a r ihr=>
  exact λn=>N2 (PV.tup [.int n,f a]::·) (ihr (n+1))
abbrev Pr:=Str×Option Str
noncomputable def j9:Option Str→PV
 |some v=>.str v
 |none=>.none
def cn(p:Pr):PV:=.tup [.str p.1,j9 p.2]
def bT(r:List Pr):PV:=.lst (r.map cn)
def bj(r:List (List Pr)):PV:=.lst (r.map bT)
def bw(o:List Nat):Str:=oB (kW (o.getD 0 0) (o.getD 1 0) (o.getD 2 0))
def et(n PF:Nat)(x:Int):List Pr:=
 [(("job":Str),some (af PF))]++(bJ x n).map (λk=>(("needs":Str),some (af k)))++[(("octets":Str),some (bw (oct x)))]++if x.fmod 2=0 then[] else[(("shown":Str),none)]
def rowsOf(RI:List Int):List (List Pr):=RI.zipIdx.map λa=>et RI.length a.2 a.1
structure LC(C:cu):Prop where
 n:C.fa "_law_name"=true
 nc:∀k:Nat,k<7→C.f "_law_name" [.int k] (.str (af k))
 d:C.fa "_law_needs"=true
 dc:∀(x:Int)(n:Nat),n≤1000→C.f "_law_needs" [.int x,.int n] (.lst ((bJ x n).map λ(k:Nat)=>.int k))
 o:C.fa "_law_octets"=true
 oc:∀x:Int,C.f "_law_octets" [.int x] (aK (oct x))
 c:C.fa "_law_coded"=true
 cc:∀o:List Nat,o.length=3→(∀a∈o,a<256)→C.f "_law_coded" [aK o] (.str (bw o))
 s:C.fa "_law_signs"=true
 sc:C.f "_law_signs" [] (.str signs)
 u:C.fa "_law_sum"=true
 uc:∀a b:List Nat,a.length=3→b.length=3→C.f "_law_sum" [aK a,aK b] (aK (cL a b))
def mU{x:Int}{k:Nat}(h:k∈bJ x n):k<n:=OJ.mp (List.mem_filter.mp h).1
def dA{x:Int}:(bJ x n).length≤n:=NT (OK _ _) (by rw[OL];exact Oe _)
def KH:MB:=lW (bW 1 Ee.1)
noncomputable def M5:MB→ME
 |.cons (.app _ _ _ e _ _) _=>e
 |_=>.v 0 default
def zY(A:LC C){ns:List PV}{x:Int}(hn:ns.length≤7)(h0:l 0=some (.lst ns))(h3:l 3=some (.int x)):Ev1 C H (uQ KH) l (.lst ((bJ x ns.length).map λk=>cn (("needs":Str),some (af k)))):=by
 exact Ev1.map (f:=λ(k:Nat)=>.int k) (Ev1.call A.d (.cons (Ev1.v h3) (.one (Ev1.bi (.one (Ev1.v h0)) (kP (az hn))))) (A.dc x _ (az hn))) rfl (au (NT dA (az hn))) λk hk=>ak _ rfl (Ev1.tup (.cons Ev1.c (.one (Ev1.call A.n (.one Ev1.v) (A.nc k (OC (mU hk) hn))))))
def DT(x:Int):(oct x).length=3:=rfl
theorem Hn(A:LC C){n:Nat}{x:Int}(hp:PF<7)(hn:n≤7)(h2:l 2=some (.int PF))(h3:l 3=some (.int x))(h4:l 4=some (.lst ((bJ x n).map λk=>cn (("needs":Str),some (af k))))):
  Ev1 C H (M5 (bW 1 KH)) l (bT (et n PF x)):=by
 have hl:∀m,m≤100→aE m=true:=λm h=>au (az h);have hd:=dA (x:=x) (n:=n);refine Ev1.bin (x:=.lst ([cn (("job":Str),some (af PF))]++(bJ x n).map (λk=>cn (("needs":Str),some (af k)))++[cn (("octets":Str),some (bw (oct x)))])) (y:=.lst (if x.fmod 2=0 then[] else[cn (("shown":Str),none)]))
  (Ev1.bin (x:=.lst ([cn (("job":Str),some (af PF))]++(bJ x n).map (λk=>cn (("needs":Str),some (af k))))) (y:=.lst [cn (("octets":Str),some (bw (oct x)))])
   (Ev1.bin (x:=.lst [cn (("job":Str),some (af PF))]) (Ev1.lst (.one (Ev1.tup (.cons Ev1.c (.one (Ev1.call A.n (.one (Ev1.v h2)) (A.nc PF hp))))))) (Ev1.v h4) λKv q=>?_)
   (Ev1.lst (.one (Ev1.tup (.cons Ev1.c (.one (Ev1.call A.c (.one (Ev1.call A.o (.one (Ev1.v h3)) (A.oc x))) (A.cc _ (DT x) (kB x)))))))) λKv q=>?_)
  (Ev1.bin (x:=.lst [cn (("shown":Str),none)]) (y:=.int (x.fmod 2)) (Ev1.lst (.one (Ev1.tup (.cons Ev1.c (.one Ev1.c))))) (Ev1.bin (Ev1.v h3) Ev1.c λKv q=>?_) λKv q=>?_) λKv q=>?_
 ·rw[e8,hl _ (by simp;exact bu hd hn)];exact q
 ·rw[e8,hl _ (by simp;exact bu hd hn)];exact q
 ·rw[vt];exact q
 ·have:=j5 x (b:=2) kD;rw[yW,N0 this.1,N0 (Int.le_of_lt_add_one this.2),hl _ (by simp)];exact q
 ·rw[e8,hl _ (by split<;>simp<;>lia),bF];have e:bT (et n PF x)=.lst ([cn (("job":Str),some (af PF))]++(bJ x n).map (λk=>cn (("needs":Str),some (af k)))++[cn (("octets":Str),some (bw (oct x)))]++if x.fmod 2=0 then[] else[cn (("shown":Str),none)]):=by
   unfold bT et;split<;>simp[Function.comp_def,cn]
  rw[e] at q;exact q
noncomputable def bn(l:List Int):PV:=.lst (l.map .int)
def gU(l:List Int):cQ [bn l]=true:=by
 show(cQ (l.map .int)&&true)=true;rw[b0 (λ_=>rfl)];rfl
def s5(p:Pr):dW (cn p)=true:=by
 obtain⟨k,v⟩:=p;cases v<;>rfl
def yg(r:List Pr):dW (bT r)=true:=b0 (f:=cn) s5 r
def gy(r:List (List Pr)):dW (bj r)=true:=b0 (f:=bT) yg r
def vI(h:H[i]?=some (.lst ys))(n:cQ ys=true):res H (.obj i)=some (.lst ys):=by
 show(listItems H (.obj i)).bind (λl=>(cg (fg H 2) l).map PV.lst)=_;rw[show listItems H (.obj i)=some ys by simp only[listItems,h]];show(cg (fg H 2) ys).map PV.lst=_;rw[nB n];rfl
theorem J4(A:LC C){ns:List Int}(hn:ns.length≤7):fnW C Ee.1 [bn ns] (·=bj (rowsOf ns)):=by
 refine ft (gU ns) (cW (Fy (ds:=ns.map .int) Ev1.v (au (by rw[NO];exact az hn)) ?_));rw[BE];have e:(ns.map PV.int).length=ns.length:=NO _;refine cK (λr l H=>∃pre,ns.zipIdx=pre++r∧l 0=some (bn ns)∧l 1=some (.obj 0)∧H=[.lst (pre.map λa=>bT (et ns.length a.2 a.1))]) ?_ ?_ _ _ _ (cb [] rfl rfl rfl rfl)
 ·rintro⟨x,p⟩ r l H ⟨pre,e1,h0,h1,rfl⟩ X hX;refine ak _ rfl ?_;have hp:p<ns.length:=by
   have:(x,p)∈ns.zipIdx:=by rw[e1];simp
   have:=List.mem_zipIdx' this;exact this.1
  have Pj:pre.length≤7:=by
   have:=N2 List.length e1;simp at this;exact bu (ap this) hn
  refine aF (zY A (by rw[e];exact hn) (by exact h0) kU) rfl ?_;rw[e];refine abi (by exact h1) rfl (au (by rw[NO];exact az Pj)) (Hn A (OC hp hn) hn kU kU kU) (aB (hX _ _ (cb (pre++[(x,p)]) (by rw[e1];simp) (by exact h0) (by exact h1) ?_)).1);simp
 ·rintro l H ⟨pre,e1,h0,h1,rfl⟩;rw[N6] at e1;have e2:(pre.map λa=>bT (et ns.length a.2 a.1))=(rowsOf ns).map bT:=by
   unfold rowsOf;rw[e1,List.map_map];rfl
  refine aA (ct (Ev1.v h1) (aQ (d:=bj (rowsOf ns)) ?_ rfl));rw[e2];exact vI rfl (gy (rowsOf ns))
end
variable{row:List Pr}
section
def eO:Str:=Txt.slice signs none (some 63)
def bare(v:Str):Bool:=v.cps.toList.all λc=>Txt.contains eO ⟨#[c]⟩
noncomputable def lw(v:Str):Str:=Txt.replace (Txt.replace v "\\" "\\\\") "\"" "\\\""
def fG(p:Pr):Str:=match p.2 with
 |none=>p.1
 |some v=>if bare v=true then p.1++("=":Str)++v else p.1++("=\"":Str)++lw v++("\"":Str)
def gB(rows:List (List Pr)):Str:=Txt.join ", " (rows.map λr=>Txt.join "; " (r.map fG))
structure vA(p:Pr):Prop where
 k:p.1.length≤20
 v:∀v,p.2=some v→v.length≤20∧(Txt.replace v "\\" "\\\\").length≤40∧(lw v).length≤60∧∀c∈v.cps.toList,PyData.strOk ⟨#[c]⟩=true
def JT:MB:=lW (bW 1 Eu.1)
def Iw:MB:=lW (bW 1 JT)
noncomputable def Gj:MB→ME
 |.cons (.ifS e _ _ _) _=>e
 |_=>.v 0 default
def cx(x y:Str):(x++y).length=x.length+y.length:=Array.size_append ..
def fK.nil_eq{l:List PV}(h:fK n l ps):PyData.eqvAll ps []=l.isEmpty:=by
 cases l with
 |nil=>cases h;rfl
 |cons d l=>refine aP h λp r O8 _=>?_;obtain rfl:=O8;rfl
def wM(A:LC C){v:Str}(h5:l 5=some (.str v))(hl:v.length≤20)(ho:∀c∈v.cps.toList,PyData.strOk ⟨#[c]⟩=true):qn C H (Gj Iw) l (bare v):=by
 have hf:aE v.cps.toList.length=true:=au (by show v.length≤_;exact az hl);have e:Ev1 C H (.comp (.v 6 (U 351 33 37)) (.one 6 (U 351 42 46)) (.v 5 (U 351 50 55)) (.cons (.cmp .abO (.v 6 (U 351 59 63)) (.abG (.call ("_law_signs":Str) (U 351 71 81) .nil (U 351 71 83)) (.c (.int 63) 0 (U 351 85 87)) (U 351 84 87) (U 351 71 88)) (U 351 59 88)) .nil) [] {kind:=.function,names:=[(".0",.local),("sign",.local),("_law_signs",.globalImplicit)],isGenerator:=false,isCoroutine:=false,more:=[]} (U 351 32 89)) l
   (.lst ((v.cps.toList.filter λc=>!Txt.contains eO ⟨#[c]⟩).map λc=>.str ⟨#[c]⟩)):=
  Ev1.filter (f:=λc=>.str ⟨#[c]⟩) (Ev1.v h5) rfl hf λc hc=>aV _ rfl ((Ev1.cmp Ev1.v (Ev1.abG (Ev1.call A.s .nil A.sc) Ev1.c (z:=.str eO) kR) rfl).t rfl) (λ_=>Ev1.v kU)
 refine a9 (fK.of (n:=0) (l:=(v.cps.toList.filter λc=>!Txt.contains eO ⟨#[c]⟩).map λc=>PV.str ⟨#[c]⟩) λd hd=>by
  refine ay (Oj.mp hd) λc hc Pq=>?_;obtain rfl:=Pq;exact⟨_,Dat.str (ho c (List.mem_filter.mp hc).1)⟩) λps QX=>?_
 have e2:PyData.eqvAll ps []=bare v:=by
  rw[fK.nil_eq QX,List.isEmpty_map];unfold bare;induction v.cps.toList with
  |nil=>rfl
  |cons c r ih=>
   rw[Ov,List.all_cons,ih.symm];cases Txt.contains eO ⟨#[c]⟩<;>rfl
 refine(Ev1.orF (Ev1.cmp (Ev1.v h5) Ev1.c (r:=false) rfl) rfl (Ev1.cmp e (Ev1.lst .nil) (r:=bare v) ?_)).t rfl;rw[sE (Dat.lst QX) (Dat.lst (n:=0) (l:=[]) (ps:=[]) rfl) kD kD];exact N2 some e2
def Do(h5:l 5=some .none):qn C H (Gj Iw) l true:=(Ev1.orT (Ev1.cmp (Ev1.v h5) Ev1.c (r:=true) rfl) rfl).t rfl
theorem Ev1.abm{o:ME}{ap p1 p2 p:Pos}{z:Str}(h:Ev1 C H o l (.str x))(hc:(aE x.length&&(decide (z.length≤14)&&!(y==z)))=true):Ev1 C H (.abm o ap y z p1 p2 p) l (.str (Txt.replace x y z)):=⟨λKv k=>h.run _ (aQ rfl (bE hc k))⟩
def Al(h:n≤1000):aE n=true:=au (az h)
def Ev1.acn{a b:ME}(ha:Ev1 C H a l (.str x))(hb:Ev1 C H b l (.str y))(h:x.length+y.length≤1000):Ev1 C H (.bin .add a b p) l (.str (x++y)):=Ev1.bin ha hb λKv q=>by rw[BV,Al h];exact q
def EU(A:LC C){p:Pr}(T:vA p)(h4:l 4=some (.str p.1))(h5:l 5=some (j9 p.2))(h3:l 3=some (.obj j))(hH:H[j]?=some (.lst ws))(hw:ws.length≤100)(k:K .next l (H.set j (.lst (ws++[.str (fG p)])))):Xb C Iw l H K:=by
 obtain⟨key,v⟩:=p;have hk:=T.k;cases v with
 |none=>exact cM (r:=true) (Do h5) (λ_=>abi h3 hH (au (az hw)) (Ev1.ite (r:=true) ((Ev1.cmp (Ev1.v h5) Ev1.c (r:=true) rfl).t rfl) (Ev1.v h4)) (aB (aA (aB k)))) nofun
 |some v=>
  refine bD (T.v v rfl) λhv hr he ho=>?_;have hk:key.length≤20:=hk;cases hb:bare v with
  |true=>
   refine cM (wM A h5 hv ho) (λ_=>abi h3 hH (au (az hw)) (Ev1.ite (r:=false) ((Ev1.cmp (Ev1.v h5) Ev1.c (r:=false) rfl).t rfl) (Ev1.acn (x:=key++("=":Str)) (Ev1.acn (Ev1.v h4) Ev1.c (by exact(a8 hk:key.length+1≤1000))) (Ev1.v h5) ?_)) (aB (aA (aB ?_)))) (by rw[hb];nofun)
   ·rw[cx];exact(bu hk hv:key.length+1+v.length≤1000)
   ·have e:fG (key,some v)=key++("=":Str)++v:=N1 hb;rw[e] at k;exact k
  |false=>
   refine cM (wM A h5 hv ho) (by rw[hb];nofun) (λ_=>abi h3 hH (au (az hw)) (Ev1.acn (x:=key++("=\"":Str)++lw v) (Ev1.acn (x:=key++("=\"":Str)) (Ev1.acn (Ev1.v h4) Ev1.c (by exact(a8 hk:key.length+2≤1000))) (Ev1.abm (Ev1.abm (Ev1.v h5) ?_) ?_) ?_) Ev1.c ?_) (aB (aA (aB ?_))))
   ·rw[Al (az hv)];rfl
   ·rw[Al (az hr)];rfl
   ·rw[cx];exact(bu hk he:key.length+2+(lw v).length≤1000)
   ·rw[cx,cx];exact(bu hk he:key.length+2+(lw v).length+1≤1000)
   ·have e:fG (key,some v)=key++("=\"":Str)++lw v++("\"":Str):=NY (by rw[hb];exact N');rw[e] at k;exact k
end
def DX{m s:Nat}:∀(ts:List Str)(a:Nat),(∀t∈ts,t.length≤m)→ts.foldl (λa t=>a+t.length+s) a≤a+ts.length*(m+s):=by
 intro ts;induction ts with
 |nil=>
  intro a _;simp
 |cons t r ihr=>
  intro a h;have h1:=h t (.head _);have h2:=ihr (a+t.length+s) λu hu=>h u (.tail _ hu);rw[List.foldl_cons,NR,Nat.add_mul];exact bu h2 h1
def iI{m:Nat}(h:∀t∈ts,t.length≤m)(hs:ts.length*(m+sep.length)≤16777216):JoinOk sep ts=true:=by
 unfold JoinOk;have h1:=DX (s:=sep.length) ts 0 h;rw[List.foldl_toArray];show(!decide (sizeLine<_))=true;rw[Bool.not_eq_true',decide_eq_false_iff_not];show ¬(2^24<_);exact an (bu h1 hs)
def I1{m:Nat}:∀ts:List Str,(∀t∈ts,t.length≤m)→(ts.map (·.length)).sum≤ts.length*m:=by
 intro ts;induction ts with
 |nil=>
  intro _;simp
 |cons t r ihr=>
  intro h;have h1:=h t (.head _);have h2:=ihr λu hu=>h u (.tail _ hu);rw[OF,List.sum_cons,NR,Nat.add_mul];exact bu h2 h1
def s9{m:Nat}(h:∀t∈ts,t.length≤m):(Txt.join sep ts).length≤ts.length*(m+sep.length):=by
 have h1:=StrLaws.join_length_le sep ts;have h2:=I1 ts h;unfold Txt.join;rw[StrLaws.glued_eq_join,Nat.mul_add];exact bu h2 h1
section
structure z5(r:List Pr):Prop where
 n:r.length≤20
 p:∀p∈r,vA p
structure HP(rs:List (List Pr)):Prop where
 n:rs.length≤50
 r:∀r∈rs,z5 r
def tr{p:Pr}(T:vA p):(fG p).length≤100:=by
 obtain⟨key,v⟩:=p;have hk:key.length≤20:=T.k;cases v with
 |none=>show key.length≤_;exact az hk
 |some v=>
  refine bD (T.v v rfl) λhv hr he ho=>?_;show(if bare v=true then key++("=":Str)++v else key++("=\"":Str)++lw v++("\"":Str)).length≤_;split
  ·rw[cx,cx];show key.length+1+v.length≤_;exact bu hv hk
  ·rw[cx,cx,cx];show key.length+2+(lw v).length+1≤_;exact bu he hk
def qW(r:List Pr):Str:=Txt.join "; " (r.map fG)
def y5{r:List Pr}(T:z5 r):(qW r).length≤2040:=by
 have h:=s9 (sep:="; ") (ts:=r.map fG) (m:=100) λt ht=>by
  refine ay (Oj.mp ht) λp hp Pt=>?_;obtain rfl:=Pt;exact tr (T.p p hp)
 rw[NO] at h;have e:("; ":Str).length=2:=rfl;rw[e] at h;have:=T.n;exact NT h (a8 (N9 102 this))
def strs_map:∀ts:List Str,dP (ts.map .str)=some ts:=by
 intro ts;induction ts with
 |nil=>
  exact rfl
 |cons t r ihr=>
  show(some t).bind (λx=>(dP (r.map .str)).map λl=>x::l)=_;rw[ihr];rfl
def lV{c:PV}(hc:listItems H c=some (ts.map .str))(h:JoinOk sep ts=true):pK H .join (.str sep) [c]=some (.str (Txt.join sep ts)):=by
 show(listItems H c).bind (λl=>(dP l).bind λts=>if JoinOk sep ts=true then some (PV.str (Txt.join sep ts)) else none)=_;rw[hc,Option.bind_some,strs_map,Option.bind_some,N1 h]
def mj(h:H[i]?=some (.lst ys)):listItems H (.obj i)=some ys:=by simp only[listItems,h]
def eT(H0:AH)(x:AO):(H0++[x])[H0.length]?=some x:=by simp
def on(H0:AH)(x y:AO):(H0++[x]).set H0.length y=H0++[y]:=by simp
def cy{α β:Type}(f:α→β)(l:List α)(a:α):(l++[a]).map f=l.map f++[f a]:=OI
def DC(A:LC C){hs:List PV}(T:z5 row)(h1:l 1=some (.obj 0))(h2:l 2=some (bT row))(hl:hs.length≤100)(k:∀l' T6,l' 0=l 0→l' 1=some (.obj 0)→K .next l' (.lst (hs++[.str (qW row)])::T6)):Xb C JT l (.lst hs::Hs) K:=by
 refine cW (da (ds:=row.map cn) (Ev1.v (by exact h2)) rfl (au (by rw[NO];have:=T.n;exact az this)) (cK (λr l' H'=>∃pre,row=pre++r∧l' 0=l 0∧l' 1=some (.obj 0)∧l' 3=some (.obj (Hs.length+1))∧H'=(.lst hs::Hs)++[.lst ((pre.map fG).map .str)]) ?_ ?_ _ _ _ (cb [] rfl rfl (by exact h1) ⟨rfl,rfl⟩)))
 ·rintro p r l2 H2 ⟨pre,e,h0,RO,h3,rfl⟩ X hX;refine ak _ rfl ?_;have hp:p∈row:=by rw[e];simp
  have Pj:pre.length≤20:=by
   have:=T.n;rw[e,NP] at this;exact a8 this
  refine EU A (ws:=(pre.map fG).map .str) (T.p p hp) kU kU (by exact h3) (eT (.lst hs::Hs) _) (by rw[NO,NO];exact az Pj) (hX _ _ (cb (pre++[p]) (by rw[e,Oi];rfl) (by exact h0) (by exact RO) ⟨(by exact h3),?_⟩)).1;rw[cy,cy];exact on (.lst hs::Hs) _ _
 ·rintro l2 H2 ⟨pre,e,h0,RO,h3,rfl⟩;rw[N6] at e;subst e;refine aA (abi RO rfl (au (az hl)) (d:=.str (qW row)) (Ev1.mth Ev1.c rfl (.one (Ev1.v h3)) (lV (mj (eT (.lst hs::Hs) _)) (iI (m:=100) (λt ht=>?_) ?_))) (aB (k _ _ h0 RO)))
  ·refine ay (Oj.mp ht) λp hp O8=>?_;obtain rfl:=O8;exact tr (T.p p hp)
  ·rw[NO];have e:("; ":Str).length=2:=rfl;rw[e];have:=T.n;exact a8 (N9 102 this)
def JH(A:LC C){rs:List (List Pr)}(T:HP rs):fnW C Eu.1 [bj rs] (·=.str (gB rs)):=by
 refine ft (by show(dW (bj rs)&&true)=true;rw[gy];rfl) (cW (da (ds:=rs.map bT) Ev1.v rfl (au (by rw[NO];have:=T.n;exact az this)) (cK (λr l H=>∃pre Hs,rs=pre++r∧l 1=some (.obj 0)∧H=.lst ((pre.map qW).map .str)::Hs) ?_ ?_ _ _ _ (aN [] [] rfl rfl rfl))))
 ·rintro row r l H ⟨pre,Hs,e,h1,rfl⟩ X hX;refine ak _ rfl ?_;have Pj:pre.length≤50:=by
   have:=T.n;rw[e,NP] at this;exact a8 this
  exact DC A (T.r row (by rw[e];simp)) (by exact h1) kU (by rw[NO,NO];exact az Pj) λl' T6 h0 RO=>(hX _ _ (aN (pre++[row]) T6 (by rw[e,Oi];rfl) RO (by rw[cy,cy]))).1
 ·rintro l H ⟨pre,Hs,e,h1,rfl⟩;rw[N6] at e;subst e;refine aA (ct (d:=.str (gB rs)) (Ev1.mth Ev1.c rfl (.one (Ev1.v h1)) (lV (mj rfl) (iI (m:=2040) (λt ht=>?_) ?_))) (aQ rfl rfl))
  ·refine ay (Oj.mp ht) λr hr Pq=>?_;obtain rfl:=Pq;exact y5 (T.r r hr)
  ·rw[NO];have e:(", ":Str).length=2:=rfl;rw[e];have:=T.n;exact a8 (N9 2042 this)
end
section
noncomputable def fq(c:Nat):Bool:=(Nat.ble 48 c&&Nat.ble c 57)||((Nat.ble 65 c&&Nat.ble c 90)||((Nat.ble 97 c&&Nat.ble c 122)||[33,35,36,37,38,39,42,43,45,46,94,95,96,124,126].contains c))
def nx(v:Str):Bool:=!v.cps.toList.isEmpty&&v.cps.toList.all fq
noncomputable def dU(c:Nat):List Nat:=if(c==34||c==92)=true then[92,c] else[c]
def gu(v:Str):Str:=⟨(v.cps.toList.flatMap dU).toArray⟩
def iC(p:Pr):Str:=match p.2 with
 |none=>p.1
 |some v=>p.1++("=":Str)++if nx v=true then v else cB (gu v)
structure JC(C:cu):Prop where
 f:C.xa "HEADER_JOIN_TOKEN_RE" "fullmatch"=true
 fc:∀v:Str,v.length≤20→∃d,C.x "HEADER_JOIN_TOKEN_RE" "fullmatch" [.str v] d∧∀H,bB H d=some (nx v)
 s:C.sa "HEADER_JOIN_ESCAPE_RE" g5 oR
 sc:∀v:Str,v.length≤20→C.s "HEADER_JOIN_ESCAPE_RE" g5 oR (.str v) (.str (gu v))
structure vT(p:Pr):Prop where
 k:p.1.length≤20
 v:∀v,p.2=some v→v.length≤20∧(gu v).length≤60
def JK:MB:=lW (bW 1 FP.1)
def KE:MB:=lW (bW 1 JK)
theorem Ev1.js{p1 q1 p2 p3 q3 p:Pos}(h1:l i=some (.str x))(h2:l j=some (.str y))(hf:aE (x.length+sep.length+y.length)=true):Ev1 C H (.js i j sep p1 q1 p2 p3 q3 p) l (.str (x++sep++y)):=⟨λKv k=>aQ h1 (aQ rfl (aQ h2 (aQ rfl (bE hf k))))⟩
def uy{p:Str}(h4:l 4=some (.str p))(h3:l 3=some (.obj j))(hH:H[j]?=some (.lst ws))(hw:ws.length≤100)(k:K .next l (H.set j (.lst (ws++[.str p])))):Xb C (bW 1 KE) l H K:=
 abi h3 hH (au (az hw)) (Ev1.v h4) (aB k)
def DZ(J:JC C){p:Pr}(T:vT p)(h4:l 4=some (.str p.1))(h5:l 5=some (j9 p.2))(h3:l 3=some (.obj j))(hH:H[j]?=some (.lst ws))(hw:ws.length≤100)(k:∀l',l' 0=l 0→l' 1=l 1→l' 2=l 2→l' 3=l 3→K .next l' (H.set j (.lst (ws++[.str (iC p)])))):Xb C KE l H K:=by
 obtain⟨key,v⟩:=p;have hk:key.length≤20:=T.k;cases v with
 |none=>exact bc (r:=false) ((Ev1.cmp (Ev1.v h5) Ev1.c (r:=false) rfl).t rfl) nofun λ_=>uy h4 h3 hH hw (k _ rfl rfl rfl rfl)
 |some v=>
  refine aU (T.v v rfl) λhv he=>ay (J.fc v hv) λd hd ht=>bc (r:=true) ((Ev1.cmp (Ev1.v h5) Ev1.c (r:=true) rfl).t rfl) (λ_=>bc (r:=!nx v) ((Ev1.not ((Ev1.rx J.f (.one (Ev1.v h5)) hd).t (ht H))).t rfl) (λe=>?_) λe=>?_) nofun
  ·have e:nx v=false:=by cases q:nx v<;>rw[q] at e<;>first | rfl | cases e
   have ew:iC (key,some v)=key++("=":Str)++cB (gu v):=by
    show key++("=":Str)++(if nx v=true then v else cB (gu v))=_;rw[e];rfl
   rw[ew] at k;refine aF (Ev1.abR J.s (Ev1.v h5) (J.sc v hv)) rfl (aF (d:=.str (cB (gu v))) (Ev1.bin Ev1.c Ev1.v λKv q=>?_) rfl (aB (aA (aF (Ev1.js (by exact h4) kU ?_) rfl (aB (aA (uy kU (by exact h3) hH hw (k _ rfl rfl rfl rfl))))))))
   ·rw[Ck];exact bE (by rfl) (bE (au (az he)) q)
   ·refine au ?_;unfold cB;rw[cx,cx];show key.length+1+(1+(gu v).length+1)≤_;exact bu he hk
  ·have e:nx v=true:=by cases q:nx v<;>rw[q] at e<;>first | rfl | cases e
   have ew:iC (key,some v)=key++("=":Str)++v:=by
    show key++("=":Str)++(if nx v=true then v else cB (gu v))=_;rw[e];rfl
   rw[ew] at k;refine aF (Ev1.js (by exact h4) (by exact h5) (au ?_)) rfl (aB (aA (uy kU (by exact h3) hH hw (k _ rfl rfl rfl rfl))));show key.length+1+v.length≤_;exact bu hv hk
end
section
structure uE(r:List Pr):Prop where
 n:r.length≤20
 ne:r≠[]
 p:∀p∈r,vT p
structure uz(rs:List (List Pr)):Prop where
 n:rs.length≤50
 r:∀r∈rs,uE r
def kO{p:Pr}(T:vT p):(iC p).length≤100:=by
 obtain⟨key,v⟩:=p;have hk:key.length≤20:=T.k;cases v with
 |none=>show key.length≤_;exact az hk
 |some v=>
  refine aU (T.v v rfl) λhv he=>?_;show(key++("=":Str)++if nx v=true then v else cB (gu v)).length≤_;rw[cx,cx];show key.length+1+_≤_;split
  ·exact bu hv hk
  ·unfold cB;rw[cx,cx];show key.length+1+(1+(gu v).length+1)≤_;exact bu he hk
def jH(r:List Pr):Str:=Txt.join "; " (r.map iC)
def g1(rs:List (List Pr)):Str:=Txt.join ", " (rs.map jH)
def xK{r:List Pr}(T:uE r):(jH r).length≤2040:=by
 have h:=s9 (sep:="; ") (ts:=r.map iC) (m:=100) λt ht=>by
  refine ay (Oj.mp ht) λp hp Pt=>?_;obtain rfl:=Pt;exact kO (T.p p hp)
 rw[NO] at h;have e:("; ":Str).length=2:=rfl;rw[e] at h;have:=T.n;exact NT h (a8 (N9 102 this))
def Fw(J:JC C){hs:List PV}(T:uE row)(h1:l 1=some (.obj 0))(h2:l 2=some (bT row))(hl:hs.length≤100)(k:∀l' T6,l' 0=l 0→l' 1=some (.obj 0)→K .next l' (.lst (hs++[.str (jH row)])::T6)):Xb C JK l (.lst hs::Hs) K:=by
 refine cW (da (ds:=row.map cn) (Ev1.v (by exact h2)) rfl (au (by rw[NO];have:=T.n;exact az this)) (cK (λr l' H'=>∃pre,row=pre++r∧l' 0=l 0∧l' 1=some (.obj 0)∧l' 3=some (.obj (Hs.length+1))∧H'=(.lst hs::Hs)++[.lst ((pre.map iC).map .str)]) ?_ ?_ _ _ _ (cb [] rfl rfl (by exact h1) ⟨rfl,rfl⟩)))
 ·rintro p r l2 H2 ⟨pre,e,h0,RO,h3,rfl⟩ X hX;refine ak _ rfl ?_;have hp:p∈row:=by rw[e];simp
  have Pj:pre.length≤20:=by
   have:=T.n;rw[e,NP] at this;exact a8 this
  refine DZ J (ws:=(pre.map iC).map .str) (T.p p hp) kU kU (by exact h3) (eT (.lst hs::Hs) _) (by rw[NO,NO];exact az Pj) λl3 q0 q1 q2 q3=>(hX _ _ (cb (pre++[p]) (by rw[e,Oi];rfl) (q0.trans h0) (q1.trans RO) ⟨(q3.trans h3),?_⟩)).1;rw[cy,cy];exact on (.lst hs::Hs) _ _
 ·rintro l2 H2 ⟨pre,e,h0,RO,h3,rfl⟩;rw[N6] at e;subst e;refine aA (bc (r:=true) ((Ev1.v h3).t ?_) (λ_=>?_) nofun)
  ·have e:=IQ (eT (.lst hs::Hs) (.lst ((row.map iC).map .str))) (au (by rw[NO,NO];have:=T.n;exact az this));refine Eq.trans e ?_;rw[List.isEmpty_map,List.isEmpty_map];have:=T.ne;cases row with
   |nil=>exact absurd rfl this
   |cons _ _=>rfl
  refine abi RO rfl (au (az hl)) (d:=.str (jH row)) (Ev1.mth Ev1.c rfl (.one (Ev1.v h3)) (lV (mj (eT (.lst hs::Hs) _)) (iI (m:=100) (λt ht=>?_) ?_))) (aB (aA (aB (k _ _ h0 RO))))
  ·refine ay (Oj.mp ht) λp hp O8=>?_;obtain rfl:=O8;exact kO (T.p p hp)
  ·rw[NO];have e:("; ":Str).length=2:=rfl;rw[e];have:=T.n;exact a8 (N9 102 this)
def KV(J:JC C){rs:List (List Pr)}(T:uz rs):fnW C FP.1 [bj rs] (·=.str (g1 rs)):=by
 refine ft (by show(dW (bj rs)&&true)=true;rw[gy];rfl) (cW (da (ds:=rs.map bT) Ev1.v rfl (au (by rw[NO];have:=T.n;exact az this)) (cK (λr l H=>∃pre Hs,rs=pre++r∧l 1=some (.obj 0)∧H=.lst ((pre.map jH).map .str)::Hs) ?_ ?_ _ _ _ (aN [] [] rfl rfl rfl))))
 ·rintro row r l H ⟨pre,Hs,e,h1,rfl⟩ X hX;refine ak _ rfl ?_;have Pj:pre.length≤50:=by
   have:=T.n;rw[e,NP] at this;exact a8 this
  exact Fw J (T.r row (by rw[e];simp)) (by exact h1) kU (by rw[NO,NO];exact az Pj) λl' T6 h0 RO=>(hX _ _ (aN (pre++[row]) T6 (by rw[e,Oi];rfl) RO (by rw[cy,cy]))).1
 ·rintro l H ⟨pre,Hs,e,h1,rfl⟩;rw[N6] at e;subst e;refine aA (ct (d:=.str (g1 rs)) (Ev1.mth Ev1.c rfl (.one (Ev1.v h1)) (lV (mj rfl) (iI (m:=2040) (λt ht=>?_) ?_))) (aQ rfl rfl))
  ·refine ay (Oj.mp ht) λr hr Pq=>?_;obtain rfl:=Pq;exact xK (T.r r hr)
  ·rw[NO];have e:(", ":Str).length=2:=rfl;rw[e];have:=T.n;exact a8 (N9 2042 this)
end
noncomputable def cz(ns:List Int):Nat→Nat→List Nat
 |0,_=>[]
 |f+1,p=>p::(bJ (ns.getD p 0) ns.length).flatMap (cz ns f)
noncomputable def jx(ns:List Int):Nat→Nat→Prop
 |0,_=>False
 |f+1,p=>p<ns.length∧∀q∈bJ (ns.getD p 0) ns.length,jx ns f q
def oh(a:Int):∀l:List Nat,l.Nodup→(l.filter λ(k:Nat)=>a==(k:Int)).length≤1:=by
 intro l;induction l with
 |nil=>
  exact λ_=>Oc _
 |cons k l ihr=>
  refine λh=>aU (OE.mp h) λh1 h2=>?_;rw[Ov];split
  ·rename_i e;have e:=Ol.mp e;rw[NR,List.filter_eq_nil_iff.mpr λq hq e'=>h1 (by
    have e':=Ol.mp e';have:q=k:=Int.ofNat_inj.mp (e'.symm.trans e);exact this▸hq)]
   exact Oe _
  ·exact ihr h2
def x0{α:Type}(p q:α→Bool):∀l:List α,(l.filter λk=>p k||q k).length≤(l.filter p).length+(l.filter q).length:=by
 intro l;induction l with
 |nil=>
  exact Oc _
 |cons k l ihr=>
  have:=ihr;rw[Ov,Ov,Ov];cases p k<;>cases q k<;>simp<;>exact a8 this
def ym(x:Int)(n:Nat):(bJ x n).length≤2:=by
 have e:bJ x n=(List.range n).filter λ(k:Nat)=>(x.fmod 8==(k:Int))||((x.fdiv 8).fmod 8==(k:Int)):=by
  unfold bJ;refine List.filter_congr λk _=>?_;rw[List.any_cons,List.any_cons,List.any_nil,Bool.or_false]
 rw[e];have h1:=x0 (λ(k:Nat)=>x.fmod 8==(k:Int)) (λ(k:Nat)=>(x.fdiv 8).fmod 8==(k:Int)) (List.range n);have h2:=oh (x.fmod 8) _ (List.nodup_range (n:=n));have h3:=oh ((x.fdiv 8).fmod 8) _ (List.nodup_range (n:=n));exact ph h3 h2 h1
def n6(ns:List Int):∀f p,(cz ns f p).length+1≤2^f:=by
 intro f;induction f with
 |zero=>
  exact λ_=>Oe _
 |succ f ihr=>
  intro p;have h:∀l:List Nat,(l.flatMap (cz ns f)).length+l.length≤l.length*2^f:=λl=>by
   induction l with
   |nil=>simp
   |cons a r ih=>
    have:=ihr a;rw[OD,NP,NR,Nat.add_mul];exact bu this ih
  have h1:=h (bJ (ns.getD p 0) ns.length);have h2:=ym (ns.getD p 0) ns.length;show((bJ (ns.getD p 0) ns.length).flatMap (cz ns f)).length+1+1≤2^(f+1);rw[Nat.pow_succ];have h3:(bJ (ns.getD p 0) ns.length).length=0∨(bJ (ns.getD p 0) ns.length).length=1∨(bJ (ns.getD p 0) ns.length).length=2:=by
   generalize (bJ (ns.getD p 0) ns.length).length=n at h2;exact cH (P:=λn=>n=0∨n=1∨n=2) (cH (cH ye (.inl rfl)) (.inr (.inl rfl))) (.inr (.inr rfl)) n (Nat.lt_succ_of_le h2)
  have h4:1≤2^f:=Nat.one_le_two_pow;rcases h3 with e | e | e<;>rw[e] at h1
  ·exact ph h1 h4 h4
  ·exact bu h1 h4
  ·exact a8 h1
section
def tR{b:Bool}{P:Prop}(h:b=true):cG b P=P:=by rw[h];rfl
theorem Ev1.abt{α β:Type}{f:α→PV}{bs:α→List β}{f2:α→β→PV}{h:α→β→List PV}{as:List α}{t t2:Tg}{it Qo:ME}{PC:hV}{x:PV}(hi:Ev1 C H it l x)(hd:iF x=some (as.map f))(hf:as.length≤1000)(ht:∀a∈as,∃l' x2,gP t (kN l cap) (f a)=some l'∧Ev1 C H Qo l' x2∧iF x2=some ((bs a).map (f2 a))∧(bs a).length≤1000∧∀b∈bs a,∀K':List PV→Prop,K' (h a b)→el (gP t2 l' (f2 a b)) λl'=>tA C H PC l' λr=>br r (pe C H Pa l' λy=>K' [y]) (K' []))(hy:(as.flatMap λa=>(bs a).flatMap (h a))=ys)(hg:aE ys.length=true):Ev1 C H (.abt Pa t it .nil t2 Qo PC cap sc p) l (.lst ys):=
 ⟨λKv k=>hi.run _ (aQ hd (bE (N0 (by rw[NO];exact hf)) (qp (h:=λa=>(bs a).flatMap (h a)) (λa ha K' k'=>(ht a ha).elim λl' q=>q.elim λx2 q=>aQ q.1 (q.2.1.run _ (aQ q.2.2.1 (bE (N0 (by rw[NO];exact q.2.2.2.1)) (qp q.2.2.2.2 k'))))) (by rw[hy];exact bE hg k))))⟩
def qA{ns:List Int}{p:Nat}(hp:p<ns.length)(hn:ns.length≤7):pI H (bn ns) (.int p)=some (.int (ns.getD p 0)):=
 kM (by rw[List.getElem?_map,Oz hp,OA,Oz hp];rfl) (by rw[NO];exact az hn) (bu hn hp)
def I0(k:Nat)(ds:List PV)(d:PV):Prop:=∃ns p,ns.length≤7∧k≤8∧jx ns k p∧ds=[bn ns,.int (p:Nat)]∧d=aK (cz ns k p)
def KW(A:LC C){k:Nat}(he:C.fa "_law_ends"=true)(hc:∀ds d,I0 k ds d→C.f "_law_ends" ds d){d:PV}(h:I0 (k+1) ds d):ds.length=2∧fnW C Iv.1 ds (·=d):=by
 refine cA h λns p hn hk QI=>bV QI λV1 Qd Qh=>?_;obtain⟨hp,hq⟩:=V1;obtain rfl:=Qd;obtain rfl:=Qh;refine⟨rfl,ft (by have:=gU ns;exact this) ?_⟩;have OV:=n6 ns (k+1) p;have h9:2^(k+1)≤2^8:=Nat.pow_le_pow_right kD hk;have Z3:∀q,(cz ns k q).length≤256:=λq=>by
  exact bu (n6 ns k q) (Nat.pow_le_pow_right (n:=2) kD (a8 hk:k≤8))
 have e1:((bJ (ns.getD p 0) ns.length).flatMap (cz ns k)).length+1=(cz ns (k+1) p).length:=rfl;refine ct (d:=aK (cz ns (k+1) p)) (Ev1.bin (x:=aK [p]) (y:=aK ((bJ (ns.getD p 0) ns.length).flatMap (cz ns k))) (Ev1.lst (.one Ev1.v)) (Ev1.abt (α:=Nat) (β:=Nat) (as:=bJ (ns.getD p 0) ns.length) (f:=λ(k:Nat)=>.int k) (bs:=cz ns k) (f2:=λ_ (k:Nat)=>.int k) (h:=λ_ (k:Nat)=>[.int k])
  (Ev1.call A.d (.cons (Ev1.idx Ev1.v Ev1.v (qA hp hn)) (.one (Ev1.bi (.one Ev1.v) (kP (by rw[NO];exact az hn))))) (by rw[NO];exact A.dc _ _ (az hn))) rfl (NT dA (az hn)) (λa ha=>aJ _ (aK (cz ns k a)) rfl (Ev1.call he (.cons Ev1.v (.one Ev1.v)) (hc _ _ (aJ ns a hn (a8 hk) (hq a ha) rfl rfl))) rfl (NT (Z3 a) kD) (λb _ K' k=>k)) ?_ ?_) λKv q=>?_) (aQ (zO (b0 (λ_=>rfl) _)) rfl)
 ·rw[List.map_flatMap];exact N2 (λf=>List.flatMap f _) (funext λa=>(List.map_eq_flatMap ..).symm)
 ·rw[NO];exact au (ph (aq e1) h9 OV)
 ·show fo .add (.lst _) (.lst _) Kv;rw[e8,tR (au (by rw[NO,NO,List.length_singleton];exact ph (aq e1) h9 OV))];exact q
end
def jx.mono{ns:List Int}:∀{k p:Nat},jx ns k p→jx ns (k+1) p:=by
 intro k;induction k with
 |zero=>
  intro _ h;exact h.elim
 |succ k ihr=>
  intro _ h;exact⟨h.1,λq hq=>ihr (h.2 q hq)⟩
theorem jx.le{ns:List Int}{p:Nat}{k m:Nat}(h:jx ns k p)(le:k≤m):jx ns m p:=by
 induction le with
 |refl=>exact h
 |step _ ih=>exact ih.mono
def sX{ns:List Int}:∀{k p:Nat},jx ns k p→cz ns (k+1) p=cz ns k p:=by
 intro k;induction k with
 |zero=>
  intro _ h;exact h.elim
 |succ k ihr=>
  intro p h;show p::(bJ (ns.getD p 0) ns.length).flatMap (cz ns (k+1))=p::(bJ (ns.getD p 0) ns.length).flatMap (cz ns k);refine N2 (p::·) ?_;have:∀l:List Nat,(∀q∈l,jx ns k q)→l.flatMap (cz ns (k+1))=l.flatMap (cz ns k):=λl hl=>by
   induction l with
   |nil=>rfl
   |cons a r ih=>rw[OD,OD,ihr (hl a (.head _)),ih λq hq=>hl q (.tail _ hq)]
  exact this _ h.2
abbrev Rd:=List (Str×List Nat)
def aZ(ns:List Int)(p:Nat):List Nat:=(cz ns 8 p).foldl (λa e=>cL a (oct (ns.getD e 0))) [0,0,0]
def freeOf(ns:List Int)(done:List Nat):List Nat:=(List.range ns.length).filter λk=>!done.contains k&&((bJ (ns.getD k 0) ns.length).filter λj=>!done.contains j).isEmpty
def a7(ns:List Int)(done:List Nat):Rd:=(freeOf ns done).map λp=>(af p,aZ ns p)
def bz(ns:List Int)(s:List Rd×List Nat):List Rd×List Nat:=(if a7 ns s.2=[] then s.1 else s.1++[a7 ns s.2],s.2++freeOf ns s.2)
def cj(ns:List Int):List Rd×List Nat:=ns.foldl (λs _=>bz ns s) ([],[])
def du(p:Str×List Nat):PV:=.tup [.str p.1,aK p.2]
def bK(r:Rd):PV:=.lst (r.map du)
section
theorem i9{k:Nat}{done:List Nat}:dS H .abO (.int k) (aK done)=some (!done.contains k):=by
 show(dS H .isIn (.int k) (aK done)).map (!·)=_;have e:aK done=.lst ((done.map λ(n:Nat)=>(n:Int)).map .int):=by unfold aK;rw[List.map_map];rfl
 rw[e,nk,List.any_map];refine N2 (λb=>some (!b)) ?_;clear e;induction done with
 |nil=>rfl
 |cons a r ih=>
  rw[List.any_cons,List.contains_cons];have h:((λy=>y==(k:Int))∘λ(n:Nat)=>(n:Int)) a=(k==a):=by
   show((a:Int)==(k:Int))=_;by_cases h:a=k
   ·subst h;simp
   ·rw[OG (by lia),OG (by lia)]
  rw[h];exact N2 _ ih
end
variable{rs:List Rd}
section
def Dj:MB:=lW (bW 1 EW.1)
def um(A:LC C){ns:List Int}{done:List Nat}{k:Nat}(hn:ns.length≤7)(hk:k<ns.length)(h0:l 0=some (bn ns))(h2:l 2=some (aK done))(h9:l 9=some (.int k)){b:ME}:
  Ev1 C H (.comp (.v 10 (U 384 69 70)) (.one 10 (U 384 75 76)) (.call ("_law_needs":Str) (U 384 80 90) (.cons (.idx (.v 0 (U 384 91 98)) (.v 9 (U 384 99 100)) (U 384 91 101)) (.cons (.bi .len (U 384 103 106) (.cons (.v 0 (U 384 107 114)) .nil) (U 384 103 115)) .nil)) (U 384 80 116)) (.cons (.cmp .abO (.v 10 (U 384 120 121)) (.v 2 (U 384 129 133)) (U 384 120 133)) .nil) [2] sc p) l
   (aK ((bJ (ns.getD k 0) ns.length).filter λj=>!done.contains j)):=by
 refine Ev1.filter (f:=λ(k:Nat)=>.int k) (g:=λ(k:Nat)=>.int k) (c:=λj=>!done.contains j) (Ev1.call A.d (.cons (Ev1.idx (Ev1.v h0) (Ev1.v h9) (qA hk hn)) (.one (Ev1.bi (.one (Ev1.v h0)) (kP (by rw[NO];exact az hn))))) (by rw[NO];exact A.dc _ _ (az hn))) rfl (au (NT dA (az hn))) λj hj=>aV _ rfl ((Ev1.cmp Ev1.v (Ev1.v (by exact h2)) i9).t rfl) (λ_=>Ev1.v kU)
def rJ(l:List Nat):Dat 1 (aK l) (.list (l.map λ(n:Nat)=>.int n)):=Dat.lst (fK.map (λ_=>Dat.int) l)
def BO(l:List Nat):dS H .eq (aK l) (.lst [])=some l.isEmpty:=by
 rw[sE (rJ l) (Dat.lst (n:=0) (l:=[]) (ps:=[]) rfl) kD kD];cases l<;>rfl
def Fx(A:LC C){ns:List Int}{done:List Nat}(hn:ns.length≤7)(h0:l 0=some (bn ns))(h2:l 2=some (aK done)):Ev1 C H (uQ Dj) l (aK (freeOf ns done)):=by
 refine Ev1.filter (f:=λ(k:Nat)=>.int k) (g:=λ(k:Nat)=>.int k) (c:=λk=>!done.contains k&&((bJ (ns.getD k 0) ns.length).filter λj=>!done.contains j).isEmpty) (as:=List.range ns.length) (Ev1.bi (.one (Ev1.bi (.one (Ev1.v h0)) (kP (by rw[NO];exact az hn)))) rfl) (by rw[NO];exact zR) (au (by rw[OL];exact az hn)) λk hk=>aV _ rfl ?_ (λ_=>Ev1.v kU);have hk:=OJ.mp hk;have h1:=Ev1.cmp (C:=C) (H:=H) (l:=upd (kN l [2,0]) 9 (.int k)) (p:=(U 384 50 63)) (Ev1.v (p:=(U 384 50 51)) (i:=9) rfl) (Ev1.v (p:=(U 384 59 63)) (i:=2) (by exact h2)) (i9 (k:=k) (done:=done));cases e:done.contains k with
 |true=>
  rw[e] at h1;exact(Ev1.acG h1 rfl).t rfl
 |false=>
  rw[e] at h1;exact(Ev1.acT h1 rfl (Ev1.cmp (um A hn hk (by exact h0) (by exact h2) kU (b:=.v 0 default)) (Ev1.lst .nil) (BO _))).t rfl
def JV:MB:=lW (bW 2 Dj)
def MR:MB:=lW (bW 1 JV)
def Ix(A:LC C){ns:List Int}{e:Nat}{Qk:List Nat}(hn:ns.length≤7)(he:e<ns.length)(ht:Qk.length=3)(h0:l 0=some (bn ns))(h7:l 7=some (aK Qk))(h8:l 8=some (.int e))(k:K .next (upd l 7 (aK (cL Qk (oct (ns.getD e 0))))) H):Xb C MR l H K:=
 aF (Ev1.call A.u (.cons (Ev1.v h7) (.one (Ev1.call A.o (.one (Ev1.idx (Ev1.v h0) (Ev1.v h8) (qA he hn))) (A.oc _)))) (A.uc _ _ ht rfl)) rfl (aB k)
def FJ{ns:List Int}:∀{k p:Nat},jx ns k p→∀e∈cz ns k p,e<ns.length:=by
 intro k;induction k with
 |zero=>
  intro _ h;exact h.elim
 |succ k ihr=>
  intro p h;exact λe he=>by
   rcases NU.mp he with rfl | he
   ·exact h.1
   ·exact ay (List.mem_flatMap.mp he) λq hq he=>ihr (h.2 q hq) e he
def Ah(A:LC C){ns:List Int}{p:Nat}(hf:C.fa "_law_ends"=true)(hc:∀ds d,I0 8 ds d→C.f "_law_ends" ds d)(hn:ns.length≤7)(hd:jx ns 8 p)(h0:l 0=some (bn ns))(h6:l 6=some (.int p))(h5:l 5=some (.obj j))(hH:H[j]?=some (.lst ys))(hy:ys.length≤100)(k:∀l',(∀i,i<6→l' i=l i)→K .next l' (H.set j (.lst (ys++[du (af p,aZ ns p)])))):Xb C JV l H K:=by
 have hl:=n6 ns 8 p;refine aF (d:=aK [0,0,0]) (Ev1.lst (.cons Ev1.c (.cons Ev1.c (.one Ev1.c)))) rfl (da (ds:=(cz ns 8 p).map λ(n:Nat)=>.int n) (Ev1.call hf (.cons (Ev1.v (by exact h0)) (.one (Ev1.v (by exact h6)))) (hc _ _ (aJ ns p hn kD hd rfl rfl))) rfl (au (by rw[NO];exact a8 hl)) (cK (λr l' H'=>H'=H∧(∀i,i<7→l' i=l i)∧∃Qk,Qk.length=3∧l' 7=some (aK Qk)∧(∀e∈r,e<ns.length)∧r.foldl (λa e=>cL a (oct (ns.getD e 0))) Qk=aZ ns p) ?_ ?_ _ _ _ (dK rfl (λi hi=>NY (av hi)) [0,0,0] rfl ⟨rfl,(FJ hd),rfl⟩)))
 ·rintro e r l2 H2 ⟨rfl,hi,Qk,ht,h7,hr,hs⟩ X hX;refine ak _ rfl (Ix A hn (hr e (.head _)) ht (by exact(hi 0 kD).trans h0) (by exact h7) kU (hX _ _ (dK rfl (λi RQ=>?_) _ rfl ⟨rfl,(λq hq=>hr q (.tail _ hq)),hs⟩)).1);show(if i=7 then _ else if i=8 then _ else l2 i)=_;rw[NY (av RQ),NY (av (az RQ))];exact hi i RQ
 ·rintro l2 H2 ⟨rfl,hi,Qk,ht,h7,hr,rfl⟩;exact aA (abi ((hi 5 kD).trans h5) hH (au (az hy)) (Ev1.tup (.cons (Ev1.call A.n (.one (Ev1.v ((hi 6 kD).trans h6))) (A.nc p (OC hd.1 hn))) (.one (Ev1.v h7)))) (aB (k l2 λi RQ=>hi i (az RQ))))
end
section
noncomputable def dx(H:AH):List PV→List Rd→Prop
 |[],rs=>rs=[]
 |o::os,rs=>∃i r rest,o=.obj i∧rs=r::rest∧H[i]?=some (.lst (r.map du))∧dx H os rest
def dx.ext{x:AO}:∀{os:List PV}{rs:List Rd},dx H os rs→dx (H++[x]) os rs:=by
 intro os;induction os with
 |nil=>exact λh=>h
 |cons o os ih=>exact λh=>h.imp λi=>.imp λr=>.imp λrest q=>aS q.1 q.2.1 (by rw[Ow (Og.mp q.2.2.1).1];exact q.2.2.1) (ih q.2.2.2)
def dx.snoc{r:Rd}(hr:H[i]?=some (.lst (r.map du))):∀{os:List PV}{rs:List Rd},dx H os rs→dx H (os++[.obj i]) (rs++[r]):=by
 intro os;induction os with
 |nil=>
  intro _ h;cases h;exact aH i r [] rfl rfl hr rfl
 |cons o os ihr=>
  intro _ Sa;exact cD Sa λj q rest a b c d=>aH j q (rest++[r]) a (by rw[b];rfl) c (ihr d)
def dx.len:∀{os:List PV}{rs:List Rd},dx H os rs→os.length=rs.length:=by
 intro os;induction os with
 |nil=>
  intro _ h;cases h;rfl
 |cons o os ihr=>
  intro _ Sa;refine cD Sa λj q rest a b c d=>?_;rw[b];exact N2 Nat.succ (ihr d)
def rW(p:Str×List Nat):dW (du p)=true:=by
 show(true&&(dW (aK p.2)&&true))=true;rw[show dW (aK p.2)=true from b0 (λ_=>rfl) _];rfl
def dx.res:∀{os:List PV}{rs:List Rd},dx H os rs→cg (fg H 3) os=some (rs.map bK):=by
 intro os;induction os with
 |nil=>
  intro _ h;cases h;rfl
 |cons o os ihr=>
  intro _ h;refine a5 h λi r rest O8 Qe=>?_;obtain rfl:=O8;refine aU Qe λPA QW=>?_;obtain rfl:=PA;refine aU QW λc d=>?_;have e:fg H 3 i=some (bK r):=vI c (b0 (f:=du) rW r);show(fg H 3 i).bind (λe=>(cg (fg H 3) os).map λes=>e::es)=_;rw[e,ihr d];rfl
def j2(ns:List Int)(done:List Nat):(freeOf ns done).length≤ns.length:=NT (OK _ _) (by rw[OL];exact Oe _)
def zW(p:Str×List Nat)(h:PyData.strOk p.1=true):∃q,Dat 2 (du p) q:=⟨_,Dat.tup (n:=1) (ps:=[.str p.1,.list (p.2.map λ(n:Nat)=>.int n)]) (aN _ _ rfl ((Dat.str h).le kD) (aN _ _ rfl (rJ p.2) rfl))⟩
def lM(k:Nat):PyData.strOk (af k)=true:=by
 rcases Nat.lt_or_ge k 7 with h | h
 ·revert k;decide +kernel
 ·unfold af;rw[OA,List.getElem?_eq_none (by exact h)];kernel_rfl
def Io{r:Rd}(hi:H[i]?=some (.lst (r.map du)))(hr:∀p∈r,PyData.strOk p.1=true):dS H .ne (.obj i) (.lst [])=some (!r.isEmpty):=by
 refine a9 (fK.of (n:=2) (l:=r.map du) λd hd=>by
  refine ay (Oj.mp hd) λp hp PI=>?_;obtain rfl:=PI;exact zW p (hr p hp)) λps QX=>?_
 have e:qV H (.obj i)=some (.list ps):=by
  show(listItems H (.obj i)).bind (λl=>(PV.toDs l).map PyData.list)=_;rw[mj hi,Option.bind_some,QX.all.1];rfl
 show(eqv H (.obj i) (.lst [])).map (!·)=_;have e2:eqv H (.obj i) (.lst [])=some (PyData.eqvAll ps []):=by
  show(qV H (.obj i)).bind (λp=>(qV H (.lst [])).bind λq=>if(SeqAt.shaped p&&SeqAt.shaped q)=true then some (PyData.eqv p q) else none)=_;rw[e,Option.bind_some];show(if(SeqAt.shaped (.list ps)&&SeqAt.shaped (.list []))=true then some (PyData.eqv (.list ps) (.list [])) else none)=_;rw[(Dat.lst QX).shaped kD];rfl
 rw[e2,fK.nil_eq QX,List.isEmpty_map];rfl
end
section
def FV(A:LC C){ns:List Int}{done:List Nat}{os:List PV}(hf:C.fa "_law_ends"=true)(hc:∀ds d,I0 8 ds d→C.f "_law_ends" ds d)(hn:ns.length≤7)(h0:l 0=some (bn ns))(h1:l 1=some (.lst os))(h2:l 2=some (aK done))(hR:dx H os rs)(ho:os.length≤50)(hd:done.length≤100)(hfree:∀p∈freeOf ns done,jx ns 8 p)(k:∀l' H' Uu,l' 0=l 0→l' 1=some (.lst Uu)→l' 2=some (aK (done++freeOf ns done))→dx H' Uu (bz ns (rs,done)).1→K .next l' H'):Xb C Dj l H K:=by
 have Rj:=j2 ns done;refine aF (Fx A hn h0 h2) rfl (cW (da (ds:=(freeOf ns done).map λ(n:Nat)=>.int n) Ev1.v rfl (au (by rw[NO];exact bu Rj hn)) (cK (λr l' H'=>∃pre,freeOf ns done=pre++r∧l' 0=l 0∧l' 1=l 1∧l' 2=l 2∧l' 4=some (aK (freeOf ns done))∧l' 5=some (.obj H.length)∧H'=H++[.lst ((pre.map λp=>(af p,aZ ns p)).map du)]) ?_ ?_ _ _ _ (cb [] rfl rfl rfl (aS rfl rfl rfl rfl)))))
 ·rintro p r l2 H2 ⟨pre,e,q0,q1,q2,q4,q5,rfl⟩ X hX;refine ak _ rfl ?_;have hp:p∈freeOf ns done:=by rw[e];simp
  have Pj:pre.length≤7:=by
   rw[e,NP] at Rj;exact bu Rj hn
  refine Ah A (ys:=(pre.map λp=>(af p,aZ ns p)).map du) hf hc hn (hfree p hp) (by exact q0.trans h0) kU (by exact q5) (eT H _) (by rw[NO,NO];exact az Pj) λl3 q=>(hX _ _ (cb (pre++[p]) (by rw[e,Oi];rfl) ((q 0 kD).trans q0) ((q 1 kD).trans q1) (aS ((q 2 kD).trans q2) ((q 4 kD).trans q4) ((q 5 kD).trans q5) ?_))).1;rw[cy,cy];exact on H _ _
 ·rintro l2 H2 ⟨pre,e,q0,q1,q2,q4,q5,rfl⟩;rw[N6] at e;have hr:(H++[AO.lst ((pre.map λp=>(af p,aZ ns p)).map du)])[H.length]?=some (.lst ((a7 ns done).map du)):=by
   rw[eT,e.symm];rfl
  have PH:=Io hr λp hp=>by
   refine ay (Oj.mp hp) λq _ Pt=>?_;obtain rfl:=Pt;exact lM q
  have YJ:=hR.ext (x:=AO.lst ((pre.map λp=>(af p,aZ ns p)).map du));refine aA ?_;have fin:∀Uu,dx (H++[AO.lst ((pre.map λp=>(af p,aZ ns p)).map du)]) Uu (bz ns (rs,done)).1→Xb C (bW 4 Dj) (upd l2 1 (.lst Uu)) (H++[AO.lst ((pre.map λp=>(af p,aZ ns p)).map du)]) K:=λUu h=>by
   refine aF (d:=aK (done++freeOf ns done)) (Ev1.bin (x:=aK done) (y:=aK (freeOf ns done)) (Ev1.v (by exact q2.trans h2)) (Ev1.v (by exact q4)) λKv q=>?_) rfl (aB (k _ _ Uu q0 rfl rfl h));show fo .add (.lst _) (.lst _) Kv;rw[e8,tR (au (by rw[NO,NO];exact ph Rj hd hn)),← OI];exact q
  cases Q4:a7 ns done with
  |nil=>
   rw[Q4] at PH;have e3:(bz ns (rs,done)).1=rs:=N1 Q4;refine aF (Ev1.ite (r:=false) ((Ev1.cmp (Ev1.v q5) (Ev1.lst .nil) PH).t rfl) (Ev1.v (q1.trans h1))) rfl (fin os ?_);rw[e3];exact YJ
  |cons x y=>
   rw[Q4] at PH;have e3:(bz ns (rs,done)).1=rs++[a7 ns done]:=NY (by show ¬a7 ns done=[];rw[Q4];nofun);refine aF (d:=.lst (os++[.obj H.length])) (Ev1.ite (r:=true) ((Ev1.cmp (Ev1.v q5) (Ev1.lst .nil) PH).t rfl) (Ev1.bin (Ev1.v (q1.trans h1)) (Ev1.lst (.one (Ev1.v q5))) λKv q=>?_)) rfl (fin _ ?_)
   ·rw[e8,tR (au (by rw[List.length_singleton];exact a8 ho))];exact q
   ·rw[e3];exact YJ.snoc hr
end
def tm{ns:List Int}{done:List Nat}{t:Nat}(h:∀p∈done,jx ns t p):∀p∈freeOf ns done,jx ns (t+1) p:=by
 refine λp hp=>aU (List.mem_filter.mp hp) λh1 h2=>⟨OJ.mp h1,λq hq=>h q ?_⟩;have h3:=(Oq.mp h2).2;rw[List.isEmpty_iff,List.filter_eq_nil_iff] at h3;have h4:=h3 q hq;have h5:done.contains q=true:=by
  cases e:done.contains q with
  |true=>rfl
  |false=>rw[e] at h4;exact absurd rfl h4
 exact List.contains_iff_mem.mp h5
def FN{ns:List Int}{s:List Rd×List Nat}{t:Nat}(h:∀p∈s.2,jx ns t p):∀p∈(bz ns s).2,jx ns (t+1) p:=by
 intro p hp;rcases Ot.mp hp with hp | hp
 ·exact(h p hp).mono
 ·exact tm h p hp
def EL{ns:List Int}{s:List Rd×List Nat}:(bz ns s).2.length≤s.2.length+ns.length∧(bz ns s).1.length≤s.1.length+1:=by
 constructor
 ·show(s.2++freeOf ns s.2).length≤_;rw[NP];have:=j2 ns s.2;exact a8 this
 ·show(if a7 ns s.2=[] then s.1 else s.1++[a7 ns s.2]).length≤_;split
  ·exact eQ
  ·rw[NP];exact Oe _
section
def yN{r:Nat→Option PV}{b:Bool}{os es:List PV}(h:cg r os=some es):cg r [.bool b,.lst os]=some [.bool b,.lst es]:=by
 show(some (PV.bool b)).bind (λe=>(((cg r os).map PV.lst).bind λe2=>(some ([]:List PV)).map λx=>e2::x).map λes=>e::es)=_;rw[h];rfl
theorem L7(A:LC C){ns:List Int}(hf:C.fa "_law_ends"=true)(hc:∀ds d,I0 8 ds d→C.f "_law_ends" ds d)(hn:ns.length≤7):
  fnW C EW.1 [bn ns] (·=.lst [.bool (decide ((cj ns).2.length<ns.length)),.lst ((cj ns).1.map bK)]):=by
 refine ft (gU ns) (aF (d:=.tup [.lst [],aK []]) (Ev1.tup (.cons (Ev1.lst .nil) (.one (Ev1.lst .nil)))) rfl (da (ds:=ns.map .int) Ev1.v rfl (au (by rw[NO];exact az hn)) (cK (λr l' H'=>∃s os t,t+r.length≤ns.length∧l' 0=some (bn ns)∧l' 1=some (.lst os)∧l' 2=some (aK s.2)∧dx H' os s.1∧(∀p∈s.2,jx ns t p)∧s.2.length≤t*7∧s.1.length≤t∧r.foldl (λs _=>bz ns s) s=cj ns) ?_ ?_ _ _ _ (aH ([],[]) [] 0 (by rw[OM];exact Oe _) kU kU (bY kU kU (by intro p hp;cases hp) (Oe _) ⟨(Oe _),(by exact rfl)⟩)))))
 ·rintro x r l2 H2 ⟨s,os,t,ht,h0,h1,h2,hR,hd,e1,e2,e3⟩ X hX;refine ak _ rfl ?_;rw[NR] at ht;have hl:=hR.len;have hs:=EL (ns:=ns) (s:=s);refine FV A (done:=s.2) (rs:=s.1) hf hc hn (by exact h0) (by exact h1) (by exact h2) hR (Hj (aq hl) e2 ht hn) (by lia) (λp hp=>(tm hd p hp).le (bu ht hn)) λl3 H3 os3 q0 q1 q2 q3=>(hX _ _ (aH (bz ns s) os3 (t+1) (a8 ht) (q0.trans h0) q1 (bY q2 q3 (FN hd) (ph hs.1 e1 hn) ⟨(bu hs.2 e2),e3⟩))).1
 ·rintro l2 H2 ⟨s,os,t,ht,h0,h1,h2,hR,hd,e1,e2,e3⟩;have e3:s=cj ns:=e3;subst e3;have hl:=hR.len;refine aA (ct (d:=.lst [.bool (decide ((cj ns).2.length<ns.length)),.lst os]) (Ev1.lst (.cons (Ev1.cmp (Ev1.bi (.one (Ev1.v h2)) (kP (by rw[NO];lia))) (Ev1.bi (.one (Ev1.v h0)) (kP (by rw[NO];exact az hn))) ?_) (.one (Ev1.v h1)))) (aQ (d:=.lst [.bool (decide ((cj ns).2.length<ns.length)),.lst ((cj ns).1.map bK)]) ?_ rfl))
  ·rw[Ld,NO,NO];exact N2 some (decide_eq_decide.mpr Int.ofNat_lt)
  ·show(cg (fg H2 3) [.bool (decide ((cj ns).2.length<ns.length)),.lst os]).map PV.lst=_;rw[yN hR.res];rfl
end
section
open Builtin.Re
open Rx
def lF:isSubtype (.type "re.Pattern") (.type "re.Pattern")=pure true:=by rw[isSubtype_type];kernel_rfl
def ei:Slot "re.Pattern" "search" "re.Pattern.search":=iU (m:="search") (by rw[Ox,Of];kernel_rfl) kE kE kE kE lF kE
def jr:Slot "re.Pattern" "fullmatch" "re.Pattern.fullmatch":=iU (m:="fullmatch") (by rw[Ox,Of];kernel_rfl) kE kE kE kE lF kE
def mi:Slot "re.Pattern" "sub" "re.Pattern.sub":=iU (m:="sub") (by rw[Ox,Of];kernel_rfl) kE kE kE kE lF kE
def ku:Slot "re.Pattern" "subn" "re.Pattern.subn":=iU (m:="subn") (by rw[Ox,Of];kernel_rfl) kE kE kE kE lF kE
def qN:entryFor table "re.Pattern.search"=some Builtin.«re.Pattern.search»:=entryFor_of_tree kR
def sR:entryFor table "re.Pattern.fullmatch"=some Builtin.«re.Pattern.fullmatch»:=entryFor_of_tree kR
def entry_sub:entryFor table "re.Pattern.sub"=some Builtin.«re.Pattern.sub»:=entryFor_of_tree kR
def uu:entryFor table "re.Pattern.subn"=some Builtin.«re.Pattern.subn»:=entryFor_of_tree kR
def mR:entryFor table "re.Pattern.sub.loop"=some Builtin.«re.Pattern.sub.loop»:=entryFor_of_tree kR
def e7:plainId "re.Pattern.sub.loop"=true:=kE
section
variable{α:Type}{M:Model}{A:Around}
theorem zg{Q:Sre.M→Shared→Prop}(hΦ:∀m,Φ m→m.outcome.isSome=true)(hQ:∀m,Φ m→Q m s):∀(QC:Nat)(m:Sre.M),0<QC→Ru (4*QC) m Φ→wpAny M A (reDrive QC m) Q E s:=by
 intro QC;induction QC with
 |zero=>
  exact λm h0 _=>absurd h0 kD
 |succ QC ihr=>
  refine λm _ zz2=>ay zz2 λk hk h=>?_;have e4:m.runFor reTurnSteps=it 4 m:=xM 4 m;show wpAny M A (if(m.runFor reTurnSteps).outcome.isSome=true then pure (m.runFor reTurnSteps) else rule "sre.turn">>=λ_=>reDrive QC (m.runFor reTurnSteps)) Q E s;rw[e4];by_cases q:(it 4 m).outcome.isSome=true
  ·rw[N1 q];refine NQ (hQ _ ?_);rcases Nat.le_total k 4 with hk4 | hk4
   ·have e:it 4 m=it (4-k) (it k m):=by rw[← m7];congr 1;exact lr (ac hk4).symm
    rw[e,qk (hΦ _ h)];exact h
   ·have e:it k m=it (k-4) (it 4 m):=by rw[← m7];congr 1;exact lr (ac hk4).symm
    rw[← qk q (k-4),e.symm];exact h
  ·rw[NY q];have hk4:4<k:=by
    refine Nat.lt_of_not_le λhk4=>q ?_;have e:it 4 m=it (4-k) (it k m):=by rw[← m7];congr 1;exact lr (ac hk4).symm
    rw[e,qk (hΦ _ h)];exact hΦ _ h
   have e:it k m=it (k-4) (it 4 m):=by rw[← m7];congr 1;exact lr (ac (b:=4) (a:=k) (a8 hk4)).symm
   exact NN (wpAny_rule (ihr (it 4 m) (Nat.pos_of_ne_zero λe=>Nat.not_lt.mpr (e▸hk:k≤4*(0+1)) hk4) (ak (k-4) (bu hk (aq (ac (b:=4) (a:=k) (a8 hk4)))) (e▸h))))
def Hk{β:Type}{f:β→PUnit→Sem (ForInStep PUnit)}{Q:PUnit→Shared→Prop}(hf:∀i (R:ForInStep PUnit→Shared→Prop),R (.yield ⟨⟩) s→wpAny M A (f i ⟨⟩) R E s)(h:Q ⟨⟩ s):∀l:List β,wpAny M A (forIn l PUnit.unit f) Q E s:=by
 intro l;induction l with
 |nil=>
  rw[List.forIn_nil];exact NQ h
 |cons i l ihr=>
  rw[List.forIn_cons];exact NN (hf i _ (ihr))
def Cc{Φ:Sre.M→Prop}{Q:Option Sre.M→Shared→Prop}{m:Sre.M}(hΦ:∀m,Φ m→m.outcome=some .matched∧Q (some m) s∨m.outcome=some .failed∧Q none s)(h:Ru (2^40) m Φ):wpAny M A (reRunToEnd m) Q E s:=by
 unfold reRunToEnd;refine NN (zg (Φ:=Φ) (λm x=>by rcases hΦ m x with y | y<;>rw[y.1]<;>rfl) (λm x=>NN (Hk (λi R hR=>?_) ?_ _)) (2^64) m kD (h.le kD))
 ·by_cases q:m.seen.has i=true
  ·rw[N1 q];exact NN (wpAny_rule (NQ hR))
  ·rw[NY q];exact NQ hR
 ·rcases hΦ m x with y | y<;>rw[y.1]<;>exact NQ y.2
def rU{Q:Option Sre.M→Shared→Prop}{m:Sre.M}{st hd:Nat}(h:Found m st hd ms lm li)(hQ:∀m,Fin st hd ms lm li m→Q (some m) s):wpAny M A (reRunToEnd m) Q E s:=Cc (λm x=>.inl ⟨x.out,hQ m x⟩) h
def vu{Q:Option Sre.M→Shared→Prop}{m:Sre.M}(h:iW m)(hQ:Q none s):wpAny M A (reRunToEnd m) Q E s:=Cc (λm x=>.inr ⟨x,hQ⟩) h
end
end
section
open Builtin.Re
open Rx
structure gN(h:Heap)(a:Addr)(C:Array Nat)(g:Nat):Prop where
 at_:∃(fs:Array Value)(T:Addr)(ws:Array Value)(n:Nat),h.get? a=some {cls:=.type "re.Pattern",data:=.fields fs}∧fs.getD 5 .none=.ref T∧reRawNat (fs.getD 2 .none)=g∧reRawNat (fs.getD 6 .none)=0 ∧
  h.get? T=some {cls:=.type "tuple",data:=.seq ws n}∧(ws.map reRawOf).map (·.toNat)=C
def gN.keeps{C:Array Nat}{g:Nat}(p:gN h a C g)(k:∀b cl d,h.get? b=some {cls:=.type cl,data:=d}→h'.get? b=some {cls:=.type cl,data:=d}):gN h' a C g:=
 ⟨p.at_.imp λ_=>.imp λ_=>.imp λ_=>.imp λ_ q=>bY (k _ _ _ q.1) q.2.1 q.2.2.1 q.2.2.2.1 ⟨(k _ _ _ q.2.2.2.2.1),q.2.2.2.2.2⟩⟩
def gN.typeIs{C:Array Nat}{g:Nat}(p:gN s.heap a C g):s.TypeIs (.ref a) "re.Pattern":=by
 exact bl p.at_ λfs _ _ _ h _=>ak _ h rfl
section
variable{w:World}{A:Around}{C:Array Nat}{g:Nat}{t:Tok}
noncomputable abbrev Bw(a:Addr)(C:Array Nat)(g:Nat)(x:Str)(t:Tok):ReTarget:={pattern:=.ref a,string:=.str x t,code:=C,text:=x.cps,kind:=0,groups:=g,pos:=0,lim:=x.cps.size}
def vF:reTextOf (.str x t)=pure (x.cps,0):=rfl
def pr{Q:ReTarget→Shared→Prop}{id f:String}{M:Model}(hn:reNamed id f ["string","pos","endpos"] 1 [.str x t] []=pure [some (.str x t),none,none])(p:gN s.heap a C g)(hb:x.length≤4294967295)(h:Q (Bw a C g x t) s):wpAny M A (reTarget id f ⟨[.ref a,.str x t],[]⟩) Q E s:=by
 refine bl p.at_ λfs T ws n h1 QV=>dO QV λh2 h3 h4 h5 h6=>?_;unfold reTarget;refine NN (Oo hn (NN (NQ (NN (NQ (NN (wpAny_fieldsOf h1 rfl (NN (Oo vF (bm_if_false (by rw[h4];rfl) (bm_if_false (by rw[h4];rfl) (NN (Oo (a:=()) rfl (NN ?_))))))))))))));rw[h2,h3];refine NN (wpAny_seqItems h5 rfl (NQ (NQ ?_)));have e:min (2^63-1:Int).toNat x.cps.size=x.cps.size:=Nat.min_eq_right (NT hb kD);show Q {pattern:=.ref a,string:=.str x t,code:=(ws.map reRawOf).map (·.toNat),text:=x.cps,kind:=0,groups:=g,pos:=min (0:Int).toNat x.cps.size,lim:=min (2^63-1:Int).toNat x.cps.size} s;rw[h6,e,show min (0:Int).toNat x.cps.size=0 from Nat.min_eq_left (Oc _)];exact h
def jP{Q:ReTarget→Shared→Prop}{M:Model}(p:gN s.heap a C g)(h:Q (Bw a C g x t) s):wpAny M A (reWholeTarget (.ref a) (.str x t)) Q E s:=by
 refine bl p.at_ λfs T ws n h1 R3=>dO R3 λh2 h3 h4 h5 h6=>?_;unfold reWholeTarget;refine NN (wpAny_fieldsOf h1 rfl (NN (Oo vF (bm_if_false (by rw[h4];rfl) (bm_if_false (by rw[h4];rfl) (NN (Oo (a:=()) rfl (NN ?_))))))));rw[h2,h3];refine NN (wpAny_seqItems h5 rfl (NQ (NQ ?_)));show Q {pattern:=.ref a,string:=.str x t,code:=(ws.map reRawOf).map (·.toNat),text:=x.cps,kind:=0,groups:=g,pos:=0,lim:=x.cps.size} s;rw[h6];exact h
noncomputable def spans(ms:Array (Option Nat)):List Int:=match ms.toList with
 |[some b,some e]=>[(b:Int),(e:Int)]
 |_=>[]
set_option backward.match.sparseCases true in
def lh{M:Model}{m:Sre.M}{st hd:Nat}(F:Fin st hd ms lm li m)(hg:(g=0∧ms=#[])∨(g=1∧lm=1∧∃b e:Nat,b≤e∧ms=#[some b,some e]))(h:Q (.ref (s.heap.objs.size+1)) {s with heap:=(s.heap.push (dX (((st:Int)::(hd:Int)::spans ms).map rawInt) 0)).push (qx x t (.ref a) (rawInt 0) (rawInt x.cps.size) (rawInt li) s.heap.objs.size)}):
  wpAny M A (reNewMatch (.ref a) (.str x t) g 0 x.cps.size m) Q E s:=by
 obtain⟨_,rfl,rfl,e1,e2,rfl⟩:=F;have fin:∀l:List Value,l=(((m.start:Int)::(m.handed:Int)::spans ms).map rawInt)→wpAny M A (newTuple l>>=λy=>newFields "re.Match" [.str x t,.ref a,rawInt 0,rawInt x.cps.size,rawInt m.lastindex,y]) Q E s:=λl hl=>by
  subst hl;refine NN (wpAny_newTuple ?_ ?_)
  ·refine wpAny_newObj_type ?_ (by show 6≤sizeLine+2;rw[sizeLine_eq];decide);rw[Heap.size_push];exact h
  ·rcases hg with ⟨_,rfl⟩ | ⟨_,_,b,e,_,rfl⟩<;>(rw[sizeLine_eq];exact dZ rfl)
 rcases hg with ⟨rfl,rfl⟩ | ⟨rfl,rfl,b,e,hbe,rfl⟩
 ·unfold reNewMatch;exact bm_if_false rfl (fin _ rfl)
 ·unfold reNewMatch;have Po:¬e<b:=Nat.not_lt.mpr hbe;have q:(List.range 1).any (λg=>match m.marks.getD (2*g) none,m.marks.getD (2*g+1) none with | some b,some e=>((2*g+1:Nat):Int)≤m.lastmark&&e<b | _,_=>false)=false:=by
   rw[e1,e2];show((decide (((2*0+1:Nat):Int)≤1)&&decide (e<b))||false)=false;rw[Os Po];rfl
  refine bm_if_false q (fin _ ?_);rw[e1,e2];rfl
def Ij(g:Nat)(ms:Array (Option Nat))(lm:Int):Prop:=(g=0∧ms=#[])∨(g=1∧lm=1∧∃b e:Nat,b≤e∧ms=#[some b,some e])
abbrev MZ(s:Shared)(a:Addr)(x:Str)(t:Tok)(st hd:Nat)(ms:Array (Option Nat))(li:Int):Heap:=
 (s.heap.push (dX (((st:Int)::(hd:Int)::spans ms).map rawInt) 0)).push (qx x t (.ref a) (rawInt 0) (rawInt x.cps.size) (rawInt li) s.heap.objs.size)
def wE{g:Gh}{st hd:Nat}(T:g.abh s.heap):abb g (MZ s a x t st hd ms li) (.mat x ((st:Int)::(hd:Int)::spans ms)) (.ref (s.heap.objs.size+1)):=by
 refine aG _ s.heap.objs.size (aG t (.ref a) (aG (rawInt 0) (rawInt x.cps.size) (aJ (rawInt li) 0 rfl (λz=>?_) T.new ?_ (NS _ (NZ _ rfl)))))
 ·exact c8 (T _ z) (Heap.get?_none_of_le (Nat.le_succ _))
 ·have h:=NZ (h:=s.heap.push (dX (((st:Int)::(hd:Int)::spans ms).map rawInt) 0)) (o:=qx x t (.ref a) (rawInt 0) (rawInt x.cps.size) (rawInt li) s.heap.objs.size) rfl
  rwa [Heap.size_push] at h
def s0(v:Value):argsOk "re.Pattern.search" ⟨[.ref a,v],[]⟩:=by unfold argsOk;kernel_rfl
def tH(v:Value):argsOk "re.Pattern.fullmatch" ⟨[.ref a,v],[]⟩:=by unfold argsOk;kernel_rfl
def yh(v:Value):reNamed "re.Pattern.search" "search" ["string","pos","endpos"] 1 [v] []=pure [some v,none,none]:=kR
def AU(v:Value):reNamed "re.Pattern.fullmatch" "fullmatch" ["string","pos","endpos"] 1 [v] []=pure [some v,none,none]:=kR
def m6(x:Str)(m:Sre.M)(g:Nat)(d:PV):Prop:=(iW m∧d=.none)∨∃st hd ms lm li,Found m st hd ms lm li∧Ij g ms lm∧d=.mat x ((st:Int)::(hd:Int)::spans ms)
def lq{m:Sre.M}(T:gh.abh s.heap)(h:m6 x m g d)(hQ:∀v s',Kp0 S gh s s'→abb gh s'.heap d v→Q v s'){M:Model}:
  wpAny M B (reAnswer (Bw a C g x t) m) (λfin s'=>match fin with | .done f=>wants Q E (.ok f) s' | .again c'=>c'.quiet=true∧codeAny (model prog w) A c' (wants Q E) s') (λe s'=>wants Q E (.error e) s') s:=by
 unfold reAnswer;rcases h with ⟨h,rfl⟩ | ⟨st,hd,ms,lm,li,h,hg,rfl⟩
 ·exact NN (vu h (NQ (hQ _ _ .refl rfl)))
 ·exact NN (rU h λm F=>NN (lh F hg (NQ (hQ _ _ (Kp0.abu.trans Kp0.abu) (wE T)))))
def sO(p:gN s.heap a C g)(hb:x.length≤4294967295)(T:gh.abh s.heap)(h:m6 x (Sre.forSearch C x.cps g 0 x.cps.size false) g d)(hQ:∀v s',Kp0 S gh s s'→abb gh s'.heap d v→Q v s'):
  wpAny (model prog w) A (call (.builtin "re.Pattern.search") [.ref a,.str x t]) Q E s:=by
 refine wpAny_call (codeAny_call_builtin ei.plain qN (ei.check _ _ _ _ _ _ _ _ p.typeIs (s0 _) ?_));unfold Builtin.«re.Pattern.search»;exact NN (pr (yh _) p hb (lq T h hQ))
def tM(p:gN s.heap a C g)(hb:x.length≤4294967295)(T:gh.abh s.heap)(h:m6 x (Sre.forMatch C x.cps g 0 x.cps.size true false) g d)(hQ:∀v s',Kp0 S gh s s'→abb gh s'.heap d v→Q v s'):
  wpAny (model prog w) A (call (.builtin "re.Pattern.fullmatch") [.ref a,.str x t]) Q E s:=by
 refine wpAny_call (codeAny_call_builtin jr.plain sR (jr.check _ _ _ _ _ _ _ _ p.typeIs (tH _) ?_));unfold Builtin.«re.Pattern.fullmatch»;exact NN (pr (AU _) p hb (lq T h hQ))
end
end
section
open Builtin.Re
open Rx
noncomputable def Gh.wth(g:Gh)(L:Addr):Gh:=⟨λx=>g.Z x∨x=L,g.W,g.ad,λa h=>.inl (g.sub a h)⟩
structure LI(S:Cx)(g:Gh)(LP:Gh→Heap→Prop)(O5:Shared)(L:Addr)(pre:List Str)(s:Shared):Prop where
 k:Kp0 S g O5 s
 w:Wl S (g.wth L) s
 lp:LP (g.wth L) s.heap
 l:∃xs n,s.heap.get? L=some (cE (strValues xs) n)∧xs.map (·.1)=pre
 new:O5.heap.get? L=none
 tz:¬S.T L∧S.base.get? L=none
section
variable{L:Addr}{pre:List Str}
def wQ(x:S.TI (g.wth L) h):S.TI g h:=λt m=>(x t m).imp λ_ q=>⟨q.1,q.2.1,q.2.2.imp id λr=>r.imp λ_=>.imp λ_=>.imp λ_=>.imp λ_ r=>⟨r.1,λz=>r.2.1 (.inl z),r.2.2⟩⟩
def LI.kp(x:LI S g LP O5 L pre s)(QO:∀h h',LP (g.wth L) h→aC (g.wth L) (g.wth L) h h'→LP (g.wth L) h')(k:Kp S (g.wth L) s s'):LI S g LP O5 L pre s':=by
 have ov:aC (g.wth L) (g.wth L) s.heap s'.heap:=⟨λb o z e=>⟨z,k.abc b o (λt=>z (x.w.tz b t).1) e⟩,λ_ _ e=>e⟩;have ti:=k.ti x.w.I;refine⟨⟨?_,λb o t e=>k.abc b o t (x.k.abc b o t e),λb e=>k.ex b (x.k.ex b e),λ_=>wQ ti⟩,⟨λb z=>k.ex b (x.w.T b z),x.w.W.over ov,ti,k.tp,x.w.tz⟩,QO _ _ x.lp ov,?_,x.new,x.tz⟩
 ·refine ce x.k.same λh t Pt=>?_;obtain rfl:=Pt;refine ce k.same λh' t' O8=>?_;obtain rfl:=O8;exact aG h' t' rfl
 ·exact x.l.imp λxs=>.imp λn q=>⟨k.abc _ _ x.tz.1 q.1,q.2⟩
theorem LI.push(x:LI S g LP O5 L pre s)(QO:∀h h',LP (g.wth L) h→aC (g.wth L) (g.wth L) h h'→LP (g.wth L) h'){t:Tok}:LI S g LP O5 L (pre++[y]) {s with heap:=s.heap.update L (Obj.mapSeq (·.push (.str y t)))}:=by
 refine aP x.l λxs n hL hp=>?_;have RJ:∀b o,b≠L→s.heap.get? b=some o→(s.heap.update L (Obj.mapSeq (·.push (.str y t)))).get? b=some o:=λb o hb e=>(Heap.get?_update_other _ _ (Ne.symm hb)).trans e;obtain⟨n',YH⟩:∃n',(s.heap.update L (Obj.mapSeq (·.push (.str y t)))).get? L=some (cE (strValues (xs++[(y,t)])) n'):=by
  have e:=Obj.mapSeq_push_plain (strValues xs).toArray n (.str y t);refine⟨n+1,?_⟩;rw[Heap.get?_update_self _ hL (by rw[e];rfl),e];simp[strValues]
 have Sp:∀b,(∃o,s.heap.get? b=some o)→∃o,(s.heap.update L (Obj.mapSeq (·.push (.str y t)))).get? b=some o:=λb hb=>by
  by_cases q:b=L
  ·exact⟨_,by rw[q];exact YH⟩
  ·exact hb.imp λo=>RJ b o q
 have ov:aC (g.wth L) (g.wth L) s.heap (s.heap.update L (Obj.mapSeq (·.push (.str y t)))):=⟨λb o z e=>⟨z,RJ b o (λq=>z (.inr q)) e⟩,λ_ _ e=>e⟩;have ti:S.TI (g.wth L) (s.heap.update L (Obj.mapSeq (·.push (.str y t)))):=λt m=>(x.w.I t m).over ov.obj λo e=>RJ _ o (λq=>x.tz.1 (q▸(ak t m rfl))) e;have old:∀b,(∃o,O5.heap.get? b=some o)→b≠L:=λb ⟨o,e⟩ q=>by rw[q,x.new] at e;cases e
 refine⟨⟨ce x.k.same λh t Pq=>?_,λb o nt e=>RJ b o (old b ⟨o,e⟩) (x.k.abc b o nt e),λb e=>Sp b (x.k.ex b e),λ_=>wQ ti⟩,⟨λb z=>Sp b (x.w.T b z),x.w.W.over ov,ti,x.w.tp,x.w.tz⟩,QO _ _ x.lp ov,fw _ n' YH (by simp[hp]),x.new,x.tz⟩;obtain rfl:=Pq;exact aG _ t rfl
end
inductive hU(C:Array Nat)(g:Nat)(x:Str)(rep:Nat→Nat→Array (Option Nat)→Str→Prop):Nat→List Str→Nat→Prop
 |stop {p:Nat} (h:iW (Sre.forSearch C x.cps g p x.cps.size false)):hU C g x rep p (if p<x.cps.size then[⟨x.cps.extract p x.cps.size⟩] else[]) 0
 |hit {p st hd k:Nat} {ms:Array (Option Nat)} {lm li:Int} {r:Str} {ts:List Str} (h:Found (Sre.forSearch C x.cps g p x.cps.size false) st hd ms lm li) (hg:Ij g ms lm) (h1:st<hd) (hr:rep st hd ms r) (n:hU C g x rep hd ts k):
  hU C g x rep p ((if p<st then[⟨x.cps.extract p st⟩] else[])++r::ts) (k+1)
section
variable{L:Addr}{A:Around}{C:Array Nat}{g:Nat}{t:Tok}{abm:Value}
def mI{M:Model}{b e:Nat}(hx:x.length≤1000000)(h:Q (.str ⟨x.cps.extract b e⟩ s.toks) {s with toks:=s.toks+1}):wpAny M B (reSlice x.cps 0 b e) Q E s:=by
 unfold reSlice;refine bm_if_true rfl (wpAny_mkStr h ?_);rw[sizeLine_eq];refine NT (show(x.cps.extract b e).size≤x.cps.size from ?_) (NT hx kD);rw[Array.size_extract];exact bu (Nat.sub_le (min e x.cps.size) b) (Nat.min_le_right e x.cps.size)
def pJ{M:Model}{pre:List Str}{u:Tok}{Q:Unit→Shared→Prop}(I:LI S gh LP O5 L pre s)(QO:∀h h',LP (gh.wth L) h→aC (gh.wth L) (gh.wth L) h h'→LP (gh.wth L) h')(hl:pre.length≤1000)(h:∀s',LI S gh LP O5 L (pre++[y]) s'→Q () s'):wpAny M B (updateSeq L (·.push (.str y u))) Q E s:=by
 refine aP (id I.l) λxs n hL hp=>?_;have hs:(strValues xs).toArray.size=pre.length:=by rw[hp.symm];simp[strValues]
 exact wpAny_updateSeq hL rfl (h _ (I.push QO)) (by rw[hs,sizeLine_eq];exact az hl) (by rw[Array.size_push,hs,sizeLine_eq];exact a8 hl)
def Cl{α:Type}{M:Model}{m:Sem α}{Q:α→Shared→Prop}(lit:way=0→∃r u,abm=.str r u∧∀st hd ms r',rep st hd ms r'→r'=r)(h2:way=0∨way=1)(h:wpAny M B m Q E s):
  wpAny M B (if(way==0)=true then reLiteralCannotBeTurned abm>>=λ_=>m else m) Q E s:=by
 rcases h2 with rfl | rfl
 ·refine aP (lit rfl) λr u PI _=>?_;obtain rfl:=PI;exact bm_if_true rfl (NN (Oo (a:=()) rfl h))
 ·exact bm_if_false rfl h
abbrev vB(w:World)(prog:Program)(A:Around)(R:Result→Shared→Prop):Fin→Shared→Prop:=λfin s'=>match fin with | .done f=>R (.ok f) s' | .again c'=>c'.quiet=true∧codeAny (model prog w) A c' R s'
noncomputable def vo(wc:Bool)(n:Int)(text:Value):Sem PySem.Fin:=if wc=true then(holding [text] (mkInt n>>=λm=>newTuple [text,m]))>>=λv=>ret v else ret text
def wA{pre:List Str}{n:Int}(I:LI S gh LP O5 L pre s)(QO:∀h h',LP (gh.wth L) h→aC (gh.wth L) (gh.wth L) h h'→LP (gh.wth L) h')(hx:x.length≤1000000)(Rl:JoinOk ⟨#[]⟩ pre=true)(hQ:∀v s',Kp0 S gh O5 s'→0<s'.toks→abb gh s'.heap (match wc with | true=>.tup [.str (Txt.join ⟨#[]⟩ pre),.int n] | false=>.str (Txt.join ⟨#[]⟩ pre)) v→Q v s'):
  wpAny S.M B (reSlice x.cps 0 0 0>>=λSJ=>seqItems? (.ref L)>>=λy=>if(y.getD #[]).isEmpty=true then pure SJ>>=vo wc n else call (.builtin "str.join") [SJ,.ref L]>>=vo wc n) (vB S.w S.prog A (wants Q E)) (λe s'=>wants Q E (.error e) s') s:=by
 have tl:∀(u:Tok)(s':Shared),LI S gh LP O5 L pre s'→wpAny S.M B (vo wc n (.str (Txt.join ⟨#[]⟩ pre) u)) (vB S.w S.prog A (wants Q E)) (λe s'=>wants Q E (.error e) s') s':=λu s' I'=>by
  unfold vo;cases wc with
  |false=>exact bm_if_false rfl (NQ (hQ _ _ I'.k I'.w.tp ⟨_,rfl⟩))
  |true=>
   exact bm_if_true rfl (NN (Om (NN (wpAny_mkInt (wpAny_newTuple (NQ (hQ _ _ ((I'.k.trans Kp0.toks).trans Kp0.abu) (Nat.succ_pos _) (aH _ [.str (Txt.join ⟨#[]⟩ pre) u,.int n s'.toks] 0 rfl (λz=>c8 (I'.w.T _ (.inl z)) (be _)) (NZ _ rfl) (aN _ _ rfl ⟨_,rfl⟩ (aN _ _ rfl ⟨_,rfl⟩ rfl))))) (by rw[sizeLine_eq];exact dZ rfl))))))
 refine NN (mI hx ?_);have PG:=I.kp QO (s':={s with toks:=s.toks+1}) ⟨Kp0.toks,Nat.succ_pos _⟩;refine aP (id PG.l) λxs m hL Pj=>?_;have e0:(⟨x.cps.extract 0 0⟩:Str)=⟨#[]⟩:=by simp
 rw[e0];refine NN (wpAny_seqItems hL rfl ?_);cases xs with
 |nil=>
  subst Pj;exact bm_if_true rfl (NN (NQ (tl _ _ PG)))
 |cons y r=>
  exact bm_if_false rfl (NN (aW PG.w.tp (SC.join (D:=L) (l:=y::r) (bS _ hL rfl m rfl) Pj Rl λt' k tp=>tl _ _ (PG.kp QO ⟨Kp0.toks,tp⟩))))
theorem r7(QO:∀h h',LP (gh.wth L) h→aC (gh.wth L) (gh.wth L) h h'→LP (gh.wth L) h')(hp:∀s pre,LI S gh LP O5 L pre s→gN s.heap a C g)(hx:x.length≤1000000)(item:way=1→∀(s:Shared)(pre:List Str)(v:Value)(st hd:Nat)(ms:Array (Option Nat))(r:Str)(Q:Value→Shared→Prop),rep st hd ms r→LI S gh LP O5 L pre s→abb (gh.wth L) s.heap (.mat x ((st:Int)::(hd:Int)::spans ms)) v→(∀u s',LI S gh LP O5 L pre s'→Q (.str r u) s') →
   wpAny S.M A.in1 (holding [v] (if(way==1)=true then call abm [v] else do reExpand abm (← reFound v))) Q E s)(lit:way=0→∃r u,abm=.str r u∧∀st hd ms r',rep st hd ms r'→r'=r)(h2:way=0∨way=1):
  ∀{p:Nat}{ts:List Str}{k:Nat},hU C g x rep p ts k→∀{pre:List Str}{n:Int}{s:Shared}{Q:Value→Shared→Prop},LI S gh LP O5 L pre s→(pre++ts).length≤1000→JoinOk ⟨#[]⟩ (pre++ts)=true →
  (∀v s',Kp0 S gh O5 s'→0<s'.toks→abb gh s'.heap (match wc with | true=>.tup [.str (Txt.join ⟨#[]⟩ (pre++ts)),.int (n+k)] | false=>.str (Txt.join ⟨#[]⟩ (pre++ts))) v→Q v s') →
  codeAny S.M A (.builtin "re.Pattern.sub.loop" ⟨[.ref a,.str x t,abm,rawInt way,rawInt 0,rawInt n,rawInt p,rawInt p,.bool false,.ref L,.bool wc],[]⟩) (wants Q E) s:=by
 intro p ts k H;induction H with
 |@stop p h=>
  intro pre n s Q I OV Rl hQ;refine codeAny_builtin mR ?_;rw[Around.under_plainId e7 _];refine NN (jP (hp _ _ I) (Cl lit h2 (NN (bm_if_false rfl (vu h ?_)))));by_cases Po:p<x.cps.size
  ·rw[N1 Po] at OV Rl hQ;show wpAny S.M A.in1 (if p<x.cps.size then _ else _) _ _ _;rw[N1 Po];refine NN (mI hx ?_);have PG:=I.kp QO (s':={s with toks:=s.toks+1}) ⟨Kp0.toks,Nat.succ_pos _⟩;refine NN (pJ PG QO (by rw[NP] at OV;exact a8 OV) λs' I'=>?_);exact wA I' QO hx Rl (by simpa using hQ)
  ·rw[NY Po] at OV Rl hQ;show wpAny S.M A.in1 (if p<x.cps.size then _ else _) _ _ _;rw[NY Po];rw[N6] at Rl hQ;exact wA I QO hx Rl (by simpa using hQ)
 |@hit p st hd k ms lm li r ts h hg h1 hr hn ih=>
  intro pre n s Q I OV Rl hQ;refine codeAny_builtin mR ?_;rw[Around.under_plainId e7 _];refine NN (jP (hp _ _ I) (Cl lit h2 (NN (bm_if_false rfl (rU h λm F=>?_)))));have go:∀(s':Shared)(O7:List Str),LI S gh LP O5 L O7 s'→(O7++r::ts).length≤1000→JoinOk ⟨#[]⟩ (O7++r::ts)=true→(∀v s',Kp0 S gh O5 s'→0<s'.toks→abb gh s'.heap (match wc with | true=>.tup [.str (Txt.join ⟨#[]⟩ (O7++r::ts)),.int (n+(k+1:Nat))] | false=>.str (Txt.join ⟨#[]⟩ (O7++r::ts))) v→Q v s') →
    ∀u,wpAny S.M A.in1 (if((.str r u:Value) !=Value.none)=true then(updateSeq L (·.push (.str r u))>>=λ_=>again (.builtin "re.Pattern.sub.loop" ⟨[.ref a,.str x t,abm,rawInt way,rawInt 0,rawInt (n+1),rawInt m.handed,rawInt m.handed,.bool (m.handed==m.start),.ref L,.bool wc],[]⟩)) else again (.builtin "re.Pattern.sub.loop" ⟨[.ref a,.str x t,abm,rawInt way,rawInt 0,rawInt (n+1),rawInt m.handed,rawInt m.handed,.bool (m.handed==m.start),.ref L,.bool wc],[]⟩))
     (vB S.w S.prog A (wants Q E)) (λe s'=>wants Q E (.error e) s') s':=λs' O7 I' hl hj Sb u=>by
   refine bm_if_true rfl (NN (pJ I' QO (by rw[NP] at hl;exact a8 hl) λOR PG=>NQ ⟨plainId_quiet e7 _,?_⟩));rw[F.hd,F.st,show(hd==st)=false from OG (aw h1)];refine ih PG (by simpa using hl) (by simpa using hj) λv OX O3 XI Pf=>Sb v OX O3 XI ?_;rw[show O7++r::ts=O7++[r]++ts by simp,show n+((k+1:Nat):Int)=n+1+k by lia];exact Pf
  have YE:∀(s':Shared)(O7:List Str),LI S gh LP O5 L O7 s'→(O7++r::ts).length≤1000→JoinOk ⟨#[]⟩ (O7++r::ts)=true→(∀v s',Kp0 S gh O5 s'→0<s'.toks→abb gh s'.heap (match wc with | true=>.tup [.str (Txt.join ⟨#[]⟩ (O7++r::ts)),.int (n+(k+1:Nat))] | false=>.str (Txt.join ⟨#[]⟩ (O7++r::ts))) v→Q v s') →
    wpAny S.M A.in1 (let jp:=λitem=>if(item !=Value.none)=true then(updateSeq L (·.push item)>>=λ_=>again (.builtin "re.Pattern.sub.loop" ⟨[.ref a,.str x t,abm,rawInt way,rawInt 0,rawInt (n+1),rawInt m.handed,rawInt m.handed,.bool (m.handed==m.start),.ref L,.bool wc],[]⟩)) else again (.builtin "re.Pattern.sub.loop" ⟨[.ref a,.str x t,abm,rawInt way,rawInt 0,rawInt (n+1),rawInt m.handed,rawInt m.handed,.bool (m.handed==m.start),.ref L,.bool wc],[]⟩)
     if(way==0)=true then pure abm>>=jp else reNewMatch (.ref a) (.str x t) g 0 x.cps.size m>>=λP7=>holding [P7] (if(way==1)=true then call abm [P7] else do reExpand abm (← reFound P7))>>=jp)
     (vB S.w S.prog A (wants Q E)) (λe s'=>wants Q E (.error e) s') s':=λs' O7 I' hl hj Sb=>by
   rcases h2 with h0 | h0
   ·refine aP (lit h0) λr' u e1 e2=>?_;obtain rfl:=e2 _ _ _ _ hr;subst h0 e1;exact bm_if_true rfl (NN (NQ (go s' O7 I' hl hj Sb u)))
   ·refine bm_if_false (by rw[h0];rfl) (NN (lh F hg (NN ?_)));have T':(gh.wth L).abh s'.heap:=I'.w.T;exact item h0 _ O7 _ st hd ms r _ hr (I'.kp QO ⟨Kp0.abu.trans Kp0.abu,I'.w.tp⟩) (wE T') λu OR PG=>go OR O7 PG hl hj Sb u
  by_cases Po:p<st
  ·rw[N1 Po] at OV Rl hQ;show wpAny S.M A.in1 (if p<m.start then _ else _) _ _ _;rw[N1 (F.st▸Po)];refine NN (mI hx ?_);have PG:=I.kp QO (s':={s with toks:=s.toks+1}) ⟨Kp0.toks,Nat.succ_pos _⟩;refine NN (pJ PG QO (by rw[NP] at OV;exact a8 OV) λs' I'=>?_);rw[F.st] at I';rw[← Oi] at OV Rl hQ;exact YE s' _ I' OV Rl hQ
  ·rw[NY Po,List.nil_append] at OV Rl hQ;show wpAny S.M A.in1 (if p<m.start then _ else _) _ _ _;rw[NY (F.st▸Po)];exact YE s _ I OV Rl hQ
end
end
section
open Builtin.Re
open Rx
def BX(x:Str)(t:Tok):isInstance (.str x t) (.type "bytearray")=pure false:=by
 unfold isInstance;show isSubtype (.type "str") (.type "bytearray")=_;rw[isSubtype_type];kernel_rfl
def yU(id:String)(x:Str)(t:Tok):reNotHeld id (.str x t)=pure ():=by
 unfold reNotHeld;rw[BX];rfl
def z9:typeLookup (.type "function") "__call__"=pure (some (.builtin "function.__call__")):=by rw[Ox,Of];kernel_rfl
def y0:typeLookup (.type "str") "__call__"=pure none:=by rw[Ox,Of];kernel_rfl
def Ae(u v a:Value):argsOk "re.Pattern.sub" ⟨[a,u,v],[]⟩:=by unfold argsOk;kernel_rfl
def xT(u v a:Value):argsOk "re.Pattern.subn" ⟨[a,u,v],[]⟩:=by unfold argsOk;kernel_rfl
def Ig(u v:Value):reNamed "re.Pattern.sub" "sub" ["repl","string","count"] 2 [u,v] []=pure [some u,some v,none]:=kR
def EG(u v:Value):reNamed "re.Pattern.subn" "subn" ["repl","string","count"] 2 [u,v] []=pure [some u,some v,none]:=kR
section
variable{A:Around}{C:Array Nat}{g:Nat}{t:Tok}{k:Nat}
def si(w:Wl S gh s)(lp:∀g' h',aC gh g' s.heap h'→LP g' h'):LI S gh LP s s.heap.objs.size [] {s with heap:=s.heap.push (cE [] 0)}:=by
 have ov:aC gh (gh.wth s.heap.objs.size) s.heap (s.heap.push (cE [] 0)):=⟨λb o z e=>⟨λq=>q.elim z λq=>c8 ⟨o,e⟩ (q▸be _),NS _ e⟩,λ_ _ e=>e⟩;have nt:¬S.T s.heap.objs.size:=λ⟨t,m,e⟩=>by
  refine ay (w.I t m) λps h _=>?_;rw[e,be] at h;cases h
 refine⟨Kp0.abu,⟨λb z=>z.elim (λz=>(w.T b z).imp λo e=>NS _ e) λq=>⟨_,q▸NZ _ rfl⟩,w.W.over ov,λt m=>(w.I t m).over ov.obj λo e=>NS _ e,w.tp,λb t=>⟨.inl (w.tz b t).1,(w.tz b t).2⟩⟩,lp _ _ ov,fw [] 0 (NZ _ rfl) rfl,be _,nt,?_⟩;cases e:S.base.get? s.heap.objs.size with
 |none=>rfl
 |some o=>exact absurd (w.W _ o nt e).1 (by rw[be];nofun)
structure gK(S:Cx)(a:Addr)(C:Array Nat)(g:Nat):Prop where
 p:gN S.base a C g
 nt:∀b cl d,S.base.get? b=some {cls:=.type cl,data:=d}→¬S.T b
def gK.at(p:gK S a C g)(w:Wl S gh s):gN s.heap a C g:=p.p.keeps λb cl d e=>(w.W b _ (p.nt b cl d e) e).1
def oX{id f:String}{abm:Value}{F:Fin→Shared→Prop}{M:Model}(w:Wl S gh s)(p:gK S a C g)(hn:reNamed id f ["repl","string","count"] 2 [abm,.str x t] []=pure [some abm,some (.str x t),none])(hw:(way=1∧s.TypeIs abm "function")∨(way=0∧∃r u,abm=.str r u∧r.cps.contains 92=false))(h:F (.again (.builtin "re.Pattern.sub.loop" ⟨[.ref a,.str x t,abm,rawInt way,rawInt 0,rawInt 0,rawInt 0,rawInt 0,.bool false,.ref s.heap.objs.size,.bool wc],[]⟩)) {s with heap:=s.heap.push (cE [] 0)}):
  wpAny M B (reSubstitute id f wc ⟨[.ref a,abm,.str x t],[]⟩) F E' s:=by
 unfold reSubstitute;refine NN (Oo hn (NN (NQ (NN ?_))));rcases hw with ⟨rfl,hT⟩ | ⟨rfl,r,u,rfl,hr⟩
 ·exact wpAny_specialOf hT z9 (bm_if_true rfl (NN (NQ (bm_if_true rfl (NN (NQ (NN (Om (jP (p.at w) (bm_if_true rfl (NN (Oo (yU _ x t) (NN (wpAny_newList (NQ h) (Oc _)))))))))))))))
 ·refine wpAny_specialOf (typeIs_str _ _ _) y0 (bm_if_false rfl (NN (NQ (NN (NQ ?_)))));rw[hr];exact bm_if_false rfl (bm_if_true rfl (NN (NQ (NN (Om (jP (p.at w) (bm_if_false rfl (NN (wpAny_newList (NQ h) (Oc _))))))))))
def zE(w:Wl S gh s)(p:gK S a C g)(hx:x.length≤1000000)(hf:s.TypeIs f "function")(lp:∀g' h',aC gh g' s.heap h'→LP g' h')(QO:∀g' h h',LP g' h→aC g' g' h h'→LP g' h')(hcall:∀(g':Gh)(s':Shared)(v:Value)(st hd:Nat)(ms:Array (Option Nat))(r:Str)(P:Value→Shared→Prop),rep st hd ms r→Wl S g' s'→LP g' s'.heap→abb g' s'.heap (.mat x ((st:Int)::(hd:Int)::spans ms)) v→(∀u OR,Kp S g' s' OR→P (.str r u) OR)→wpAny S.M A.in1 (call f [v]) P E s')(hH:hU C g x rep 0 ts k)(hl:ts.length≤1000)(hj:JoinOk ⟨#[]⟩ ts=true)(hQ:∀v s',Kp S gh s s'→abb gh s'.heap (.str (Txt.join ⟨#[]⟩ ts)) v→Q v s'):wpAny S.M A (call (.builtin "re.Pattern.sub") [.ref a,f,.str x t]) Q E s:=by
 refine wpAny_call (codeAny_call_builtin mi.plain entry_sub (mi.check _ _ _ _ _ _ _ _ (p.at w).typeIs (Ae _ _ _) ?_));unfold Builtin.«re.Pattern.sub»;refine oX (way:=1) w p (Ig _ _) (.inl ⟨rfl,hf⟩) ⟨plainId_quiet e7 _,r7 (way:=1) (wc:=false) (QO _) (λs pre I=>p.at I.w) hx (λ_ s' pre v st hd ms r P hr I rv hP=>Om (bm_if_true rfl (hcall _ s' v st hd ms r P hr I.w I.lp rv λu OR OU=>hP u OR (I.kp (QO _) OU)))) (λh=>absurd h kD) (.inr rfl) hH (si w lp) hl hj λv s' k tp r=>hQ v s' ⟨k,tp⟩ r⟩
theorem x9{u:Tok}(w:Wl S gh s)(p:gK S a C g)(hx:x.length≤1000000)(hH:hU C g x (λ_ _ _ r=>r=⟨#[]⟩) 0 ts k)(hl:ts.length≤1000)(hj:JoinOk ⟨#[]⟩ ts=true)(hQ:∀v s',Kp S gh s s'→abb gh s'.heap (.tup [.str (Txt.join ⟨#[]⟩ ts),.int k]) v→Q v s'):wpAny S.M A (call (.builtin "re.Pattern.subn") [.ref a,.str ⟨#[]⟩ u,.str x t]) Q E s:=by
 refine wpAny_call (codeAny_call_builtin ku.plain uu (ku.check _ _ _ _ _ _ _ _ (p.at w).typeIs (xT _ _ _) ?_));unfold Builtin.«re.Pattern.subn»;refine oX (way:=0) w p (EG _ _) (.inr ⟨rfl,_,_,rfl,by simp⟩) ⟨plainId_quiet e7 _,r7 (LP:=λ_ _=>True) (way:=0) (wc:=true) (λ_ _ _ _=>trivial) (λs pre I=>p.at I.w) hx (λh=>absurd h kD) (λ_=>fw _ _ rfl (λ_ _ _ _ h=>h)) (.inl rfl) hH (si w λ_ _ _=>trivial) hl hj λv s' k tp r=>hQ v s' ⟨k,tp⟩ (by simpa using r)⟩
end
end
section
open Builtin.Re
open Rx
structure Lm where
 params:Arguments
 scope:Scope
 pos:Pos
 me:ME
noncomputable def Lm.T:List Str:=["_m"]
abbrev Lm.body(l:Lm):Expr:=aX Lm.T l.me
abbrev Lm.fd(l:Lm)(q:Str)(pm:Value)(c:Addr)(QN:Value):FuncData:=kla_fn "<lambda>" q l.params l.body l.scope [] pm (.ref c) QN
structure uX(S:Cx)(l:Lm)(lam:Expr)(cd:Addr×Str)(t:Tb):Prop where
 lam:lam=.Lambda l.params l.body l.scope l.pos
 mem:t∈S.tabs
 acL:∀u∈S.tabs,u.P=t.P→u=t
 c:t.c=cd.1
 pos:t.pos=l.pos
 qual:t.qual=cd.2++"<lambda>"
 hd:CodeHd S.base t.c t.P
 ntc:¬S.T t.c
 dflt:∀env,defaultsOf l.params env=([],[])
 act:∀env,closureFor l.scope env=pure []
 bind:∀q pm c QN v,bindArgs (l.fd q pm c QN) ⟨[v],[]⟩=pure [(("_m":Str),v)]
 base:∀(P:Pk) q pm c QN,P.T=Lm.T→FnBase P (l.fd q pm c QN) none 1
 ok:cZ Lm.T l.me l.scope.names none=true
def f6(l:Lm)(t:Tb)(g:Gh)(h:Heap)(f:Value):Prop:=∃a c pm QN oc vs u,f=.ref a∧¬g.Z a∧h.get? a=some {cls:=.type "function",data:=.func (l.fd t.qual pm c QN)}∧¬g.Z c∧h.get? c=some oc∧oc.data=.fields vs∧vs[1]?=some (.str t.qual u)
def f6.over{l:Lm}{t:Tb}(x:f6 l t g h f)(o:aC g g' h h'):f6 l t g' h' f:=
 Exists.imp (λ_=>.imp λ_=>.imp λ_=>.imp λ_=>.imp λ_=>.imp λ_=>.imp λ_ q=>bY q.1 ((o.obj _ _ q.2.1 q.2.2.1).1) ((o.obj _ _ q.2.1 q.2.2.1).2) ((o.obj _ _ q.2.2.2.1 q.2.2.2.2.1).1) ⟨((o.obj _ _ q.2.2.2.1 q.2.2.2.2.1).2),q.2.2.2.2.2⟩) x
section
variable{l:Lm}{cd:Addr×Str}{t:Tb}
def vU(K:uX S l lam cd t)(w:Wl S g s):CodeHd s.heap t.c t.P:=by
 exact bh K.hd λo vs WG tf QV=>bh QV λU8 tg inF text R3=>ay R3 λtt h q=>aG o vs (aG WG tf (aG U8 tg (aG inF text (ak tt ((w.W _ o K.ntc h).1) q))))
def zM(L:Laid S)(K:uX S l lam cd t)(w:Wl S g s):s.heap.BuiltinsAt (nsFind (nC S.w)) t.P∧mainGlobals≠t.P:=by
 refine cA L.bm λbm ob b1 b2 R5=>bD R5 λb3 b4 b5 b6=>?_;have tab:∀u∈S.tabs,S.base.get? u.P=some (tabObj #[]):=λu m=>by
  rw[L.tabs] at m;rcases NU.mp m with rfl | m
  ·exact L.t1
  ·rcases NU.mp m with rfl | m
   ·exact L.t2
   ·cases m
 have nt:¬S.T bm:=λ⟨u,m,e⟩=>by
  have:=tab u m;rw[e,b3] at this;cases this;cases b6
 refine⟨aJ bm ob b1 b2 (λq=>?_) (λq=>nt (q▸(ak t K.mem rfl))) (aS ((w.W _ _ nt b3).1) b4 b5 b6),λq=>?_⟩
 ·have:=L.at (rO S.w);rw[← q,b3] at this;cases this;cases b6
 ·have:=L.at (rO S.w);rw[q,tab t K.mem] at this;cases this
def DV(L:Laid S)(K:uX S l lam cd t)(i:In n X)(Q0:X.cd=some cd)(w:Wl S X.g s)(hQ:∀f s',Kp S X.g s s'→f6 l t X.g s'.heap f→Q f s'):wpAny S.M X.A (eval lam X.env) Q E s:=by
 refine aU (i.code _ Q0) λhc hq=>aU (zM L K w) λhb ZX=>?_;have hg:s.heap.Ns mainGlobals (nsFind (nC S.w)):=fh L.ns λo e=>(w.W _ o (L.abe rfl) e).1;refine c9 (w.I t K.mem) λps hP ht hor=>?_;have zP:∀b,¬X.g.Z b→b≠t.P:=λb z q=>z (q▸(w.tz _ (ak t K.mem rfl)).1);have fresh:∀b,s.heap.objs.size≤b→¬X.g.Z b:=λb hb z=>c8 (w.T b z) (Heap.get?_none_of_le hb);have VG:X.env.qual++"<lambda>"=t.qual:=by rw[hq,K.qual]
 rw[K.lam];refine kla_eval (K.dflt _) ?_;rw[VG];rcases hor with hnf | ⟨c',oc,vs,u,hf,zc,US,hd,hv⟩
 ·refine aW w.tp (kla_makeFunction (K.act _) i.globals hg (by rw[hc,K.c.symm]) (vU K w) hP ht (K.pos▸hnf) ZX hb λc' QN h' tk hx WV Po Xg htb tp=>bl Xg λZu oc vs u e2 R6=>bV R6 λUS hd hv=>?_);cases e2;have keep:∀b o,b≠t.P→s.heap.get? b=some o→(h'.push (kla_obj "<lambda>" t.qual l.params l.body l.scope [] ((nsFind (nC S.w) "__name__").getD .none) c' QN)).get? b=some o:=λb o hb e=>NS _ (hx b o hb e);have YI:=NS (kla_obj "<lambda>" t.qual l.params l.body l.scope [] ((nsFind (nC S.w) "__name__").getD .none) c' QN) htb;refine hQ _ _ ⟨⟨aG _ tk rfl,λb o nt e=>keep b o (λq=>nt (q▸(ak t K.mem rfl))) e,λb e=>?_,λI u hu=>?_⟩,tp⟩ (aG _ c' (aG _ QN (aH oc vs u rfl (fresh _ (Nat.le_of_lt (Nat.lt_of_le_of_lt WV Po))) (NZ _ rfl) (aS (fresh _ WV) (NS _ US) hd hv))))
  ·by_cases q:b=t.P
   ·exact⟨_,q▸YI⟩
   ·exact e.imp λo=>keep b o q
  ·by_cases q:u.P=t.P
   ·obtain rfl:=K.acL u hu q;refine aV _ YI ?_ (.inr (aG c' oc (aJ vs _ ?_ (fresh _ WV) (NS _ US) hd hv)))
    ·rw[OO];exact TriplesOk_snoc _ _ _ _ ht
    ·rw[OO,K.pos.symm];exact codeAmong_snoc _ ht hnf
   ·exact(I u hu).over (λb o z e=>⟨z,keep b o (zP b z) e⟩) λo e=>keep _ o q e
 ·refine aW w.tp (kla_makeFunctionHit (K.act _) i.globals hg (by rw[hc,K.c.symm]) (vU K w) hP ht (K.pos▸hf) hb λQN h' tk hk QQ tp=>?_);have keep:∀b o,s.heap.get? b=some o→(h'.push {cls:=.type "function",data:=.func (l.fd t.qual ((nsFind (nC S.w) "__name__").getD .none) c' QN)}).get? b=some o:=λb o e=>NS _ (hk b o e);exact hQ _ _ ⟨Kp0.of keep,tp⟩ (aG _ c' (aG _ QN (aH oc vs u rfl (fresh _ QQ) (NZ _ rfl) (aS zc (keep _ _ US) hd hv))))
def Dx(L:Laid S)(K:uX S l lam cd t)(hC:ah S n .none){A:Around}{g:Gh}{v:Value}{r:Str}(room:fF A (n+1))(w:Wl S g s)(x:f6 l t g s.heap f)(rv:abb g s.heap d v)(hn:dW d=true)(he:pe .none [] l.me (λi=>[d][i]?) (·=.str r))(hQ:∀u s',Kp S g s s'→Q (.str r u) s'):wpAny S.M A (call f [v]) Q E s:=by
 refine bh x λa c pm QN TB=>a5 TB λoc vs u Qh UO=>?_;obtain rfl:=Qh;refine dO UO λza ha zc US Q7=>aU Q7 λhd hv=>?_;have F:=K.base ⟨S,.none,n,Lm.T⟩ t.qual pm c QN rfl;refine gY ?_;replace room:fF {A with frames:=none} (n+1):=⟨room.handled,room.depth,room.units⟩;refine wpAny_call (kla_callFunE (Nat.lt_of_le_of_lt (Nat.le_add_right _ _) room.depth) ha rfl F.co F.gen rfl (aG c oc (bL vs u rfl US hd hv)) (Oo (K.bind _ _ _ _ _) (aW w.tp (wpAny_newFunctionEnv_cells F.kind (λy hy=>?_) λenv WS OP ic QB=>?_))))
 ·have:=mQ F y.1 (by rw[NX.mp hy];exact NX.mpr rfl);exact this.imp id λq=>⟨q,c7 q⟩
 subst WS;have P4:s.heap.NoLimit:=L.nolimit.imp λmc q=>⟨fh q.1 λo e=>(w.W _ o (L.abe rfl) e).1,q.2⟩;refine⟨P4.keeps ic.toInCall.keep,kla_codeExpr ?_⟩;have rs:aD g.bare s.heap [d] [v]:=il (g:=g) (g':=g.bare) (λ_ _ z e=>⟨z,e⟩) (aD.one rv) (Oq.mpr ⟨hn,rfl⟩);have O:=j3 (P:=⟨S,.none,n,Lm.T⟩) (H:=[]) (ds:=[d]) (A:={A with frames:=none}) (us:=[v]) F w.bare .bare rfl (Oe 1) rs ⟨nofun,λ_=>rfl⟩ QB ic;refine(aR (P:=⟨S,.none,n,Lm.T⟩) F.nodup hC l.me).1 (gk g.bare [] (l.fd t.qual pm c QN) none s.heap.objs.size a [d] {A with frames:=none}) OP _ _ _ (vX F room) K.ok O.toAt he λv' s' d' e k r'=>?_;subst e;refine a9 r' λu' Pm=>?_;obtain rfl:=Pm;exact hQ u' s' ((fS ic (Ev.kp k)).kp (O.toAt.k k).wl)
end
end
section
open Builtin.Re
open Rx
def xG:PlainAttrs "re.Pattern":=⟨ak ("object.__getattribute__") (by rw[Ox,Of];kernel_rfl) kE,by rw[Ox,Of];kernel_rfl⟩
def ij:typeOf (.builtin "re.Pattern.search")=pure (.type "method_descriptor"):=by show builtinType _=_;rw[builtinType_eq_fast];kernel_rfl
def uj:typeOf (.builtin "re.Pattern.fullmatch")=pure (.type "method_descriptor"):=by show builtinType _=_;rw[builtinType_eq_fast];kernel_rfl
def zK:typeOf (.builtin "re.Pattern.sub")=pure (.type "method_descriptor"):=by show builtinType _=_;rw[builtinType_eq_fast];kernel_rfl
def yu:typeOf (.builtin "re.Pattern.subn")=pure (.type "method_descriptor"):=by show builtinType _=_;rw[builtinType_eq_fast];kernel_rfl
def Dd(w:World)(a:Addr):Array Value:=match(KX w).lookup a with
 |some ⟨_,_,.fields vs,_⟩=>vs
 |_=>#[]
def LO(w:World)(a:Addr):Array Value:=match(KX w).lookup a with
 |some ⟨_,_,.seq vs _,_⟩=>vs
 |_=>#[]
def M7(w:World)(a:Addr):Nat:=match(KX w).lookup a with
 |some ⟨_,_,.seq _ n,_⟩=>n
 |_=>0
section
def gK.of(L:Laid S){T:Addr}{C:Array Nat}{g:Nat}(h1:(KX S.w).lookup a=some {cls:=.type "re.Pattern",data:=.fields (Dd S.w a)})(h2:(Dd S.w a).getD 5 .none=.ref T)(h3:reRawNat ((Dd S.w a).getD 2 .none)=g)(h4:reRawNat ((Dd S.w a).getD 6 .none)=0)(h5:(KX S.w).lookup T=some {cls:=.type "tuple",data:=.seq (LO S.w T) (M7 S.w T)})(h6:((LO S.w T).map reRawOf).map (·.toNat)=C):gK S a C g:=by
 refine⟨⟨_,T,_,_,L.at h1,h2,h3,h4,L.at h5,h6⟩,λb cl d e=>?_⟩;rintro⟨t,m,rfl⟩;rw[L.tabs] at m;rcases NU.mp m with rfl | m
 ·have:=L.t1;rw[show(72:Nat)=gM.P from rfl,e] at this;cases this
 ·rcases NU.mp m with rfl | m
  ·have:=L.t2;rw[show(89:Nat)=eL.P from rfl,e] at this;cases this
  ·cases m
def sW(L:Laid S):gK S 43 fu 0:=.of (T:=42) L kR kR kR kR kR kR
def we(L:Laid S):gK S 55 eU 1:=.of (T:=54) L kR kR kR kR kR kR
def wF(L:Laid S):gK S 60 bA 1:=.of (T:=59) L kR kR kR kR kR kR
def wg(L:Laid S):gK S 65 eG 1:=.of (T:=64) L kR kR kR kR kR kR
def EN(L:Laid S):gK S 70 gT 1:=.of (T:=69) L kR kR kR kR kR kR
def BM(L:Laid S):gK S 82 uK 0:=.of (T:=81) L kR kR kR kR kR kR
def HH(L:Laid S):gK S 87 lR 1:=.of (T:=86) L kR kR kR kR kR kR
def fY{C:Array Nat}{g:Nat}{m:Str}{id:String}(p:gK S a C g)(sl:Slot "re.Pattern" m id)(ty:typeOf (.builtin id)=pure (.type "method_descriptor")):wP S (.ref a) m id:=λA gh s pl P E w h=>by
 refine bl p.p.at_ λfs T ws n h1 _=>?_;have h1:=(w a _ (p.nt _ _ _ h1) h1).1;exact getMethod_builtin (ak _ h1 rfl) xG sl ty (λa' e=>by cases e;exact ak _ h1 rfl) h
end
def L9:Lm:=⟨(match ll with | .Lambda a _ _ _=>a | _=>default),(match ll with | .Lambda _ _ s _=>s | _=>default),(U 29 49 84),
 .bin .add (.c (.str "") 0 (U 29 60 62)) (.or (.mth .group (.v 0 (U 29 66 68)) (U 29 66 74) (.cons (.c (.int 1) 0 (U 29 75 76)) .nil) (U 29 66 77)) (.c (.str "") 0 (U 29 81 83)) (U 29 66 83)) (U 29 60 84)⟩
def Mg:Lm:=⟨(match g5 with | .Lambda a _ _ _=>a | _=>default),(match g5 with | .Lambda _ _ s _=>s | _=>default),(U 60 50 87),
 .bin .add (.c (.str "\\") 0 (U 60 61 65)) (.or (.mth .group (.v 0 (U 60 69 71)) (U 60 69 77) (.cons (.c (.int 1) 0 (U 60 78 79)) .nil) (U 60 69 80)) (.c (.str "") 0 (U 60 84 86)) (U 60 69 86)) (U 60 61 87)⟩
section
def pq(L:Laid S){Q:Tb→Prop}(h1:Q gM)(h2:Q eL):∀u∈S.tabs,Q u:=λu m=>by
 rw[L.tabs] at m;rcases NU.mp m with rfl | m
 ·exact h1
 ·rcases NU.mp m with rfl | m
  ·exact h2
  ·cases m
def Mo(L:Laid S):uX S L9 ll yK gM where
 lam:=kR
 mem:=by rw[L.tabs];exact N3
 acL:=pq L (λ_=>rfl) λh=>absurd h kD
 c:=rfl
 pos:=kR
 qual:=kR
 hd:=codeHd_of_K L.K kR
 ntc:=L.abe rfl
 dflt _:=kR
 act _:=kR
 bind _ _ _ _ _:=kR
 base P q pm c QN h:=⟨rfl,rfl,rfl,kR,kR,kR,by rw[h];decide,kR,nofun,by rw[h];kernel_rfl⟩
 ok:=kR
def K9(L:Laid S):uX S Mg g5 oR eL where
 lam:=kR
 mem:=by rw[L.tabs];exact Oa _ N3
 acL:=pq L (λh=>absurd h kD) λ_=>rfl
 c:=rfl
 pos:=kR
 qual:=kR
 hd:=codeHd_of_K L.K kR
 ntc:=L.abe rfl
 dflt _:=kR
 act _:=kR
 bind _ _ _ _ _:=kR
 base P q pm c QN h:=⟨rfl,rfl,rfl,kR,kR,kR,by rw[h];decide,kR,nofun,by rw[h];kernel_rfl⟩
 ok:=kR
end
end
section
open Builtin.Re
open Rx
noncomputable def cu.rx(C:cu)(x m:Str)(R:List PV→PV→Prop):cu:=
 {C with xa:=λy k=>(y==x&&k==m)||C.xa y k,x:=λy k ds d=>((y=x∧k=m)∧R ds d)∨(¬(y=x∧k=m)∧C.x y k ds d)}
noncomputable def cu.sb(C:cu)(x:Str)(lam:Expr)(cd:Addr×Str)(R:PV→PV→Prop):cu:=
 {C with sa:=λy l c=>(y=x∧l=lam∧c=cd)∨C.sa y l c,s:=λy l c u d=>((y=x∧l=lam∧c=cd)∧R u d)∨(¬(y=x∧l=lam∧c=cd)∧C.s y l c u d)}
section
variable{m:Str}{R:List PV→PV→Prop}
theorem ah.rx{v:Value}{id:String}(h:ah S n C)(hg:bC S x v)(hm:wP S v m id)(hR:∀ds d,R ds d→Gives S n (.builtin id) [v] [] ds d):ah S n (C.rx x m R):=
 {h with
  x:=λy k hy=>by
   by_cases e:y=x∧k=m
   ·exact⟨v,id,e.1▸hg,e.2▸hm,λds d q=>hR ds d (q.elim (λq=>q.2) λq=>(q.1 e).elim)⟩
   ·exact(h.x y k ((On.mp hy).resolve_left λq=>e ((Oq.mp q).imp Ol.mp Ol.mp))).imp λv=>.imp λid c=>{c with f:=λds d q=>c.f ds d (q.resolve_left λq=>e q.1).2}}
def qK(go:Array Nat→Nat→Sre.M)(g:Nat)(ds:List PV)(d:PV):Prop:=∃x:Str,ds=[.str x]∧x.length≤1000000∧m6 x (go x.cps x.cps.size) g d
def gi{P:Array Nat}{g:Nat}(p:gK S a P g)(ds:List PV)(d:PV)(h:qK (λT L=>Sre.forSearch P T g 0 L false) g ds d):Gives S n (.builtin "re.Pattern.search") [.ref a] [] ds d:=by
 refine ay h λx O8 Qe=>?_;obtain rfl:=O8;refine aU Qe λhx h=>λA gh s vs Q E room w rs hQ=>aP rs λv _ PA QW=>?_;obtain rfl:=PA;refine aU QW λV0 P2=>?_;obtain⟨t,rfl⟩:=V0;obtain rfl:=P2;exact aW w.tp (sO (p.at w) (NT hx kD) w.T h λv s' k r tp=>hQ v s' ⟨k,tp⟩ r)
def rK{P:Array Nat}{g:Nat}(p:gK S a P g)(ds:List PV)(d:PV)(h:qK (λT L=>Sre.forMatch P T g 0 L true false) g ds d):Gives S n (.builtin "re.Pattern.fullmatch") [.ref a] [] ds d:=by
 refine ay h λx Qh UP=>?_;obtain rfl:=Qh;refine aU UP λhx h=>λA gh s vs Q E room w rs hQ=>aP rs λv _ Pm VY=>?_;obtain rfl:=Pm;refine aU VY λUQ Qm=>?_;obtain⟨t,rfl⟩:=UQ;obtain rfl:=Qm;exact aW w.tp (tM (p.at w) (NT hx kD) w.T h λv s' k r tp=>hQ v s' ⟨k,tp⟩ r)
def z3(P:Array Nat)(g:Nat)(ds:List PV)(d:PV):Prop:=∃(x:Str)(ts:List Str)(k:Nat),ds=[.str ⟨#[]⟩,.str x]∧x.length≤1000000∧hU P g x (λ_ _ _ r=>r=⟨#[]⟩) 0 ts k∧ts.length≤1000∧JoinOk ⟨#[]⟩ ts=true∧d=.tup [.str (Txt.join ⟨#[]⟩ ts),.int k]
def uL{P:Array Nat}{g:Nat}(p:gK S a P g)(ds:List PV)(d:PV)(h:z3 P g ds d):Gives S n (.builtin "re.Pattern.subn") [.ref a] [] ds d:=by
 refine a5 h λx ts k QF UL=>?_;obtain rfl:=QF;refine dO UL λhx hH hl hj Rw=>?_;obtain rfl:=Rw;refine λA gh s vs Q E room w rs hQ=>aP rs λ_ _ QG RE=>?_;obtain rfl:=QG;refine aU RE λYs X2=>?_;obtain⟨u,rfl⟩:=Ys;refine aP X2 λv _ Rz S8=>?_;obtain rfl:=Rz;refine aU S8 λYt Uz=>?_;obtain⟨t,rfl⟩:=Yt;obtain rfl:=Uz;exact x9 w p hx hH hl hj hQ
def tZ(pre x:Str)(st hd:Nat)(ms:Array (Option Nat))(r:Str):Prop:=∃b e:Nat,ms=#[some b,some e]∧r=pre++⟨x.cps.extract b e⟩
def EF(P:Array Nat)(pre:Str)(y d:PV):Prop:=∃(x:Str)(ts:List Str)(k:Nat),y=.str x∧x.length≤10000∧hU P 1 x (tZ pre x) 0 ts k∧ts.length≤1000∧JoinOk ⟨#[]⟩ ts=true∧d=.str (Txt.join ⟨#[]⟩ ts)
def iR(l:Lm)(pre:Str):Prop:=∀(x:Str)(st hd:Nat)(b e:Nat),x.length≤10000→pe .none [] l.me (λi=>[PV.mat x ((st:Int)::(hd:Int)::[(b:Int),(e:Int)])][i]?) (·=.str (pre++⟨x.cps.extract b e⟩))
theorem sP{pre:Str}{k1 k2 k3:Nat}{p1 p2 p3 p4 p5 p6 p7 p8:Pos}(hp:pre.length≤10):iR ⟨default,default,default,.bin .add (.c (.str pre) k1 p1) (.or (.mth .group (.v 0 p2) p3 (.cons (.c (.int 1) k2 p4) .nil) p5) (.c (.str ⟨#[]⟩) k3 p6) p7) p8⟩ pre:=by
 intro x st hd b e hx;have hl:(⟨x.cps.extract b e⟩:Str).length≤x.length:=by show(x.cps.extract b e).size≤x.cps.size;rw[Array.size_extract];exact bu (Nat.sub_le (min e x.cps.size) b) (Nat.min_le_right e x.cps.size)
 have hg:pK [] .group (.mat x ((st:Int)::(hd:Int)::[(b:Int),(e:Int)])) [.int 1]=some (.str ⟨x.cps.extract b e⟩):=by
  have hf:aE x.length=true:=au (az hx);show(if(true&&(true&&aE x.length))=true then _ else _)=_;rw[hf];show some (c6 x ((st:Int)::(hd:Int)::[(b:Int),(e:Int)]) 1)=_;unfold c6;rw[NY]
  ·rfl
  ·show ¬((decide ((b:Int)<0)||decide ((e:Int)<0))=true);rw[Os (by lia),Os (by lia)];decide
 have hm:∀{q:Pos},Ev1 .none [] (.mth .group (.v 0 p2) p3 (.cons (.c (.int 1) k2 p4) .nil) q) (λi=>[PV.mat x ((st:Int)::(hd:Int)::[(b:Int),(e:Int)])][i]?) (.str ⟨x.cps.extract b e⟩):=λ{q}=>
  Ev1.mth Ev1.v rfl (.cons Ev1.c .nil) hg
 have hb:∀{y:Str},y.length≤10000→∀Kv:PV→Prop,Kv (.str (pre++y))→fo .add (.str pre) (.str y) Kv:=λ{y} hy Kv k=>bE (au (bu hy hp)) k;by_cases q:x.cps.extract b e=#[]
 ·have ht:bB [] (.str ⟨x.cps.extract b e⟩)=some false:=by rw[q];rfl
  refine(Ev1.bin Ev1.c (Ev1.orF hm ht Ev1.c) (hb (y:=⟨#[]⟩) (Oc _))).run _ ?_;rw[q]
 ·have ht:bB [] (.str ⟨x.cps.extract b e⟩)=some true:=by
   rw[Ab (au (bu hl hx))];congr 1;exact bne_iff_ne.mpr λh=>q (Array.eq_empty_of_size_eq_zero h)
  exact(Ev1.bin Ev1.c (Ev1.orT hm ht) (hb (bu hl hx))).run _ rfl
theorem fF.in1{A:Around}{m:Nat}(h:fF A n)(le:m<n):fF A.in1 m:=⟨h.handled,by have:=h.depth;show A.depth+m<_;exact bu this le,by have:=h.units;show A.units+1+3*m+200<_;exact Hj this le le le⟩
theorem ah.sb{cd:Addr×Str}{l:Lm}{t:Tb}{P:Array Nat}{pre:Str}(h:ah S n C)(L:Laid S)(K:uX S l lam cd t)(p:gK S a P 1)(hg:bC S x (.ref a))(hn:2≤n)(hG:iR l pre):ah S n (C.sb x lam cd (EF P pre)):=
 {h with
  s:=λy lm c hy=>by
   by_cases e:y=x∧lm=lam∧c=cd
   ·refine aU e λRB Yg=>?_;obtain rfl:=RB;refine aU Yg λUA RC=>?_;obtain rfl:=UA;obtain rfl:=RC;refine⟨.ref a,"re.Pattern.sub",f6 l t,hg,fY p mi zK,λg h g' h' f y o=>y.over o,λX i Q0 s Q E w hQ=>DV L K i Q0 w hQ,λl' env pos=>?_,λy d q A gh s f u Q E room w lp rv hQ=>?_⟩
    ·rw[K.lam];rfl
    ·refine a5 (q.elim (λq=>q.2) λq=>(q.1 ⟨rfl,rfl,rfl⟩).elim) λx ts k RD UN=>?_;obtain rfl:=RD;refine dO UN λhx hH hl hj UC=>?_;obtain rfl:=UC;refine a9 rv λu UD=>?_;obtain rfl:=UD;refine zE (LP:=λg h=>f6 l t g h f) w p (NT hx kD) ?_ (λg' h' o=>lp.over o) (λg' h h' y o=>y.over o) (λg' s' v st hd ms r P' hr w' lp' rv' hP=>?_) hH hl hj hQ
     ·refine bh lp λa' c' pm QN X7=>a5 X7 λoc vs u' SY Yj=>?_;obtain rfl:=SY;exact bV Yj λ_ ha _=>ak _ ha rfl
     ·refine aP hr λb e XQ UF=>?_;obtain rfl:=XQ;obtain rfl:=UF;exact Dx L K (ah.start L) (room.in1 hn) w' lp' rv' rfl (hG x st hd b e hx) hP
   ·exact(h.s y lm c (hy.resolve_left e)).imp λv=>.imp λid=>.imp λLP k=>{k with f:=λy d q=>k.f y d (q.resolve_left λq=>e q.1).2}}
end
end
section
open Builtin.Re
open Rx
noncomputable abbrev tx(l:List Nat):Str:=⟨l.toArray⟩
def fB(x:Str):tx x.cps.toList=x:=by cases x;simp
def cr(l:List Nat):(tx l).length=l.length:=N4 ..
def gd{T:Array Nat}{l:List Nat}(h:T.toList=l)(i:Nat):T.getD i 0=l.getD i 0:=by
 subst h;rw[Array.getD_eq_getD_getElem?,OA,Array.getElem?_toList]
def cS(a b:List Nat)(j:Nat):(a++b).getD (a.length+j) 0=b.getD j 0:=by
 rw[OA,OA,List.getElem?_append_right (Nat.le_add_right _ _),Nat.add_sub_cancel_left]
def jy{a:List Nat}(b:List Nat)(h:j<a.length):(a++b).getD j 0=a.getD j 0:=by
 rw[OA,OA,Ow h]
def gI{l:List Nat}(h:j<l.length):l.getD j 0∈l:=by
 rw[OA,Oz h];exact List.getElem_mem h
def fv(T:Array Nat)(b e:Nat):(T.extract b e).toList=(T.toList.drop b).take (e-b):=by
 rw[Array.toList_extract,List.extract_eq_take_drop]
def span(f:Nat→Bool):∀l:List Nat,(∀c∈l,f c=false)∨∃u c l',l=u++c::l'∧(∀x∈u,f x=false)∧f c=true:=by
 intro l;induction l with
 |nil=>
  exact .inl nofun
 |cons c l ihr=>
  cases q:f c with
  |true=>exact .inr (aG [] c (aV l rfl nofun q))
  |false=>
   rcases ihr with h | ⟨u,d,l',rfl,h,k⟩
   ·exact .inl λx hx=>(NU.mp hx).elim (λe=>e▸q) (h x)
   ·exact .inr (aG (c::u) d (aV l' rfl (λx hx=>(NU.mp hx).elim (λe=>e▸q) (h x)) k))
def kY(ts:List Str):List Nat:=ts.flatMap λt=>t.cps.toList
def kG:∀ts:List Str,(Txt.join ⟨#[]⟩ ts).cps.toList=kY ts:=by
 have h:∀ts:List Str,(Str.join ⟨#[]⟩ ts).cps.toList=kY ts:=by
  intro ts;induction ts with
  |nil=>rfl
  |cons a r ih=>
   cases r with
   |nil=>show a.cps.toList=kY [a];unfold kY;simp
   |cons b r=>
    show((a.cps++#[])++(Str.join ⟨#[]⟩ (b::r)).cps).toList=_;rw[OO,ih];unfold kY;simp
 intro ts;rw[← h ts];have e:Txt.join ⟨#[]⟩ ts=Str.join ⟨#[]⟩ ts:=by unfold Txt.join;exact StrLaws.glued_eq_join _ _
 rw[e]
structure u8(n:Nat)(ts:List Str):Prop where
 n:ts.length≤n
 t:∀t∈ts,t.length≤1000
def u8.cons{t:Str}(h:t.length≤1000)(f:u8 n ts):u8 (n+1) (t::ts):=⟨Nat.succ_le_succ f.n,λx hx=>(NU.mp hx).elim (λe=>e▸h) (f.t x)⟩
def u8.opt{p:Prop}[Decidable p]{t:Str}(h:t.length≤1000)(f:u8 n ts):u8 (n+1) ((if p then[t] else[])++ts):=by
 by_cases q:p
 ·rw[N1 q];exact f.cons h
 ·rw[NY q];exact⟨Nat.le_succ_of_le f.n,f.t⟩
def u8.ok(f:u8 n ts)(h:n≤1000):ts.length≤1000∧JoinOk ⟨#[]⟩ ts=true:=
 ⟨NT f.n h,iI (m:=1000) f.t (NT (N9 1000 (NT f.n h)) kD)⟩
def qD(x:Str)(b e:Nat):(⟨x.cps.extract b e⟩:Str).length≤x.length:=by show(x.cps.extract b e).size≤x.cps.size;rw[Array.size_extract];exact bu (Nat.sub_le (min e x.cps.size) b) (Nat.min_le_right e x.cps.size)
def rM{p:Prop}[Decidable p]{t:Str}(h:¬p→t.cps.toList=[]):kY ((if p then[t] else[])++ts)=t.cps.toList++kY ts:=by
 by_cases q:p
 ·rw[N1 q];rfl
 ·rw[NY q,h q];rfl
theorem kK{C:Array Nat}{g:Nat}{l:List Nat}(hx:x.cps.toList=pre++l)(hl:x.length≤1000)(h:iW (Sre.forSearch C x.cps g pre.length x.cps.size false)):∃ts k,hU C g x rep pre.length ts k∧kY ts=l∧u8 (2*l.length+1) ts:=by
 refine aN _ _ (.stop h) ?_ ?_
 ·have e:(x.cps.extract pre.length x.cps.size).toList=l:=by
   rw[fv,hx,List.drop_left,List.take_of_length_le];have:x.cps.toList.length=_:=N2 List.length hx;rw[NP] at this;have h2:x.cps.toList.length=x.cps.size:=N7;exact ph (aq h2) (ap this) (ap (ac (b:=pre.length) (a:=x.cps.size) (bu (aq h2) (ap this))))
  have:=rM (p:=pre.length<x.cps.size) (t:=⟨x.cps.extract pre.length x.cps.size⟩) (ts:=[]) λq=>by
   show(x.cps.extract pre.length x.cps.size).toList=[];rw[fv,List.drop_eq_nil_of_le (by rw[N7];exact al q),List.take_nil]
  rw[N6] at this;rw[this];show(x.cps.extract pre.length x.cps.size).toList++[]=l;rw[e,N6]
 ·have:=u8.opt (n:=0) (p:=pre.length<x.cps.size) (t:=⟨x.cps.extract pre.length x.cps.size⟩) (ts:=[]) (NT (qD ..) hl) ⟨Oe _,nofun⟩;rw[N6] at this;exact⟨NT this.n ax,this.t⟩
def sr{C:Array Nat}{g:Nat}{u m l out:List Nat}{r:Str}(hx:x.cps.toList=pre++(u++(m++l)))(hl:x.length≤1000)(hm:m≠[])(h:Found (Sre.forSearch C x.cps g pre.length x.cps.size false) (pre.length+u.length) (pre.length+u.length+m.length) ms lm li)(hg:Ij g ms lm)(hr:rep (pre.length+u.length) (pre.length+u.length+m.length) ms r)(SD:r.length≤1000)(ih:∃ts k,hU C g x rep (pre++(u++m)).length ts k∧kY ts=out∧u8 n ts):∃ts k,hU C g x rep pre.length ts k∧kY ts=u++(r.cps.toList++out)∧u8 (n+2) ts:=by
 refine cA ih λts k H O8 f=>?_;obtain rfl:=O8;have:0<m.length:=List.length_pos_iff.mpr hm;rw[NP,NP,← Nat.add_assoc] at H;refine aN _ _ (.hit h hg (a8 this) hr H) ?_ ((f.cons SD).opt (NT (qD ..) hl));have e:(x.cps.extract pre.length (pre.length+u.length)).toList=u:=by
  rw[fv,hx,List.drop_left,Nat.add_sub_cancel_left,List.take_left]
 rw(occs:=.all) [rM (t:=⟨x.cps.extract pre.length (pre.length+u.length)⟩) λq=>?_]
 ·show(x.cps.extract pre.length (pre.length+u.length)).toList++_=_;rw[e];rfl
 ·show(x.cps.extract pre.length (pre.length+u.length)).toList=[];rw[e];exact List.eq_nil_of_length_eq_zero (aa (a8 (al q)) eQ)
end
section
open Builtin.Re
open Rx
def oE{c:Nat}(h:fq c=true):c<256:=by
 refine Nat.lt_of_not_le λhc=>?_;obtain⟨d,rfl⟩:=Nat.exists_eq_add_of_le' hc;exact N' h
def B0(c:Nat):IE c=fq c:=by
 by_cases h:c<256
 ·exact(by decide +kernel:∀c,c<256→IE c=fq c) c h
 ·have h2:fq c=false:=Bool.eq_false_iff.mpr λq=>h (oE q);rw[h2];unfold IE yE;rw[Os h];rfl
def n5(c:Nat):jv c=(c==34||c==92):=by
 unfold jv;cases c==34<;>cases c==92<;>rfl
theorem E9(v:Str)(hb:v.length≤1000):∃d,m6 v (Sre.forMatch uK v.cps 0 0 v.cps.size true false) 0 d∧∀H,bB H d=some (nx v):=by
 have hs:v.cps.size=v.cps.toList.length:=N7.symm;have Uf:v.cps.size≤4294967295:=NT hb kD;rcases span (λc=>!fq c) v.cps.toList with h | ⟨u,c,l',e,hu,hc⟩
 ·have QM:v.cps.toList.all fq=true:=Ob.mpr λc hc=>by have:=h c hc;revert this;cases fq c<;>simp
  by_cases h0:v.cps.size=0
  ·refine ak .none (.inl ⟨Bh (a8 (aq h0)),rfl⟩) (λH=>?_);have e0:v.cps.toList=[]:=List.eq_nil_of_length_eq_zero (hs▸h0);unfold nx;rw[e0];rfl
  ·refine ak _ (.inr (aG _ _ (aG _ _ (aV _ (BI Uf (by lia) λj hj=>?_) (.inl ⟨rfl,rfl⟩) rfl)))) (λH=>?_)
   ·rw[OM,B0,gd rfl];exact Ob.mp QM _ (gI (hs▸hj))
   ·unfold nx;rw[QM,Bool.and_true];cases q:v.cps.toList with
    |nil=>exact absurd (hs.trans (by rw[q];rfl)) h0
    |cons=>rfl
 ·refine ak .none (.inl ⟨Dr (n:=u.length) Uf (by rw[hs,e,NP];simp) (λj hj=>?_) ?_,rfl⟩) (λH=>?_)
  ·rw[OM,B0,gd e,jy _ hj];have:=hu _ (gI hj);revert this;cases fq (u.getD j 0)<;>simp
  ·rw[OM,B0,gd e,← Nat.add_zero u.length,cS];revert hc;show(!fq c)=true→fq c=false;cases fq c<;>simp
  ·have:v.cps.toList.all fq=false:=by
    rw[e,List.all_append,List.all_cons];revert hc;show(!fq c)=true→_;cases fq c<;>simp
   unfold nx;rw[this,Bool.and_false];rfl
def dY:∀{u:List Nat},(∀x∈u,jv x=false)→u.flatMap dU=u:=by
 intro u;induction u with
 |nil=>
  exact λ_=>rfl
 |cons c l ihr=>
  intro h;rw[OD,ihr λx hx=>h x (Oa _ hx)];have:=h c N3;rw[n5] at this;unfold dU;rw[this];rfl
theorem DO{v:Str}(hb:v.length≤1000):∀(n:Nat)(l pre:List Nat),l.length≤n→v.cps.toList=pre++l→∃ts k,hU lR 1 v (tZ (tx [92]) v) pre.length ts k∧kY ts=l.flatMap dU∧u8 (2*l.length+1) ts:=by
 intro n;induction n with
 |zero=>
  intro l pre hn e;have:l=[]:=List.eq_nil_of_length_eq_zero (Nat.le_zero.mp hn);subst this;refine kK e hb (wY λj h1 h2=>?_);have:v.cps.toList.length=_:=N2 List.length e;rw[N7,N6] at this;lia
 |succ n ih=>
  intro l pre hn e;rcases span jv l with h | ⟨u,c,l',rfl,hu,hc⟩
  ·have:=kK (C:=lR) (g:=1) (rep:=tZ (tx [92]) v) e hb (wY λj h1 h2=>by
    refine a9 (Nat.le.dest h1) λi Pt=>?_;obtain rfl:=Pt;rw[gd e,cS];refine h _ (gI ?_);have:v.cps.toList.length=_:=N2 List.length e;rw[N7,NP] at this;exact bu (aq this) h2)
   have e2:=dY h;rw[e2];exact this
  ·have Tp:=hc;rw[n5] at Tp;have hs:v.cps.size=pre.length+(u.length+(1+l'.length)):=by
    have:v.cps.toList.length=_:=N2 List.length e;rw[N7,NP,NP,NR] at this;exact lr this
   have hf:Found (Sre.forSearch lR v.cps 1 pre.length v.cps.size false) (pre.length+u.length) (pre.length+u.length+1) #[some (pre.length+u.length),some (pre.length+u.length+1)] 1 1:=by
    refine BU (Nat.le_add_right _ _) (a8 (ap hs)) (λj h1 h2=>?_) ?_
    ·refine a9 (Nat.le.dest h1) λi O8=>?_;obtain rfl:=O8;rw[gd e,cS,jy _ (a8 h2)];exact hu _ (gI (a8 h2))
    ·rw[gd e,cS,← Nat.add_zero u.length,cS];exact hc
   have hx:(v.cps.extract (pre.length+u.length) (pre.length+u.length+1)).toList=[c]:=by
    rw[fv,e,← Oi,← NP,List.drop_left,Nat.add_sub_cancel_left];rfl
   have:=sr (rep:=tZ (tx [92]) v) (m:=[c]) (l:=l') (pre:=pre) (u:=u) (n:=2*l'.length+1) (out:=l'.flatMap dU) (r:=tx [92]++⟨v.cps.extract (pre.length+u.length) (pre.length+u.length+1)⟩) (by rw[e];rfl) hb (by simp) hf (.inr (dp rfl rfl _ _ (Nat.le_succ _) rfl)) (fw _ _ rfl rfl)
    (by rw[cx];have:=qD v (pre.length+u.length) (pre.length+u.length+1);show 1+_≤_;rw[show(⟨v.cps.extract (pre.length+u.length) (pre.length+u.length+1)⟩:Str).length=1 from by show Array.size _=1;rw[N7.symm,hx];rfl];decide)
    (ih l' (pre++(u++[c])) (by rw[NP,NR] at hn;exact a8 hn) (by rw[e];simp))
   refine cA this λts k H Rj f=>aN ts k H ?_ ⟨NT f.n ?_,f.t⟩
   ·rw[Rj];have e3:(tx [92]++⟨v.cps.extract (pre.length+u.length) (pre.length+u.length+1)⟩:Str).cps.toList=[92,c]:=by
     show(#[92]++v.cps.extract (pre.length+u.length) (pre.length+u.length+1)).toList=_;rw[OO,hx];rfl
    rw[e3,List.flatMap_append,OD];have e4:=dY hu;have e5:dU c=[92,c]:=by unfold dU;rw[Tp];rfl
    rw[e4,e5]
   ·rw[NP,NR];exact eQ
end
section
open Builtin.Re
open Rx
def iL{l:List Nat}(e:y.cps.toList=pre++l):y.cps.size=pre.length+l.length:=by
 rw[N7.symm,e,NP]
theorem Ak(hb:y.length≤1000):∀(n:Nat)(l pre:List Nat),l.length≤n→(∀c∈l,c≠10)→y.cps.toList=pre++l.flatMap dU→∃ts k,hU gT 1 y (tZ ⟨#[]⟩ y) pre.length ts k∧kY ts=l∧u8 (2*l.length+1) ts:=by
 have plain:∀(l pre:List Nat),(∀c∈l,jv c=false)→y.cps.toList=pre++l.flatMap dU→∃ts k,hU gT 1 y (tZ ⟨#[]⟩ y) pre.length ts k∧kY ts=l∧u8 (2*l.length+1) ts:=λl pre h e=>by
  rw[dY h] at e;refine kK e hb (AK (NT hb kD) λj h1 h2=>a9 (Nat.le.dest h1) λi Pt=>?_);obtain rfl:=Pt;rw[gd e,cS];have hi:i<l.length:=by rw[iL e] at h2;exact a8 h2
  have:=h _ (gI hi);rw[n5,Bool.or_eq_false_iff] at this;exact beq_eq_false_iff_ne.mp this.2
 intro n;induction n with
 |zero=>
  intro l pre hn _ e;have:l=[]:=List.eq_nil_of_length_eq_zero (Nat.le_zero.mp hn);exact plain l pre (by rw[this];exact nofun) e
 |succ n ih=>
  intro l pre hn Tn e;rcases span jv l with h | ⟨u,c,l',rfl,hu,hc⟩
  ·exact plain l pre h e
  ·have Tp:=hc;rw[n5] at Tp;have e5:dU c=[92,c]:=by unfold dU;rw[Tp];rfl
   rw[List.flatMap_append,OD,dY hu,e5] at e;have hs:=iL e;rw[NP,NP] at hs;have hs:y.cps.size=pre.length+(u.length+(2+(l'.flatMap dU).length)):=hs;have hf:Found (Sre.forSearch gT y.cps 1 pre.length y.cps.size false) (pre.length+u.length) (pre.length+u.length+1+1) #[some (pre.length+u.length+1),some (pre.length+u.length+1+1)] 1 1:=by
    refine xw (NT hb kD) (Nat.le_add_right _ _) (a8 (ap hs)) (λj h1 h2=>?_) ?_ ?_
    ·refine a9 (Nat.le.dest h1) λi O8=>?_;obtain rfl:=O8;rw[gd e,cS,jy _ (a8 h2)];have:=hu _ (gI (l:=u) (j:=i) (a8 h2));rw[n5,Bool.or_eq_false_iff] at this;exact beq_eq_false_iff_ne.mp this.2
    ·rw[gd e,cS,← Nat.add_zero u.length,cS];rfl
    ·rw[gd e,Nat.add_assoc,cS,cS];exact Tn c (List.mem_append_right _ N3)
   have hx:(y.cps.extract (pre.length+u.length+1) (pre.length+u.length+1+1)).toList=[c]:=by
    rw[fv,e,← Oi,← NP,show([92,c]++l'.flatMap dU)=[92]++([c]++l'.flatMap dU) from rfl,← Oi (pre++u),show(pre++u).length+1=(pre++u++[92]).length by rw[NP (as:=pre++u)];rfl,List.drop_left,Nat.add_sub_cancel_left];rfl
   have hr:((⟨#[]⟩:Str)++⟨y.cps.extract (pre.length+u.length+1) (pre.length+u.length+1+1)⟩:Str).cps.toList=[c]:=by
    show(#[]++y.cps.extract (pre.length+u.length+1) (pre.length+u.length+1+1)).toList=_;rw[OO,hx];rfl
   refine cA (sr (C:=gT) (g:=1) (rep:=tZ ⟨#[]⟩ y) (m:=[92,c]) (l:=l'.flatMap dU) (pre:=pre) (u:=u) (n:=2*l'.length+1) (out:=l') (r:=⟨#[]⟩++⟨y.cps.extract (pre.length+u.length+1) (pre.length+u.length+1+1)⟩) e hb (by simp) hf (.inr (dp rfl rfl _ _ (Nat.le_succ _) rfl)) (fw _ _ rfl rfl)
    (by show Array.size _≤_;rw[N7.symm,hr];exact dZ rfl)
    (ih l' (pre++(u++[92,c])) (by rw[NP,NR] at hn;exact a8 hn) (λx hx=>Tn x (List.mem_append_right _ (Oa _ hx))) (by rw[e];simp))) λts k H Rj f=>?_
   refine aN ts k H (by rw[Rj,hr];rfl) ⟨NT f.n ?_,f.t⟩;rw[NP,NR];exact eQ
def ou(f:Nat→Bool)(l:List Nat):Prop:=∀c r,l=c::r→f c=false
theorem ou.at{f:Nat→Bool}{l:List Nat}{T:Array Nat}{a:List Nat}(h:ou f l)(e:T.toList=a++l)(hn:n=a.length)(hl:n<T.size):f (T.getD n 0)=false:=by
 subst hn;rw[gd e,← Nat.add_zero a.length,cS];cases l with
 |nil=>
  have:T.size=a.length:=by rw[N7.symm,e];simp
  lia
 |cons c r=>exact h c r rfl
section
variable{k t:List Nat}
def Jw{f:Nat→Bool}{T:Array Nat}{p a t:List Nat}(e:T.toList=p++(a++t))(hn:n=p.length)(h:∀c∈a,f c=true)(j:Nat)(hj:j<a.length):f (T.getD (n+j) 0)=true:=by
 subst hn;rw[gd e,cS,jy _ hj];exact h _ (gI hj)
theorem BA{b:List Nat}(hb:(tx (b++(k++t))).length≤1000000)(ZN:∀c∈b,i8 c=true)(hk:k≠[])(hf:∀c∈k,iV c=true)(h0:∀c∈k,i8 c=false)(ht:ou iV t):
  m6 (tx (b++(k++t))) (Sre.forSearch eU (tx (b++(k++t))).cps 1 0 (tx (b++(k++t))).cps.size false) 1 (.mat (tx (b++(k++t))) [0,(b.length+k.length:Nat),(b.length:Nat),(b.length+k.length:Nat)]):=by
 have e:(tx (b++(k++t))).cps.toList=b++(k++t):=rfl;have hs:(tx (b++(k++t))).cps.size=b.length+(k.length+t.length):=by rw[iL e,NP]
 have WY:1≤k.length:=List.length_pos_iff.mpr hk;have h:=yq (T:=(tx (b++(k++t))).cps) (a:=b.length) (n:=k.length) (a8 (ap hs)) (NT hb kD) WY (Jw (p:=[]) (by exact e) rfl ZN) (by
  refine ce (OB hk) λc r Pq=>?_;obtain rfl:=Pq;rw[OM,gd e,← Nat.add_zero b.length,cS];exact h0 c N3) (Jw (p:=b) e (OM _) hf) (λh=>ht.at (a:=b++k) (by rw[e,Oi]) (by rw[NP];exact dG) h)
 refine .inr (aG _ _ (aG _ _ (aV _ h (.inr (dp rfl rfl _ _ eQ rfl)) ?_)));show _=PV.mat _ [(0:Int),((0+b.length+k.length:Nat):Int),((0+b.length:Nat):Int),((0+b.length+k.length:Nat):Int)];rw[OM]
def Lp{f:Nat→Bool}{T:Array Nat}{l:List Nat}(e:T.toList=l)(h:ou f l)(h0:f 0=false):f (T.getD 0 0)=false:=by
 by_cases q:0<T.size
 ·exact h.at (a:=[]) e rfl q
 ·rw[gd e];have:l=[]:=List.eq_nil_of_length_eq_zero (by rw[e.symm,N7];exact aa (a8 (al q)) eQ);rw[this];exact h0
def Mj:i8 0=false:=kE
def rt(hb:(tx t).length≤1000000)(h1:ou i8 t)(h2:ou iV t)(h0:t=[]→False):m6 (tx t) (Sre.forSearch eU (tx t).cps 1 0 (tx t).cps.size false) 1 .none:=by
 refine ce (OB h0) λc r PA=>?_;obtain rfl:=PA;exact .inl ⟨CP (T:=(tx (c::r)).cps) (NT hb kD) (h1 c r rfl) (h2 c r rfl),rfl⟩
theorem CC{y:List Nat}(hb:(tx (61::34::(y++34::t))).length≤1000000)(hv:(∀c∈y,jv c=false)∨∃u c w,y=u++92::c::w∧(∀x∈u,jv x=false)∧(∀x∈w,jv x=false)∧c≠10):
  m6 (tx (61::34::(y++34::t))) (Sre.forSearch bA (tx (61::34::(y++34::t))).cps 1 0 (tx (61::34::(y++34::t))).cps.size false) 1 (.mat (tx (61::34::(y++34::t))) [0,(2+y.length+1:Nat),(2:Nat),(2+y.length:Nat)]):=by
 have e:(tx (61::34::(y++34::t))).cps.toList=[61,34]++(y++34::t):=rfl;have hs:=iL e;rw[NP,NR] at hs;have hs:(tx (61::34::(y++34::t))).cps.size=2+(y.length+(t.length+1)):=hs;have Rh:(tx (61::34::(y++34::t))).cps.getD (2+y.length) 0=34:=by
  rw[gd e,show 2=([61,34]:List Nat).length from rfl,cS,← Nat.add_zero y.length,cS];rfl
 have q:∀{x:Nat},jv x=false→ri x=true:=λ{x} h=>by
  rw[n5,Bool.or_eq_false_iff] at h;unfold ri;rw[h.1,h.2];rfl
 have F:Found (Sre.forSearch bA (tx (61::34::(y++34::t))).cps 1 0 (tx (61::34::(y++34::t))).cps.size false) 0 (2+y.length+1) #[some (0+0+1+0+1),some (2+y.length)] 1 1:=by
  rcases hv with h | ⟨u,c,w,rfl,hu,hw,hc⟩
  ·exact oV (n:=y.length) (m:=0) (NT hb kD) rfl rfl (Jw (p:=[61,34]) e rfl λc hc=>q (h c hc)) _ (.inl rfl) (by exact a8 (ap hs)) Rh
  ·have hl:(u++(92::c::w)).length=u.length+(w.length+2):=by simp
   rw[hl] at hs;have g:∀j,(tx (61::34::(u++92::c::w++34::t))).cps.getD (2+u.length+j) 0=(92::c::(w++34::t)).getD j 0:=λj=>by
    rw[gd e,show([61,34]++(u++92::c::w++34::t):List Nat)=([61,34]++u)++(92::c::(w++34::t)) by simp,show 2+u.length=([61,34]++u:List Nat).length by rw[NP];rfl,cS]
   refine oV (n:=u.length) (m:=w.length) (NT hb kD) rfl rfl (Jw (p:=[61,34]) (t:=92::c::(w++34::t)) (by rw[e];simp) rfl λc hc=>q (hu c hc)) _ (.inr (aS (by rw[hl];exact dG) ?_ ?_ (λj hj=>?_))) (by rw[hl];exact a8 (ap hs)) Rh
   ·rw[show 0+0+1+0+1+u.length=2+u.length+0 by exact rfl,g];rfl
   ·rw[show 0+0+1+0+1+u.length+1=2+u.length+1 by exact rfl,g];exact hc
   ·rw[show 0+0+1+0+1+u.length+1+1+j=2+u.length+(2+j) by exact dG,g,show(92::c::(w++34::t))=[92,c]++(w++34::t) from rfl,show 2+j=([92,c]:List Nat).length+j from rfl,cS,jy _ hj];exact q (hw _ (gI hj))
 exact .inr (aG _ _ (aG _ _ (aV _ F (.inr (dp rfl rfl _ _ (by exact eQ) rfl)) rfl)))
def s8(hb:(tx t).length≤1000000)(h1:ou i8 t)(h:∀c r,t=c::r→c≠61∨(ou i8 r∧ou (λx=>x==34) r)):m6 (tx t) (Sre.forSearch bA (tx t).cps 1 0 (tx t).cps.size false) 1 .none:=by
 refine .inl ⟨B8 (NT hb kD) (Lp (l:=t) rfl h1 Mj) ?_,rfl⟩;cases t with
 |nil=>exact .inl kD
 |cons c r=>
  refine(h c r rfl).imp id λq=>?_;cases r with
  |nil=>exact⟨Mj,by show(0:Nat)≠34;decide⟩
  |cons d r=>exact⟨q.1 d r rfl,beq_eq_false_iff_ne.mp (q.2 d r rfl)⟩
theorem yV{v:List Nat}(hb:(tx (61::(v++t))).length≤1000000)(h1:ou i8 (v++t))(hv:∀c∈v,ow c=true)(ht:ou ow t):
  m6 (tx (61::(v++t))) (Sre.forSearch eG (tx (61::(v++t))).cps 1 0 (tx (61::(v++t))).cps.size false) 1 (.mat (tx (61::(v++t))) [0,(1+v.length:Nat),(1:Nat),(1+v.length:Nat)]):=by
 have e:(tx (61::(v++t))).cps.toList=[61]++(v++t):=rfl;have hs:=iL e;rw[NP] at hs;have hs:(tx (61::(v++t))).cps.size=1+(v.length+t.length):=hs;have F:=xW (T:=(tx (61::(v++t))).cps) (n:=v.length) (NT hb kD) (by exact a8 (ap hs)) rfl (by
  rw[gd e];show i8 ((v++t).getD 0 0)=false;cases q:v++t with
  |nil=>exact Mj
  |cons c r=>exact h1 c r q) (Jw (p:=[61]) e rfl hv) λh=>ht.at (a:=[61]++v) (by rw[e];simp) (by rw[NP];rfl) h
 exact .inr (aG _ _ (aG _ _ (aV _ F (.inr (dp rfl rfl _ _ eQ rfl)) rfl)))
def AI(hb:(tx t).length≤1000000)(h1:ou i8 t)(h:ou (λx=>x==61) t):m6 (tx t) (Sre.forSearch eG (tx t).cps 1 0 (tx t).cps.size false) 1 .none:=by
 exact .inl ⟨AW (NT hb kD) (Lp (l:=t) rfl h1 Mj) (beq_eq_false_iff_ne.mp (Lp (T:=(tx t).cps) (l:=t) rfl h rfl)),rfl⟩
theorem xP{j:List Nat}(hb:(tx (j++t)).length≤1000000)(hj:∀c∈j,jA c=true)(PH:j≠[])(ht:ou jA t)(W3:t≠[]):hU fu 0 (tx (j++t)) (λ_ _ _ r=>r=⟨#[]⟩) 0 [⟨#[]⟩,tx t] 1:=by
 have e:(tx (j++t)).cps.toList=j++t:=rfl;have hs:=iL e;have WX:1≤j.length:=List.length_pos_iff.mpr PH;have htl:1≤t.length:=List.length_pos_iff.mpr W3;have Uf:=NT hb (show 1000000≤4294967295 by decide);have F:=uR (T:=(tx (j++t)).cps) (n:=j.length) Uf (a8 (ap hs)) WX (Jw (p:=[]) (by exact e) rfl hj) λh=>ht.at (a:=j) e (OM _) h;rw[OM] at F;have N:=hU.stop (C:=fu) (g:=0) (x:=tx (j++t)) (rep:=λ_ _ _ r=>r=⟨#[]⟩) (xD Uf (a8 (ap hs)) WX);rw(occs:=.all) [N1 (by exact bu htl (ap hs))] at N;have ex:(⟨(tx (j++t)).cps.extract j.length (tx (j++t)).cps.size⟩:Str)=tx t:=by
  rw[← fB ⟨_⟩];show tx ((tx (j++t)).cps.extract j.length (tx (j++t)).cps.size).toList=_;rw[fv,e,List.drop_left,hs,Nat.add_sub_cancel_left,List.take_length]
 rw[ex] at N;exact hU.hit F (.inl ⟨rfl,rfl⟩) WX rfl N
end
end
section
open Builtin.Re
open Rx
def n9{l:List Nat}{k:Int}(hk:k=n)(h:n≤l.length):Txt.slice (tx l) (some k) none=tx (l.drop n):=by
 subst hk;rw[slice_from_eq (b:=((tx l).length:Int)) (Oy n) (by rw[cr];exact Int.ofNat_le.mpr h) rfl];show tx ((l.drop n).take (((tx l).length:Int)-n).toNat)=_;rw[cr,Int.toNat_sub,List.length_drop.symm,List.take_length]
def Fo(x:Str):Txt.slice x none (some 0)=tx []:=by
 have h:=slice_closes_to (x:=x) (j:=0) ⟨Int.le_refl _,Oy _⟩;have e:∀a b:Str,(a==b)=true→a=b:=λa b h=>eq_of_beq h;rw[e _ _ h];rfl
def Ii(a b:List Nat):tx a++tx b=tx (a++b):=by
 show(⟨a.toArray++b.toArray⟩:Str)=_;simp
def o4{c:Nat}{l:List Nat}(h:sp c=false):Txt.lstrip (tx (c::l))=tx (c::l):=by
 show Txt.stripBy sp true false _=_;rw[PyProof.Rows.stripBy_eq];have:stripLo sp true (tx (c::l))=0:=by
  show((c::l).takeWhile sp).length=0;rw[List.takeWhile_cons,h];rfl
 rw[this];exact strSub_whole _
def yI{l:List Nat}(h:∀c∈l,sp c=false):Txt.rstrip (tx l)=tx l:=by
 show Txt.stripBy sp false true _=_;rw[PyProof.Rows.stripBy_eq];have:stripHi sp true (tx l) 0=(tx l).length:=by
  have hh:=hi_facts sp (tx l) 0 (Oc _);refine bD hh λ_ h2 h3 _=>Nat.le_antisymm h2 (Nat.le_of_not_lt λPo=>?_);have:=h3 _ (Oe _) Po;rw[show(tx l).cps.getD (stripHi sp true (tx l) 0) 0=l.getD (stripHi sp true (tx l) 0) 0 from gd rfl _,h _ (gI (by rw[cr] at Po;exact Po))] at this;cases this
 show Builtin.Str.strSub (tx l) 0 (stripHi sp true (tx l) 0)=_;rw[this];exact strSub_whole _
def oP{c d:Nat}{l:List Nat}:Txt.startswith (tx (c::l)) (tx [d])=(c==d):=by
 unfold Txt.startswith
 have h1:decide (0+(tx [d]).length≤(tx (c::l)).length)=true:=N0 (by rw[cr,cr,NR,NR];simp);rw[h1,Bool.true_and];unfold Builtin.Str.subAt;have:(tx (c::l)).cps.extract 0 (0+(tx [d]).length)=#[c]:=by
  rw[Array.toList_inj.symm,fv];rfl
 rw[this];show(#[c]==#[d])=_;rw[StrLaws.beq_toList];simp
theorem Ev1.abQ{s:List Int}(h:l i=some (.mat x s)):Ev1 C H (.abQ i q p) l (.str x):=⟨λKv k=>aQ h (aQ rfl k)⟩
theorem MM{x:List Nat}{r:List Int}(hx:x.length≤1000000)(hn:n≤x.length):fnW C MX.1 [.mat (tx x) (0::(n:Int)::r)] (·=.str (tx (x.drop n))):=by
 refine ft rfl ?_;have hf:aE (tx x).length=true:=au (by rw[cr];exact hx);refine aF (d:=.tup [.int 0,.int n]) (Ev1.mth Ev1.v rfl (.cons Ev1.c .nil) ?_) rfl ?_
 ·show(if(true&&decide ((2*0:Int)<(0::(n:Int)::r).length))=true then _ else _)=_;rw[N0 (by rw[NR,NR];lia)];rfl
 ·refine ct (d:=.str (tx []++tx (x.drop n))) (Ev1.bin (x:=.str (tx [])) (y:=.str (tx (x.drop n))) (Ev1.abG (Ev1.abQ rfl) (Ev1.v (d:=.int 0) kU) ?_) (Ev1.abp (Ev1.abQ rfl) (Ev1.v (d:=.int n) kU) ?_) λKv k=>?_) ?_
  ·show(if aE (tx x).length=true then some (PV.str (Txt.slice (tx x) none (some 0))) else none)=_;rw[hf,Fo];rfl
  ·show(if aE (tx x).length=true then some (PV.str (Txt.slice (tx x) (some n) none)) else none)=_;rw[hf,n9 rfl hn];rfl
  ·exact bE (au (by rw[cr,cr,List.length_drop];show 0+_≤_;exact bu hx (Nat.sub_le x.length n))) k
  ·rw[Ii];exact aQ rfl rfl
def R4(ds:List PV)(d:PV):Prop:=∃(x:List Nat)(n:Nat)(r:List Int),ds=[.mat (tx x) (0::(n:Int)::r)]∧x.length≤1000000∧n≤x.length∧d=.str (tx (x.drop n))
structure SC(C:cu):Prop where
 t:C.xa "HEADER_TOKEN_RE" "search"=true
 tc:∀ds d,qK (λT L=>Sre.forSearch eU T 1 0 L false) 1 ds d→C.x "HEADER_TOKEN_RE" "search" ds d
 q:C.xa "HEADER_QUOTED_VALUE_RE" "search"=true
 qc:∀ds d,qK (λT L=>Sre.forSearch bA T 1 0 L false) 1 ds d→C.x "HEADER_QUOTED_VALUE_RE" "search" ds d
 v:C.xa "HEADER_VALUE_RE" "search"=true
 vc:∀ds d,qK (λT L=>Sre.forSearch eG T 1 0 L false) 1 ds d→C.x "HEADER_VALUE_RE" "search" ds d
 j:C.xa "_twin_re_7" "subn"=true
 jc:∀ds d,z3 fu 0 ds d→C.x "_twin_re_7" "subn" ds d
 e:C.sa "HEADER_ESCAPE_RE" ll yK
 ec:∀y d,EF gT ⟨#[]⟩ y d→C.s "HEADER_ESCAPE_RE" ll yK y d
 u:C.fa "unmatched"=true
 uc:∀ds d,R4 ds d→C.f "unmatched" ds d
 ty:C.g "str" (.typ "str")
end
section
open Builtin.Re
open Rx
inductive iA:Pr→List Nat→Prop
 |acO {k:List Nat}:iA (tx k,none) k
 |bare {k v:List Nat} (hv:v≠[]) (h:∀c∈v,ow c=true) (hq:34∉v):iA (tx k,some (tx v)) (k++61::v)
 |quo {k v y:List Nat} (hl:v.length≤100∧y.length≤1000) (hy:y=v.flatMap dU) (Tn:∀c∈v,c≠10) (h:(∀c∈y,jv c=false)∨∃u c w,y=u++92::c::w∧(∀x∈u,jv x=false)∧(∀x∈w,jv x=false)∧c≠10):iA (tx k,some (tx v)) (k++61::34::(y++[34]))
structure Ay(k:List Nat):Prop where
 ne:k≠[]
 t:∀c∈k,iV c=true
def zj{c:Nat}(h:iV c=true):sp c=false:=by
 unfold iV at h;cases q:sp c with
 |false=>rfl
 |true=>rw[q] at h;revert h;cases yE eU 26 c<;>decide
def Ag{c:Nat}(h:ow c=true):sp c=false:=by
 unfold ow at h;cases q:sp c with
 |false=>rfl
 |true=>rw[q] at h;cases h
def Bf{c:Nat}(h:sp c=false):i8 c=false:=by unfold i8;rw[h];rfl
def Ct{c d:Nat}(h:iV c=true)(hd:iV d=false):c≠d:=λe=>by rw[e,hd] at h;cases h
def Tl(t:List Nat):Prop:=∀c r,t=c::r→c=59∨c=44
def Tl.hd{t:List Nat}(h:Tl t){f:Nat→Bool}(h1:f 59=false)(h2:f 44=false):ou f t:=λc r e=>(h c r e).elim (λq=>q▸h1) λq=>q▸h2
def Ng:MB:=lW (bW 2 Mf.1)
def Lw:MB:=lW (bW 2 Ng)
def Nb:MB:=lW (bW 1 Lw)
section
theorem M6{x:List Nat}{a b c e:Nat}(hx:x.length≤1000000):pK H .group (.mat (tx x) [0,(a:Int),(b:Int),(e:Int)]) [.int 1]=some (.str (tx ((x.drop b).take (e-b)))):=by
 have hf:aE (tx x).length=true:=au (by rw[cr];exact hx);show(if(true&&(true&&aE (tx x).length))=true then some (c6 (tx x) [0,(a:Int),(b:Int),(e:Int)] 1) else none)=_;rw[hf];show some (c6 (tx x) [0,(a:Int),(b:Int),(e:Int)] 1)=_;unfold c6;rw[NY]
 ·show some (PV.str ⟨(tx x).cps.extract b e⟩)=_;rw[← fB ⟨(tx x).cps.extract b e⟩];show some (PV.str (tx ((tx x).cps.extract b e).toList))=_;rw[fv]
 ·show ¬((decide ((b:Int)<0)||decide ((e:Int)<0))=true);rw[Os (by lia),Os (by lia)];decide
def Ev1.grp{x:List Nat}{a b e:Nat}{y:List Nat}{s:Pos}{k:Nat}(h:l i=some (.mat (tx x) [0,(a:Int),(b:Int),(e:Int)]))(hx:x.length≤1000000)(hy:(x.drop b).take (e-b)=y):Ev1 C H (.mth .group (.v i p) q (.cons (.c (.int 1) k r) .nil) s) l (.str (tx y)):=
 Ev1.mth (Ev1.v h) rfl (.cons Ev1.c .nil) (hy▸M6 (c:=0) hx)
def Ev1.unm(S:SC C){x:List Nat}{r:List Int}{y:List Nat}{s:Pos}(h:l i=some (.mat (tx x) (0::(n:Int)::r)))(hx:x.length≤1000000)(hn:n≤x.length)(hy:x.drop n=y):Ev1 C H (.call ("unmatched":Str) q (.cons (.v i p) .nil) s) l (.str (tx y)):=
 Ev1.call S.u (.one (Ev1.v h)) (S.uc _ _ (aH x n r rfl hx hn (by rw[hy])))
def Lj(S:SC C){k:List Nat}{w:Pr}{wl t:List Nat}(W:iA w wl)(hw:w.1=tx k)(ht:Tl t){ps:List PV}{z:List Nat}(hz:wl=k++z)(OV:(z++t).length≤10000)(h2:l 2=some (.str (tx (z++t))))(h6:l 6=some (.str w.1))(h4:l 4=some (.obj j))(hH:H[j]?=some (.lst ps))(QX:ps.length≤100)(hk:∀l',l' 0=l 0→l' 1=l 1→l' 2=some (.str (tx t))→l' 4=l 4→K .next l' (H.set j (.lst (ps++[cn w])))):Xb C (bW 2 Nb) l H K:=by
 have fin:∀l',l' 0=l 0→l' 1=l 1→l' 2=some (.str (tx t))→l' 4=some (.obj j)→l' 6=some (.str w.1)→l' 7=some (j9 w.2)→Xb C (bW 4 Nb) l' H K:=λl' q0 q1 q2 q4 q6 q7=>
  abi q4 hH (au (az QX)) (Ev1.tup (ds:=[.str w.1,j9 w.2]) (.cons (Ev1.v q6) (.one (Ev1.v q7)))) (aB (hk _ q0 q1 q2 (q4.trans h4.symm)))
 have tz:∀{f:Nat→Bool},f 59=false→f 44=false→ou f t:=λh1 h2=>ht.hd h1 h2;have s1:i8 59=false:=kE;have s2:i8 44=false:=kE;have len:∀x:List Nat,x.length≤10000→(tx x).length≤1000000:=λx h=>by rw[cr];exact az h
 cases W with
 |acO=>
  obtain rfl:z=[]:=by
   have e:wl=k:=N2 (λx:Str=>x.cps.toList) hw;rw[e] at hz;exact(List.append_cancel_left (by rw[N6];exact hz.symm:k++z=k++[]))
  have hl:=len _ OV;exact aF (d:=.none) (Ev1.rx S.q (.one (Ev1.v h2)) (S.qc _ _ (aV _ rfl hl (s8 hl (tz s1 s2) λc r e=>.inl ((ht c r e).elim (λq=>by rw[q];decide) λq=>by rw[q];decide))))) rfl (cM (r:=false) ((Ev1.v kU).t rfl) nofun λ_=>aF (d:=.none) (Ev1.rx S.v (.one (Ev1.v (by exact h2))) (S.vc _ _ (aV _ rfl hl (AI hl (tz s1 s2) (tz rfl rfl))))) rfl (cM (r:=false) ((Ev1.v kU).t rfl) nofun λ_=>aF (d:=.none) Ev1.c rfl (aB (aA (aB (aA (fin _ rfl rfl (by exact h2) (by exact h4) (by exact h6) rfl)))))))
 |@bare k' v hv h hq=>
  obtain rfl:z=61::v:=by
   have:k'=k:=by have:=N2 (λx:Str=>x.cps.toList) hw;exact this
   subst this;exact List.append_cancel_left hz.symm
  have hl:=len _ OV;refine ce (OB hv) λc0 v' Pt=>?_;obtain rfl:=Pt;have Y4:ou i8 ((c0::v')++t):=λc r e=>by
   cases e;exact Bf (Ag (h c0 N3))
  refine aF (d:=.none) (Ev1.rx S.q (.one (Ev1.v h2)) (S.qc _ _ (aV _ rfl hl (s8 hl (λc r e=>by cases e;decide +kernel) λc r e=>.inr ?_)))) rfl ?_
  ·cases e;refine⟨Y4,λc r e=>?_⟩;cases e;exact OG λq=>hq (q▸N3)
  refine cM (r:=false) ((Ev1.v kU).t rfl) nofun λ_=>aF (Ev1.rx S.v (.one (Ev1.v (by exact h2))) (S.vc _ _ (aV _ rfl hl (yV (v:=c0::v') (t:=t) hl Y4 h (tz rfl rfl))))) rfl (cM (r:=true) ((Ev1.v kU).t rfl) (λ_=>?_) nofun);have TJ:(61::((c0::v')++t)).length≤1000000:=NT OV kD;refine aF (Ev1.unm S (y:=t) kU TJ (by simp only[NR,NP];exact eQ) (by rw[Nat.add_comm,List.drop_succ_cons,List.drop_left])) rfl (aF (Ev1.grp (y:=c0::v') kU TJ (by rw[Nat.add_sub_cancel_left];show List.take _ ((c0::v')++t)=_;rw[List.take_left])) rfl (aF (d:=.str (tx (c0::v'))) (Ev1.mth Ev1.v rfl .nil ?_) rfl ?_))
  ·show(if aE (tx (c0::v')).length=true then some (PV.str (Txt.rstrip (tx (c0::v')))) else none)=_;rw[au (by rw[cr];rw[NP,NR] at OV;simp only[NR] at OV ⊢;exact a8 OV),yI λc hc=>Ag (h c hc)];rfl
  ·exact aB (aA (aB (aA (fin _ rfl rfl rfl (by exact h4) (by exact h6) rfl))))
 |@quo k' v y hyl hy Tn hs=>
  obtain rfl:z=61::34::(y++[34]):=by
   have:k'=k:=by have:=N2 (λx:Str=>x.cps.toList) hw;exact this
   subst this;exact List.append_cancel_left hz.symm
  have ez:(61::34::(y++[34]))++t=61::34::(y++34::t):=by simp
  rw[ez] at h2 OV;have hl:=len _ OV;have TJ:(61::34::(y++34::t)).length≤1000000:=NT OV kD;simp only[NR,NP] at OV;refine aF (Ev1.rx S.q (.one (Ev1.v h2)) (S.qc _ _ (aV _ rfl hl (CC (y:=y) (t:=t) hl hs)))) rfl (cM (r:=true) ((Ev1.v kU).t rfl) (λ_=>?_) nofun);refine aF (Ev1.unm S (y:=t) kU TJ (by simp only[NR,NP];exact eQ) (by
   rw[show 2+y.length+1=y.length+1+1+1 by exact dG,List.drop_succ_cons,List.drop_succ_cons,show y++34::t=(y++[34])++t by simp,show y.length+1=(y++[34]).length by simp,List.drop_left])) rfl ?_
  exact aF (Ev1.grp (y:=y) kU TJ (by rw[Nat.add_sub_cancel_left];show List.take _ (y++34::t)=_;rw[List.take_left])) rfl (aF (d:=.str (tx v)) (Ev1.abR S.e Ev1.v (S.ec _ _ (cA (Ak (y:=tx y) (by rw[cr];exact hyl.2) v.length v [] (Oe _) Tn hy) λts n Hh Rj f=>aU (f.ok (by have:=hyl.1;exact bu hyl.1 hyl.1)) λf1 f2=>aH (tx y) ts n rfl (by rw[cr];have:=hyl.2;exact az hyl.2) Hh ⟨f1,f2,(by rw[← fB (Txt.join ⟨#[]⟩ ts),kG,Rj])⟩))) rfl (aB (aA (fin _ rfl rfl rfl (by exact h4) (by exact h6) rfl))))
end
end
section
open Builtin.Re
open Rx
structure Jz(w:Pr)(wl:List Nat):Prop where
 k:∃k z,w.1=tx k∧wl=k++z∧Ay k∧(z=[]∨∃r,z=61::r)
 w:iA w wl
section
def EO{k z t:List Nat}(hz:z=[]∨∃r,z=61::r)(ht:Tl t):ou iV (z++t):=by
 rcases hz with rfl | ⟨r,rfl⟩
 ·exact ht.hd kE kE
 ·intro c r e;cases e;decide +kernel
def DP(S:SC C){w:Pr}{wl t b:List Nat}(W:Jz w wl)(hb:b=[]∨b=[32])(ht:Tl t){ps:List PV}(OV:(b++(wl++t)).length≤10000)(h2:l 2=some (.str (tx (b++(wl++t)))))(h4:l 4=some (.obj j))(hH:H[j]?=some (.lst ps))(QX:ps.length≤100)(hk:∀l',l' 0=l 0→l' 1=l 1→l' 2=some (.str (tx t))→l' 4=l 4→K .next l' (H.set j (.lst (ps++[cn w])))):Xb C Lw l H K:=by
 obtain⟨⟨k,z,hw,rfl,⟨kne,kt⟩,hz⟩,W⟩:=W;have hl:(tx (b++(k++(z++t)))).length≤1000000:=by rw[cr,← Oi k];exact az OV
 have ZO:∀c∈b,i8 c=true:=by
  rcases hb with rfl | rfl
  ·nofun
  ·intro c hc;rw[NX.mp hc];decide +kernel
 rw[Oi] at h2 OV;have TJ:(b++(k++(z++t))).length≤1000000:=NT OV kD;exact aF (Ev1.rx S.t (.one (Ev1.v h2)) (S.tc _ _ (aV _ rfl hl (BA hl ZO kne kt (λc hc=>Bf (zj (kt c hc))) (EO (k:=k) hz ht))))) rfl (cM (r:=true) ((Ev1.v kU).t rfl) (λ_=>aF (Ev1.unm S (y:=z++t) kU TJ (by simp only[NP];exact eQ) (by rw[← Oi b,NP.symm,List.drop_left])) rfl (aF (Ev1.grp (y:=k) kU TJ (by rw[List.drop_left,Nat.add_sub_cancel_left,List.take_left])) rfl (Lj S W hw ht rfl (by simp only[NP] at OV ⊢;exact a8 OV) rfl (by rw[hw];rfl) (by exact h4) hH QX λl' q0 q1 q2 q4=>aA (aB (hk l' q0 q1 q2 q4))))) nofun)
def CH{k z:List Nat}(K:Ay k):ou jA (k++z)∧k++z≠[]:=by
 refine ce (OB K.ne) λc r Pt=>?_;obtain rfl:=Pt;refine⟨λd s e=>?_,by simp⟩;cases e;have h:=K.t c N3;have h1:(c==61)=false:=OG (Ct h kE);have h2:(c==59)=false:=OG (Ct h kE);unfold jA;rw[h1,h2,zj h];rfl
def Hy(S:SC C){u:List Nat}(hu:ou jA u∧u≠[])(OV:(59::32::u).length≤10000)(h2:l 2=some (.str (tx (59::32::u))))(hk:∀l',l' 0=l 0→l' 1=l 1→l' 2=some (.str (tx u))→l' 4=l 4→K .next l' H):Xb C Lw l H K:=by
 have hl:(tx (59::32::u)).length≤1000000:=by rw[cr];exact az OV
 have hf:aE (tx (59::32::u)).length=true:=au hl;refine aF (d:=.none) (Ev1.rx S.t (.one (Ev1.v h2)) (S.tc _ _ (aV _ rfl hl (rt hl (λc r e=>by cases e;decide +kernel) (λc r e=>by cases e;decide +kernel) nofun)))) rfl (cM (r:=false) ((Ev1.v kU).t rfl) nofun λ_=>?_);have s59:sp 59=false:=kE;refine cM (r:=false) ((Ev1.mth (d:=.bool false) (Ev1.mth (d:=.str (tx (59::32::u))) (Ev1.v (by exact h2)) rfl .nil ?_) rfl (.cons Ev1.c .nil) ?_).t rfl) nofun λ_=>?_
 ·show(if aE (tx (59::32::u)).length=true then some (PV.str (Txt.lstrip (tx (59::32::u)))) else none)=_;rw[hf,o4 s59];rfl
 ·show some (PV.bool (Txt.startswith (tx (59::32::u)) (tx [44])))=_;rw[oP];rfl
 refine ce (OB hu.2) λc r O8=>?_;obtain rfl:=O8;have hj:=xP (j:=[59,32]) (t:=c::r) hl (λd hd=>by
  rcases NU.mp hd with rfl | hd
  ·decide +kernel
  ·rw[NX.mp hd];decide +kernel) (by simp) hu.1 (by simp)
 have Z2:JoinOk ⟨#[]⟩ [⟨#[]⟩,tx (c::r)]=true:=iI (m:=10000) (λt ht=>by
  rcases NU.mp ht with rfl | ht
  ·exact Oc _
  ·rw[NX.mp ht,cr];simp only[NR] at OV ⊢;exact a8 OV) (by show 2*(10000+0)≤_;decide)
 have Z1:Txt.join ⟨#[]⟩ [⟨#[]⟩,tx (c::r)]=tx (c::r):=by
  rw[← fB (Txt.join ⟨#[]⟩ [⟨#[]⟩,tx (c::r)]),kG];show tx (([]:List Nat)++(((c::r).toArray.toList)++[]))=_;simp
 exact aF (d:=.tup [.str (tx (c::r)),.int 1]) (Ev1.rx S.j (.cons Ev1.c (.one (Ev1.v (by exact h2)))) (S.jc _ _ (aH (tx (59::32::c::r)) _ _ rfl hl hj ⟨(by simp),Z2,(by rw[Z1];rfl)⟩))) rfl (vx ((Ev1.cmp (Ev1.v (d:=.int 1) kU) Ev1.c (r:=true) rfl).t rfl) (aF (Ev1.v (d:=.str (tx (c::r))) kU) rfl (aB (aA (aB (aA (aB (hk _ rfl rfl rfl rfl))))))))
def C9(S:SC C){u:List Nat}{p:PV}{ps rs:List PV}(OV:(44::u).length≤10000)(h1:l 1=some (.obj 0))(h2:l 2=some (.str (tx (44::u))))(h4:l 4=some (.obj j))(hH:H[j]?=some (.lst (p::ps)))(QX:ps.length≤100)(h0:H[0]?=some (.lst rs))(Xi:rs.length≤100)(hk:∀l',l' 0=l 0→l' 1=l 1→l' 2=some (.str (tx u))→l' 4=some (.obj H.length)→K .next l' (H.set 0 (.lst (rs++[.obj j]))++[.lst []])):Xb C Lw l H K:=by
 have hl:(tx (44::u)).length≤1000000:=by rw[cr];exact az OV
 have hf:aE (tx (44::u)).length=true:=au hl;have s44:sp 44=false:=kE;refine aF (d:=.none) (Ev1.rx S.t (.one (Ev1.v h2)) (S.tc _ _ (aV _ rfl hl (rt hl (λc r e=>by cases e;decide +kernel) (λc r e=>by cases e;decide +kernel) nofun)))) rfl (cM (r:=false) ((Ev1.v kU).t rfl) nofun λ_=>?_);have strip:pK H .lstrip (.str (tx (44::u))) []=some (.str (tx (44::u))):=by
  show(if aE (tx (44::u)).length=true then some (PV.str (Txt.lstrip (tx (44::u)))) else none)=_;rw[hf,o4 s44];rfl
 refine cM (r:=true) ((Ev1.mth (d:=.bool true) (Ev1.mth (d:=.str (tx (44::u))) (Ev1.v (by exact h2)) rfl .nil strip) rfl (.cons Ev1.c .nil) ?_).t rfl) (λ_=>?_) nofun
 ·show some (PV.bool (Txt.startswith (tx (44::u)) (tx [44])))=_;rw[oP];rfl
 refine aF (d:=.str (tx u)) (Ev1.abp (Ev1.mth (d:=.str (tx (44::u))) (Ev1.v (by exact h2)) rfl .nil strip) Ev1.c ?_) rfl ?_
 ·show(if aE (tx (44::u)).length=true then some (PV.str (Txt.slice (tx (44::u)) (some 1) none)) else none)=_;rw[hf,n9 (k:=1) (n:=1) rfl (by rw[NR];exact ax)];rfl
 have ht:bB H (.obj j)=some true:=by
  show(items H (.obj j)).bind _=_;have:items H (.obj j)=some (p::ps):=by show listItems H (.obj j)=_;simp only[listItems,hH]
  rw[this];show(if aE (p::ps).length=true then some (!(p::ps).isEmpty) else none)=_;rw[au (by simp only[NR];exact a8 QX)];rfl
 refine bc (r:=true) ((Ev1.v (d:=.obj j) (by exact h4)).t ht) (λ_=>abi (by exact h1) h0 (au (az Xi)) (Ev1.v (d:=.obj j) (by exact h4)) (aB (aA (cW (aB (aA (aB (aA (aB ?_))))))))) nofun;have:=hk (upd (upd (upd l 5 .none) 2 (.str (tx u))) 4 (.obj H.length)) rfl rfl rfl rfl;rw[show(H.set 0 (.lst (rs++[.obj j]))).length=H.length from List.length_set];exact this
end
end
section
open Builtin.Re
open Rx
section
variable{wl:Pr→List Nat}
def nY(wl:Pr→List Nat)(ws:List Pr):List Nat:=ws.flatMap λw=>59::32::wl w
def mw(wl:Pr→List Nat):List Pr→List Nat
 |[]=>[]
 |w::ws=>wl w++nY wl ws
def jU(wl:Pr→List Nat)(ls:List (List Pr)):List Nat:=ls.flatMap λr=>44::32::mw wl r
def iw(wl:Pr→List Nat)(ws:List Pr)(ls:List (List Pr)):List Nat:=nY wl ws++jU wl ls
def gQ(wl:Pr→List Nat):List (List Pr)→List Nat
 |[]=>[]
 |r::ls=>mw wl r++jU wl ls
def Ep(ws:List Pr)(ls:List (List Pr)):Tl (iw wl ws ls):=λc r e=>by
 cases ws with
 |nil=>cases ls with
  |nil=>cases e
  |cons q ls=>exact .inr (by cases e;rfl)
 |cons w ws=>exact .inl (by cases e;rfl)
def vf(w:Pr)(ws:List Pr)(ls:List (List Pr)):iw wl (w::ws) ls=59::32::(wl w++iw wl ws ls):=by
 show(59::32::(wl w++nY wl ws))++jU wl ls=_;simp[iw]
def tW(w:Pr)(ws:List Pr)(ls:List (List Pr)):iw wl [] ((w::ws)::ls)=44::([32]++(wl w++iw wl ws ls)):=by
 show([]:List Nat)++((44::32::(wl w++nY wl ws))++jU wl ls)=_;simp[iw]
noncomputable def Rows(H:AH)(n:Nat):List Nat→List (List Pr)→Prop
 |[],rs=>rs=[]
 |j::js,rs=>∃r rest,rs=r::rest∧(0<j∧j<n)∧H[j]?=some (.lst (r.map cn))∧Rows H n js rest
def Rows.keep(h:∀j x,0<j→j<n→H[j]?=some x→j<n'∧H'[j]?=some x):∀{js:List Nat}{rs:List (List Pr)},Rows H n js rs→Rows H' n' js rs:=by
 intro js;induction js with
 |nil=>
  intro _ q;exact q
 |cons j js ihr=>
  intro _ q;exact q.imp λr=>.imp λrest q=>aS q.1 ⟨q.2.1.1,(h j _ q.2.1.1 q.2.1.2 q.2.2.1).1⟩ ((h j _ q.2.1.1 q.2.1.2 q.2.2.1).2) (ihr q.2.2.2)
def Rows.snoc{r:List Pr}(hi:0<i∧i<n)(hr:H[i]?=some (.lst (r.map cn))):∀{js:List Nat}{rs:List (List Pr)},Rows H n js rs→Rows H n (js++[i]) (rs++[r]):=by
 intro js;induction js with
 |nil=>
  intro _ q;cases q;exact bL r [] rfl hi hr rfl
 |cons j js ihr=>
  intro _ q;exact q.imp λa=>.imp' (·++[r]) λrest q=>aS (by rw[q.1];rfl) q.2.1 q.2.2.1 (ihr q.2.2.2)
def Rows.len:∀{js:List Nat}{rs:List (List Pr)},Rows H n js rs→js.length=rs.length:=by
 intro js;induction js with
 |nil=>
  intro _ q;cases q;rfl
 |cons j js ihr=>
  intro _ q;refine aP q λr rest O8 Qe=>?_;obtain rfl:=O8;refine bV Qe λ_ _ q=>N2 Nat.succ (ihr q)
def Rows.res:∀{js:List Nat}{rs:List (List Pr)},Rows H n js rs→cg (fg H 2) (js.map .obj)=some (rs.map bT):=by
 intro js;induction js with
 |nil=>
  intro _ q;cases q;rfl
 |cons j js ihr=>
  intro _ q;refine aP q λr rest PA QW=>?_;obtain rfl:=PA;refine bV QW λ_ h q=>?_;have e:fg H 2 j=some (bT r):=by
   show(listItems H (.obj j)).bind (λl=>(cg (fg H 1) l).map PV.lst)=_;rw[show listItems H (.obj j)=some (r.map cn) by simp only[listItems,h]];show(cg (fg H 1) (r.map cn)).map PV.lst=_;rw[nB (b0 s5 r)];rfl
  show(fg H 2 j).bind (λe=>(cg (fg H 2) (js.map .obj)).map λes=>e::es)=_;rw[e,ihr q];rfl
end
structure qh(wl:Pr→List Nat)(g:List (List Pr)):Prop where
 w:∀r∈g,∀w∈r,Jz w (wl w)
 r:∀r∈g,r≠[]∧r.length≤50
 n:g.length≤50
 l:(gQ wl g).length≤9000
section
variable{wl:Pr→List Nat}
def vd{w:Pr}{z:List Nat}(h:Jz w z)(t:List Nat):ou jA (z++t)∧z++t≠[]:=by
 obtain⟨⟨k,y,_,rfl,K,_⟩,_⟩:=h;rw[Oi];exact CH K
structure Jn(wl:Pr→List Nat)(a0:PV)(full:List (List Pr))(a:Bool)(done:List (List Pr))(pre ws:List Pr)(ls:List (List Pr))(txt:List Nat)(js:List Nat)(jp:Nat)(l:Loc)(H:AH):Prop where
 l0:l 0=some a0
 l1:l 1=some (.obj 0)
 l2:l 2=some (.str (tx txt))
 l4:l 4=some (.obj jp)
 h0:H[0]?=some (.lst (js.map .obj))
 hp:H[jp]?=some (.lst (pre.map cn))
 pos:0<jp
 rows:Rows H jp js done
 full:done++(pre++ws)::ls=full
 wk:∀w∈ws,Jz w (wl w)
 lk:∀r∈ls,r≠[]∧∀w∈r,Jz w (wl w)
 len:txt.length≤10000
 txt:(a=true∧∃b w Uy,ws=w::Uy∧(b=[]∨b=[32])∧txt=b++(wl w++iw wl Uy ls))∨(a=false∧pre≠[]∧txt=iw wl ws ls)
def Mq(wl:Pr→List Nat)(a0:PV)(full:List (List Pr))(n:Nat)(l:Loc)(H:AH):Prop:=∃a done pre ws ls txt js jp,txt.length=n∧Jn wl a0 full a done pre ws ls txt js jp l H
def IK(S:SC C){a0:PV}{full:List (List Pr)}(YP:full.length≤60)(WT:∀r∈full,r.length≤50)(I:Mq wl a0 full n l H)(hn:n≠0)(hk:∀l' H' m,m<n→Mq wl a0 full m l' H'→K .next l' H'):Xb C Lw l H K:=by
 obtain⟨a,done,pre,ws,ls,txt,js,jp,rfl,I⟩:=I;have hm:∀r:List Pr,r∈full→r.length≤50:=WT;have Pj:(pre++ws).length≤50:=hm _ (by rw[I.full.symm];simp);have Vm:done.length≤60:=by rw[← I.full,NP] at YP;exact a8 YP
 rw[NP] at Pj;rcases I.txt with ⟨rfl,b,w,Uy,rfl,hb,ht⟩ | ⟨rfl,PH,ht⟩
 ·have Sd:=I.l2;have OV:=I.len;rw[ht] at Sd OV;refine DP S (I.wk w N3) hb (Ep Uy ls) OV Sd I.l4 I.hp (by rw[NO];exact a8 Pj) λl' q0 q1 q2 q4=>hk l' _ _ ?_ ⟨false,done,pre++[w],Uy,ls,_,js,jp,rfl,q0.trans I.l0,q1.trans I.l1,q2,q4.trans I.l4,?_,?_,I.pos,?_,?_,λx hx=>I.wk x (Oa _ hx),I.lk,?_,.inr ⟨rfl,by simp,rfl⟩⟩
  ·rw[ht];have:=List.length_pos_iff.mpr (vd (I.wk w N3) []).2;simp only[NP,List.length_nil] at this ⊢;exact a8 this
  ·rw[List.getElem?_set_ne (by have:=I.pos;exact aw this)];exact I.h0
  ·rw[List.getElem?_set_self (Og.mp I.hp).1,cy]
  ·exact I.rows.keep λj x h1 h2 e=>⟨h2,by rw[List.getElem?_set_ne (aw h2)];exact e⟩
  ·rw[I.full.symm,Oi];rfl
  ·simp only[NP] at OV ⊢;exact a8 OV
 ·cases ws with
  |cons w ws=>
   have Sd:=I.l2;have OV:=I.len;rw[ht,vf] at Sd OV;refine Hy S (vd (I.wk w N3) _) OV Sd λl' q0 q1 q2 q4=>hk l' _ _ ?_ ⟨true,done,pre,w::ws,ls,_,js,jp,rfl,q0.trans I.l0,q1.trans I.l1,q2,q4.trans I.l4,I.h0,I.hp,I.pos,I.rows,I.full,I.wk,I.lk,?_,.inl ⟨rfl,[],w,ws,rfl,.inl rfl,rfl⟩⟩
   ·rw[ht,vf];simp only[NR];exact eQ
   ·simp only[NR] at OV ⊢;exact a8 OV
  |nil=>
   cases ls with
   |nil=>exact absurd (by rw[ht];rfl) hn
   |cons r ls=>
    refine aU (I.lk r N3) λhr hw=>ce (OB hr) λw ws PI=>?_;obtain rfl:=PI;refine ce (OB PH) λp0 O7 P2=>?_;obtain rfl:=P2;have Sd:=I.l2;have OV:=I.len;rw[ht,tW] at Sd OV;have TH:=(Og.mp I.hp).1;have Rm:∀j x,0<j→H[j]?=some x→(H.set 0 (.lst (js.map .obj++[.obj jp]))++[.lst []])[j]?=some x:=λj x h1 e=>by
     rw[Ow (by rw[List.length_set];exact(Og.mp e).1),List.getElem?_set_ne (av h1)];exact e
    refine C9 S OV I.l1 Sd I.l4 I.hp (by rw[NO];simp only[NR] at Pj;exact a8 Pj) I.h0 (by rw[NO,I.rows.len];exact az Vm) λl' q0 q1 q2 q4=>hk l' _ _ ?_ ⟨true,done++[p0::O7],[],w::ws,ls,_,js++[jp],H.length,rfl,q0.trans I.l0,q1.trans I.l1,q2,q4,?_,?_,a8 TH,?_,?_,hw,λx hx=>I.lk x (Oa _ hx),?_,.inl ⟨rfl,[32],w,ws,rfl,.inr rfl,rfl⟩⟩
    ·rw[ht,tW];simp only[NR];exact eQ
    ·rw[Ow (by rw[List.length_set];exact a8 TH),List.getElem?_set_self (a8 TH),cy]
    ·have:=eT (H.set 0 (.lst (js.map .obj++[.obj jp]))) (.lst []);rw[List.length_set] at this;exact this
    ·refine Rows.snoc ⟨I.pos,TH⟩ (Rm _ _ I.pos I.hp) (I.rows.keep λj x h1 h2 e=>⟨bu h2 TH,Rm j x h1 e⟩)
    ·rw[I.full.symm];simp
    ·simp only[NR] at OV ⊢;exact a8 OV
theorem Je(S:SC C){a0:PV}{done g:List (List Pr)}{js:List Nat}(T:qh wl g)(PH:g≠[])(hd:(done++g).length≤60)(Q1:∀r∈done,r.length≤50)(h0:l 0=some a0)(h1:l 1=some (.obj 0))(h2:l 2=some (.str (tx (gQ wl g))))(YG:H[0]?=some (.lst (js.map .obj)))(hR:Rows H H.length js done)(hk:∀l' H' Us,l' 0=some a0→l' 1=some (.obj 0)→H'[0]?=some (.lst (Us.map .obj))→Rows H' H'.length Us (done++g)→K .next l' H'):Xb C Ng l H K:=by
 refine ce (OB PH) λr ls Qd=>?_;obtain rfl:=Qd;refine ce (OB (T.r r N3).1) λw ws Qh=>?_;obtain rfl:=Qh;have QM:∀r∈done++(w::ws)::ls,r.length≤50:=λr hr=>(Ot.mp hr).elim (Q1 r) λh=>(T.r r h).2;have RU:0<H.length:=(Og.mp YG).1;refine aF (d:=.str (tx (gQ wl ((w::ws)::ls)))) (Ev1.v h2) rfl (cW (H:=H) (mE (ak (Mq wl a0 (done++(w::ws)::ls)) ⟨_,true,done,[],w::ws,ls,gQ wl ((w::ws)::ls),js,H.length,rfl,by exact h0,by exact h1,by exact h2,rfl,?_,eT H (.lst []),RU,?_,rfl,λx hx=>T.w _ N3 x hx,λx hx=>⟨(T.r x (Oa _ hx)).1,T.w x (Oa _ hx)⟩,NT T.l kD,.inl ⟨rfl,[],w,ws,rfl,.inl rfl,?_⟩⟩ ?_)))
 ·rw[Ow RU];exact YG
 ·exact hR.keep λj x h1 h2 e=>⟨h2,by rw[Ow h2];exact e⟩
 ·show(wl w++nY wl ws)++jU wl ls=_;simp[iw]
 ·refine λn l' H' I=>bh (id I) λa dn pre Uy Q7=>bl Q7 λXt txt Us jp hn I'=>(Ev1.v (d:=.str (tx txt)) (by exact I'.l2)).t (r:=txt.length !=0) (by rw[Ab (au (by rw[cr];have:=I'.len;exact az this)),cr]) |>.run _ ?_;by_cases q:txt.length=0
  ·rw[q,show((0:Nat) !=0)=false from rfl];have e:txt=[]:=List.eq_nil_of_length_eq_zero q;rcases I'.txt with ⟨rfl,b,w',ws2,rfl,hb,ht⟩ | ⟨rfl,PH,ht⟩
   ·exact absurd (e▸ht).symm (by
     have:=(vd (I'.wk w' N3) (iw wl ws2 Xt)).2;simp only[ne_eq,List.append_eq_nil_iff,not_and] at this ⊢;exact λ_=>this)
   ·rw[e] at ht;cases Uy with
    |cons x y=>rw[vf] at ht;cases ht
    |nil=>
     cases Xt with
     |cons r' Xt=>
      refine aU (I'.lk r' N3) λhr _=>ce (OB hr) λx y Pm=>?_;obtain rfl:=Pm;rw[tW] at ht;cases ht
     |nil=>
      have RF:=I'.full;rw[N6] at RF;refine ce (OB PH) λp0 O7 PY=>?_;obtain rfl:=PY;have TH:=(Og.mp I'.hp).1;have Z4:(p0::O7).length≤50:=QM _ (by rw[RF.symm];simp);have Sd:dn.length≤60:=by rw[← RF,NP] at hd;exact a8 hd
      have ht':bB H' (.obj jp)=some true:=by
       show(items H' (.obj jp)).bind _=_;have:items H' (.obj jp)=some ((p0::O7).map cn):=by show listItems H' (.obj jp)=_;simp only[listItems,I'.hp]
       rw[this];show(if aE ((p0::O7).map cn).length=true then some _ else none)=_;rw[au (by rw[NO];exact az Z4)];rfl
      refine aA (bc (r:=true) ((Ev1.v (d:=.obj jp) (by exact I'.l4)).t ht') (λ_=>abi (by exact I'.l1) I'.h0 (au (by rw[NO,I'.rows.len];exact az Sd)) (Ev1.v (d:=.obj jp) (by exact I'.l4)) (aB (aA (aB (hk _ _ (Us++[jp]) I'.l0 I'.l1 ?_ ?_))))) nofun)
      ·rw[List.getElem?_set_self (Og.mp I'.h0).1,cy]
      ·have Rm:∀j x,0<j→H'[j]?=some x→(H'.set 0 (.lst (Us.map .obj++[.obj jp])))[j]?=some x:=λj x h1 e=>by rw[List.getElem?_set_ne (av h1)];exact e
       rw[RF.symm];exact Rows.snoc ⟨I'.pos,by rw[List.length_set];exact TH⟩ (Rm _ _ I'.pos I'.hp) (I'.rows.keep λj x h1 h2 e=>⟨by rw[List.length_set];exact bu h2 TH,Rm j x h1 e⟩)
  ·rw[show(txt.length !=0)=true from bne_iff_ne.mpr q];exact(IK S hd QM I (by lia) λl2 H2 m hm I2=>⟨m,hm,I2⟩).run
end
end
section
open Builtin.Re
open Rx
def MA(S:SC C){wl:Pr→List Nat}{gs:List (List (List Pr))}(T:∀g∈gs,qh wl g∧g≠[])(hn:gs.flatten.length≤60)(hg:gs.length≤60):fnW C Mf.1 [.lst (gs.map λg=>.str (tx (gQ wl g)))] (·=bj gs.flatten):=by
 refine ft ?_ ?_
 ·show(cQ (gs.map λg=>.str (tx (gQ wl g)))&&true)=true;rw[b0 (λ_=>rfl)];rfl
 refine vx ((Ev1.not (r:=false) ((Ev1.bi (d:=.bool false) (.cons Ev1.v (.one (Ev1.gv S.ty))) rfl).t rfl)).t rfl) (cW (da (ds:=gs.map λg=>.str (tx (gQ wl g))) Ev1.v rfl (au (by rw[NO];exact az hg)) (cK (λ(r:List (List (List Pr))) l' H'=>∃(dg:List (List (List Pr)))(js:List Nat),gs=dg++r∧l' 0=some (.lst (gs.map λg=>.str (tx (gQ wl g))))∧l' 1=some (.obj 0)∧H'[0]?=some (.lst (js.map .obj))∧Rows H' H'.length js dg.flatten) ?_ ?_ _ _ _ (aJ [] [] rfl rfl rfl rfl rfl))))
 ·rintro g r l2 H2 ⟨dg,js,e,h0,h1,hH,hR⟩ X hX;refine ak _ rfl (aU (T g (by rw[e];simp)) λTg PH=>?_);have Rj:(dg.flatten++g).length≤60:=by rw[e] at hn;simp only[List.flatten_append,List.flatten_cons,NP] at hn ⊢;exact a8 hn
  have Q1:∀r∈dg.flatten,r.length≤50:=λr hr=>by
   exact ay (List.mem_flatten.mp hr) λg' ZW hr=>((T g' (by rw[e];exact List.mem_append_left _ ZW)).1.r r hr).2
  exact Je S Tg PH Rj Q1 (by exact h0) (by exact h1) kU hH hR λl' H' Us q0 q1 q2 q3=>(hX _ _ (aJ (dg++[g]) Us (by rw[e,Oi];rfl) q0 q1 q2 (by rw[List.flatten_append,List.flatten_cons,List.flatten_nil,N6];exact q3))).1
 ·rintro l2 H2 ⟨dg,js,e,h0,h1,hH,hR⟩;rw[N6] at e;subst e;refine aA (ct (d:=.obj 0) (Ev1.v (by exact h1)) (aQ (d:=bj gs.flatten) ?_ rfl));show(listItems H2 (.obj 0)).bind (λl=>(cg (fg H2 2) l).map PV.lst)=_;rw[show listItems H2 (.obj 0)=some (js.map .obj) by simp only[listItems,hH]];show(cg (fg H2 2) (js.map .obj)).map PV.lst=_;rw[hR.res];rfl
end
section
open Builtin.Re
open Rx
section
variable{m:Str}{R:List PV→PV→Prop}
def j8(h:R ds d):(C.rx x m R).x x m ds d:=.inl ⟨⟨rfl,rfl⟩,h⟩
def de{k:Str}(h:¬(y=x∧k=m))(q:C.x y k ds d):(C.rx x m R).x y k ds d:=.inr ⟨h,q⟩
end
def C4:cu:=((((((C3.rx "HEADER_TOKEN_RE" "search" (qK (λT L=>Sre.forSearch eU T 1 0 L false) 1)).rx "HEADER_QUOTED_VALUE_RE" "search" (qK (λT L=>Sre.forSearch bA T 1 0 L false) 1)).rx "HEADER_VALUE_RE" "search" (qK (λT L=>Sre.forSearch eG T 1 0 L false) 1)).rx
 "_twin_re_7" "subn" (z3 fu 0)).sb "HEADER_ESCAPE_RE" ll yK (EF gT ⟨#[]⟩)).rx "HEADER_JOIN_TOKEN_RE" "fullmatch" (qK (λT L=>Sre.forMatch uK T 0 0 L true false) 0)).sb "HEADER_JOIN_ESCAPE_RE" g5 oR (EF lR (tx [92]))
def FX:iR L9 ⟨#[]⟩:=by
 have h:iR ⟨default,default,default,L9.me⟩ ⟨#[]⟩:=by
  rw[show L9.me=.bin .add (.c (.str ⟨#[]⟩) 0 (U 29 60 62)) (.or (.mth .group (.v 0 (U 29 66 68)) (U 29 66 74) (.cons (.c (.int 1) 0 (U 29 75 76)) .nil) (U 29 66 77)) (.c (.str ⟨#[]⟩) 0 (U 29 81 83)) (U 29 66 83)) (U 29 60 84) by kernel_rfl];exact sP (Oc _)
 exact h
def zU:iR Mg (tx [92]):=by
 have h:iR ⟨default,default,default,Mg.me⟩ (tx [92]):=by
  rw[show Mg.me=.bin .add (.c (.str (tx [92])) 0 (U 60 61 65)) (.or (.mth .group (.v 0 (U 60 69 71)) (U 60 69 77) (.cons (.c (.int 1) 0 (U 60 78 79)) .nil) (U 60 69 80)) (.c (.str ⟨#[]⟩) 0 (U 60 84 86)) (U 60 69 86)) (U 60 61 87) by kernel_rfl];exact sP kD
 exact h
def zv(L:Laid S):ah S 9 C4:=by
 have h:=(AF L).rx (m:="search") (L.glob (n:="HEADER_TOKEN_RE") (v:=.ref 55) kR) (fY (we L) ei ij) (gi (we L));have h:=h.rx (m:="search") (L.glob (n:="HEADER_QUOTED_VALUE_RE") (v:=.ref 60) kR) (fY (wF L) ei ij) (gi (wF L));have h:=h.rx (m:="search") (L.glob (n:="HEADER_VALUE_RE") (v:=.ref 65) kR) (fY (wg L) ei ij) (gi (wg L));have h:=h.rx (m:="subn") (L.glob (n:="_twin_re_7") (v:=.ref 43) kR) (fY (sW L) ku yu) (uL (sW L));have h:=h.sb (x:="HEADER_ESCAPE_RE") L (Mo L) (EN L) (L.glob kR) kD FX;have h:=h.rx (m:="fullmatch") (L.glob (n:="HEADER_JOIN_TOKEN_RE") (v:=.ref 82) kR) (fY (BM L) jr uj) (rK (BM L));exact h.sb (x:="HEADER_JOIN_ESCAPE_RE") L (K9 L) (HH L) (L.glob kR) kD zU
def fU:yP C4:=i7
def C5:cu:=C4.fn "unmatched" R4
def Bu(L:Laid S):ah S 10 C5:=
 ah.add (zv L) L fU (MI S.w) bR (by rintro _ _ ⟨x,n,r,rfl,hx,hn,rfl⟩;exact⟨rfl,MM hx hn⟩)
def J3:SC C5 where
 t:=kR
 tc ds d h:=de kD (de kD (de kD (de kD (j8 h))))
 q:=kR
 qc ds d h:=de kD (de kD (de kD (j8 h)))
 v:=kR
 vc ds d h:=de kD (de kD (j8 h))
 j:=kR
 jc ds d h:=de kD (j8 h)
 e:=.inr (.inl ⟨rfl,rfl,rfl⟩)
 ec y d h:=.inr ⟨λq=>absurd q.1 kD,.inl ⟨⟨rfl,rfl,rfl⟩,h⟩⟩
 u:=kR
 uc ds d h:=bq h
 ty:=jS "str" kD
def JZ:JC C5 where
 f:=kR
 fc v hv:=by
  exact ay (E9 v (NT hv kD)) λd h ht=>ak d (j8 (aV v rfl (NT hv kD) h)) ht
 s:=.inl ⟨rfl,rfl,rfl⟩
 sc v hv:=by
  refine cA (DO (NT hv kD) v.length v.cps.toList [] (by rw[N7];exact Oe _) rfl) λts k H hf F=>aU (F.ok (by rw[N7];have:v.cps.size≤20:=hv;exact bu this this)) λf1 f2=>.inl ⟨⟨rfl,rfl,rfl⟩,v,ts,k,rfl,NT hv kD,H,f1,f2,?_⟩;rw[← fB (Txt.join ⟨#[]⟩ ts),kG,hf];rfl
def MV(ds:List PV)(d:PV):Prop:=∃rs,uz rs∧ds=[bj rs]∧d=.str (g1 rs)
def R9(ds:List PV)(d:PV):Prop:=∃(wl:Pr→List Nat)(gs:List (List (List Pr))),(∀g∈gs,qh wl g∧g≠[])∧gs.flatten.length≤60∧gs.length≤60∧ds=[.lst (gs.map λg=>.str (tx (gQ wl g)))]∧d=bj gs.flatten
def C6:cu:=(C5.fn "join_header_words" MV).fn "split_header_words" R9
def zh(L:Laid S):ah S 12 C6:=by
 refine ah.add (ah.add (Bu L) L fU (GN S.w) bR ?_) L fU (Kj S.w) bR ?_
 ·rintro _ _ ⟨rs,T,rfl,rfl⟩;exact⟨rfl,KV JZ T⟩
 ·rintro _ _ ⟨wl,gs,T,h1,h2,rfl,rfl⟩;have Sc:SC (C5.fn "join_header_words" MV):={J3 with u:=by kernel_rfl,uc:=λds d h=>aj kD (bq h)};exact⟨rfl,MA Sc T h1 h2⟩
def M9(ds:List PV)(d:PV):Prop:=∃k:Nat,k<7∧ds=[.int k]∧d=.str (af k)
def M'(ds:List PV)(d:PV):Prop:=∃(x:Int)(n:Nat),n≤1000∧ds=[.int x,.int n]∧d=.lst ((bJ x n).map λ(k:Nat)=>.int k)
def NC(ds:List PV)(d:PV):Prop:=∃x:Int,ds=[.int x]∧d=aK (oct x)
def NL(ds:List PV)(d:PV):Prop:=ds=[]∧d=.str signs
def NK(ds:List PV)(d:PV):Prop:=∃o:List Nat,o.length=3∧(∀a∈o,a<256)∧ds=[aK o]∧d=.str (bw o)
def Nt(ds:List PV)(d:PV):Prop:=∃a b:List Nat,a.length=3∧b.length=3∧ds=[aK a,aK b]∧d=aK (cL a b)
def C7:cu:=(((((C6.fn "_law_name" M9).fn "_law_needs" M').fn "_law_octets" NC).fn "_law_signs" NL).fn "_law_coded" NK).fn "_law_sum" Nt
def AV(L:Laid S):ah S 18 C7:=by
 refine ah.add (ah.add (ah.add (ah.add (ah.add (ah.add (zh L) L fU (LW S.w) bR ?_) L fU (KB S.w) (KA S.w) ?_) L fU (Ma S.w) (LN S.w) ?_) L fU (KD S.w) (Di kR) ?_) L fU (KO S.w) bR ?_) L fU (Lq S.w) iH ?_
 ·rintro _ _ ⟨k,h,rfl,rfl⟩;exact⟨rfl,LT _ k h⟩
 ·rintro _ _ ⟨x,n,h,rfl,rfl⟩;exact⟨rfl,KU _ x n h⟩
 ·rintro _ _ ⟨x,rfl,rfl⟩;have:=JY (((C6.fn "_law_name" M9).fn "_law_needs" M')) x;rw[DK] at this;exact⟨rfl,this⟩
 ·rintro _ _ ⟨rfl,rfl⟩;exact⟨rfl,JR _⟩
 ·rintro _ _ ⟨o,h1,h2,rfl,rfl⟩;revert h2;exact g4 h1 λa b c h2=>⟨rfl,JQ kR (bq ⟨rfl,rfl⟩) (h2 a (by simp)) (h2 b (by simp)) (h2 c (by simp))⟩
 ·rintro _ _ ⟨a,b,h1,h2,rfl,rfl⟩;exact⟨rfl,KY h1 h2⟩
def BS:LC C7 where
 n:=kR
 nc k h:=aj kD (aj kD (aj kD (aj kD (aj kD (bq (aV k h rfl rfl))))))
 d:=kR
 dc x n h:=aj kD (aj kD (aj kD (aj kD (bq (aN x n h rfl rfl)))))
 o:=kR
 oc x:=aj kD (aj kD (aj kD (bq (ak x rfl rfl))))
 c:=kR
 cc o h1 h2:=aj kD (bq (cb o h1 h2 rfl rfl))
 s:=kR
 sc:=aj kD (aj kD (bq ⟨rfl,rfl⟩))
 u:=kR
 uc a b h1 h2:=bq (bL a b h1 h2 rfl rfl)
end
section
open Builtin.Re
open Rx
noncomputable def ej:List Str:=["_law_name","_law_needs","_law_octets","_law_coded","_law_signs","_law_sum"]
theorem LC.fn(A:LC C){R:List PV→PV→Prop}(h:ej.all (λy=>!(y==x))=true):LC (C.fn x R):=by
 have ne:∀y∈ej,y≠x:=λy hy e=>by
  have:=Ob.mp h y hy;rw[e] at this;simp at this
 have fa:∀y,C.fa y=true→(C.fn x R).fa y=true:=λy q=>On.mpr (.inr q);exact⟨fa _ A.n,λk q=>aj (ne _ (by simp[ej])) (A.nc k q),fa _ A.d,λx n q=>aj (ne _ (by simp[ej])) (A.dc x n q),fa _ A.o,λx=>aj (ne _ (by simp[ej])) (A.oc x),fa _ A.c,λo h1 h2=>aj (ne _ (by simp[ej])) (A.cc o h1 h2),
  fa _ A.s,aj (ne _ (by simp[ej])) A.sc,fa _ A.u,λa b h1 h2=>aj (ne _ (by simp[ej])) (A.uc a b h1 h2)⟩
def Nj(ds:List PV)(d:PV):Prop:=∃ns:List Int,ns.length≤7∧ds=[bn ns]∧d=bj (rowsOf ns)
def Nn(ds:List PV)(d:PV):Prop:=∃rs,HP rs∧ds=[bj rs]∧d=.str (gB rs)
def C8:cu:=(C7.fn "_law_rows" Nj).fn "_law_text" Nn
def Cd(L:Laid S):ah S 20 C8:=by
 refine ah.add (ah.add (AV L) L fU (Lu S.w) bR ?_) L fU (Lo S.w) bR ?_
 ·rintro _ _ ⟨ns,h,rfl,rfl⟩;exact⟨rfl,J4 BS h⟩
 ·rintro _ _ ⟨rs,T,rfl,rfl⟩;exact⟨rfl,JH (BS.fn kD) T⟩
def GJ:LC C8:=(BS.fn kD).fn kD
def qu{R:List PV→PV→Prop}:(C.fn x R).fa x=true:=by show(x==x||C.fa x)=true;rw[beq_self_eq_true];rfl
noncomputable def CE:Nat→cu
 |0=>C8.fn "_law_ends" λ_ _=>False
 |k+1=>(CE k).fn "_law_ends" (I0 (k+1))
theorem CR:∀k,yP (CE k)
 |0=>fU
 |k+1=>CR k
def BF:∀k,LC (CE k):=by
 intro k;induction k with
 |zero=>
  exact GJ.fn kD
 |succ k ihr=>
  exact(ihr).fn kD
def GE:∀k,(CE k).fa "_law_ends"=true
 |0=>qu
 |k+1=>qu
def Kt:∀k ds d,I0 k ds d→(CE k).f "_law_ends" ds d:=by
 intro k;cases k with
 |zero=>exact λds d h=>h.elim λ_ h=>h.elim λ_ h=>h.2.2.1.elim
 |succ k=>exact λ_ _ h=>bq h
def Bp(L:Laid S):∀k,ah S (21+k) (CE k):=by
 intro k;induction k with
 |zero=>
  exact ah.add (Cd L) L fU (GH S.w) iH λ_ _ h=>h.elim
 |succ k ihr=>
  exact ah.add (ihr) L (CR k) (GH S.w) iH λds d h=>KW (BF k) (GE k) (Kt k) h
def Nf(ds:List PV)(d:PV):Prop:=∃ns:List Int,ns.length≤7∧ds=[bn ns]∧d=.lst [.bool (decide ((cj ns).2.length<ns.length)),.lst ((cj ns).1.map bK)]
def H5:cu:=(CE 8).fn "_law_due" Nf
def ya(L:Laid S):ah S 30 H5:=
 ah.add (Bp L 8) L (CR 8) (Lf S.w) bR (by rintro _ _ ⟨ns,h,rfl,rfl⟩;exact⟨rfl,L7 (BF 8) (GE 8) (Kt 8) h⟩)
end
section
open Builtin.Re
open Rx
noncomputable def ot(c:Nat)(z:List Nat)(k:Nat):List Nat:=if k=c then z else[k]
def rT(c:Nat)(z:List Nat):∀l:List Nat,c∉l→l.flatMap (ot c z)=l:=by
 intro l;induction l with
 |nil=>
  exact λ_=>rfl
 |cons k r ihr=>
  intro h;have h1:¬k=c:=λe=>h (e▸N3 ..);rw[OD,ihr λm=>h (Oa _ m)];unfold ot;rw[NY h1];rfl
theorem qY(c:Nat)(z:Str):∀parts:List Str,(∀p∈parts,c∉p.cps.toList)→(Str.join ⟨#[c]⟩ parts).cps.toList.flatMap (ot c z.cps.toList)=(Str.join z parts).cps.toList
 |[],_=>rfl
 |[p],h=>rT c _ _ (h p (NX.mpr rfl))
 |p::q::r,h=>by
  have ih:=qY c z (q::r) λa ha=>h a (Oa _ ha);show(p++⟨#[c]⟩++Str.join ⟨#[c]⟩ (q::r)).cps.toList.flatMap _=(p++z++Str.join z (q::r)).cps.toList;simp only[Str.cps_append,OO,List.flatMap_append];rw[ih,rT c _ _ (h p (N3 ..))];simp[ot]
def gL(x z:Str)(c:Nat):(Txt.replace x ⟨#[c]⟩ z).cps.toList=x.cps.toList.flatMap (ot c z.cps.toList):=by
 rw[StrLaws.replace_one,← qY c z _ (StrLaws.split_free x c),StrLaws.join_split]
def vZ(v:Str):lw v=gu v:=by
 have e:(lw v).cps.toList=v.cps.toList.flatMap dU:=by
  show(Txt.replace (Txt.replace v ⟨#[92]⟩ ⟨#[92,92]⟩) ⟨#[34]⟩ ⟨#[92,34]⟩).cps.toList=_;rw[gL,gL,List.flatMap_assoc];congr 1;funext k;unfold ot dU;by_cases h1:k=92
  ·subst h1;rfl
  ·rw[NY h1];by_cases h2:k=34
   ·subst h2;rfl
   ·rw[NY (by simp[h1,h2])];simp[h2]
 rw[← fB (lw v),e];rfl
def IH(v:Str):(Txt.replace v "\\" "\\\\").length≤2*v.length:=by
 have e:(Txt.replace v ⟨#[92]⟩ ⟨#[92,92]⟩).cps.toList=v.cps.toList.flatMap (ot 92 [92,92]):=gL ..;have h:∀l:List Nat,(l.flatMap (ot 92 [92,92])).length≤2*l.length:=λl=>by
  induction l with
  |nil=>exact Oe _
  |cons k r ih=>
   rw[OD,NP,NR];have:(ot 92 [92,92] k).length≤2:=by unfold ot;split<;>simp
   exact bu this ih
 show(Txt.replace v ⟨#[92]⟩ ⟨#[92,92]⟩).cps.size≤2*v.cps.size;rw[N7.symm,← N7 (xs:=v.cps),e];exact h _
def w8(l:List Nat):(l.flatMap dU).length≤2*l.length:=by
 induction l with
 |nil=>exact Oe _
 |cons k r ih=>
  rw[OD,NP,NR];have:(dU k).length≤2:=by unfold dU;split<;>simp
  exact bu this ih
structure jQ(v:Str):Prop where
 ne:v.cps.toList≠[]
 len:v.length≤20
 same:∀c∈v.cps.toList,Txt.contains eO ⟨#[c]⟩=fq c
 ok:∀c∈v.cps.toList,c≠10∧PyData.strOk ⟨#[c]⟩=true
 shape:(∀c∈v.cps.toList,jv c=false)∨∃u c w,v.cps.toList=u++c::w∧(∀x∈u,jv x=false)∧(∀x∈w,jv x=false)∧jv c=true
structure gJ(p:Pr):Prop where
 k:Ay p.1.cps.toList
 kl:p.1.length≤20
 ks:PyData.strOk p.1=true
 v:∀v,p.2=some v→jQ v
def w0{c:Nat}(h:fq c=true):ow c=true∧c≠34:=(by decide +kernel:∀c,c<256→fq c=true→ow c=true∧c≠34) c (oE h) h
section
variable{p:Pr}
theorem jQ.bare{v:Str}(V:jQ v):Internal.bare v=nx v:=by
 have h:v.cps.toList.all (λc=>Txt.contains eO ⟨#[c]⟩)=v.cps.toList.all fq:=by
  rw[Bool.eq_iff_iff,Ob,Ob];exact⟨λh c hc=>by rw[← V.same c hc];exact h c hc,λh c hc=>by rw[V.same c hc];exact h c hc⟩
 unfold Internal.bare nx;rw[h];cases q:v.cps.toList with
 |nil=>exact absurd q V.ne
 |cons=>rfl
def gJ.word(P:gJ p):iC p=fG p:=by
 obtain⟨key,v⟩:=p;cases v with
 |none=>rfl
 |some v=>
  show key++("=":Str)++(if nx v=true then v else cB (gu v))=if Internal.bare v=true then key++("=":Str)++v else key++("=\"":Str)++lw v++("\"":Str);rw[(P.v v rfl).bare,vZ];by_cases h:nx v=true
  ·rw[N1 h,N1 h]
  ·rw[NY h,NY h];unfold cB;show(⟨(key.cps++#[61])++((#[34]++(gu v).cps)++#[34])⟩:Str)=⟨((key.cps++#[61,34])++(gu v).cps)++#[34]⟩;congr 1;simp[← Array.toList_inj]
def gJ.ab8(P:gJ p):vA p∧vT p:=by
 have q:∀v,p.2=some v→v.length≤20∧(gu v).length≤60:=λv h=>by
  have V:=P.v v h;refine⟨V.len,?_⟩;show(tx (v.cps.toList.flatMap dU)).length≤60;rw[cr];have h1:=w8 v.cps.toList;have h2:v.cps.toList.length=v.cps.size:=N7;have:v.cps.size≤20:=V.len;exact Hj h1 (aq h2) (aq h2) (Nat.add_le_add this this)
 exact⟨⟨P.kl,λv h=>aS ((q v h).1) (ph (IH v) (q v h).1 (q v h).1) (by rw[vZ];exact(q v h).2) (λc hc=>((P.v v h).ok c hc).2)⟩,⟨P.kl,q⟩⟩
def mr(p:Pr):List Nat:=(iC p).cps.toList
def gJ.wok(P:gJ p):Jz p (mr p):=by
 obtain⟨key,v⟩:=p;have hk:tx key.cps.toList=key:=fB key;cases v with
 |none=>exact⟨bL key.cps.toList [] hk.symm ((N6 _).symm) P.k (.inl rfl),by have:=iA.acO (k:=key.cps.toList);rw[hk] at this;exact this⟩
 |some v=>
  have V:=P.v v rfl;have hv:tx v.cps.toList=v:=fB v;by_cases h:nx v=true
  ·have e:mr (key,some v)=key.cps.toList++61::v.cps.toList:=by
    show(key++("=":Str)++(if nx v=true then v else cB (gu v))).cps.toList=_;rw[N1 h];show((key.cps++#[61])++v.cps).toList=_;simp
   have ha:∀c∈v.cps.toList,fq c=true:=Ob.mp (ae h);rw[e];refine⟨bL _ _ hk.symm rfl P.k (.inr ⟨_,rfl⟩),?_⟩;have:=iA.bare (k:=key.cps.toList) V.ne (λc hc=>(w0 (ha c hc)).1) λm=>(w0 (ha 34 m)).2 rfl;rw[hk,hv] at this;exact this
  ·have e:mr (key,some v)=key.cps.toList++61::34::(v.cps.toList.flatMap dU++[34]):=by
    show(key++("=":Str)++(if nx v=true then v else cB (gu v))).cps.toList=_;rw[NY h];unfold cB;show((key.cps++#[61])++((#[34]++(v.cps.toList.flatMap dU).toArray)++#[34])).toList=_;simp
   rw[e];refine⟨bL _ _ hk.symm rfl P.k (.inr ⟨_,rfl⟩),?_⟩;have hl:v.cps.toList.length≤20:=by rw[N7];exact V.len
   have ZU:=w8 v.cps.toList;have:=iA.quo (k:=key.cps.toList) (v:=v.cps.toList) ⟨az hl,ph ZU hl hl⟩ rfl (λc hc=>(V.ok c hc).1) ?_
   ·rw[hk,hv] at this;exact this
   ·rcases V.shape with h | ⟨u,c,w,e,hu,hw,hc⟩
    ·exact .inl (by rw[dY h];exact h)
    ·refine .inr (aH u c w ?_ hu hw ?_)
     ·rw[e,List.flatMap_append,OD,dY hu,dY hw];rw[n5] at hc;unfold dU;rw[hc];rfl
     ·exact(V.ok c (by rw[e];simp)).1
end
def name_val{k:Nat}(h:k<7):jQ (af k):=by
 have hs:∀k,k<7→(af k).cps.toList≠[]∧(af k).length≤20∧(∀c∈(af k).cps.toList,Txt.contains eO ⟨#[c]⟩=fq c)∧(∀c∈(af k).cps.toList,c≠10∧PyData.strOk ⟨#[c]⟩=true):=kE;refine bD (hs k h) λh1 h2 h3 h4=>⟨h1,h2,h3,h4,?_⟩;have hp:∀k,k<7→k≠2→k≠3→∀c∈(af k).cps.toList,jv c=false:=kE;by_cases e2:k=2
 ·subst e2;exact .inr (aH [100] 34 [] rfl kD nofun kD)
 ·by_cases e3:k=3
  ·subst e3;exact .inr (aH [101] 92 [] rfl kD nofun kD)
  ·exact .inl (hp k h e2 e3)
def BK{l:List Nat}(hl:l.length=4)(h:∀v∈l,v<64):jQ (oB l):=by
 have e:(oB l).cps.toList=l.map sg:=rfl;have hs:∀v,v<64→Txt.contains eO ⟨#[sg v]⟩=fq (sg v)∧(sg v≠10∧PyData.strOk ⟨#[sg v]⟩=true)∧jv (sg v)=false:=kE;have m:∀c∈l.map sg,∃v,v<64∧c=sg v:=λc hc=>by
  refine ay (Oj.mp hc) λv hv Pt=>?_;obtain rfl:=Pt;exact ak v (h v hv) rfl
 refine⟨?_,?_,λc hc=>?_,λc hc=>?_,.inl λc hc=>?_⟩
 ·rw[e];intro q;have:=N2 List.length q;rw[NO,hl] at this;cases this
 ·show(tx (l.map sg)).length≤20;rw[cr,NO,hl];decide
 ·refine ay (m c hc) λv hv O8=>?_;obtain rfl:=O8;exact(hs v hv).1
 ·refine ay (m c hc) λv hv Pq=>?_;obtain rfl:=Pq;exact(hs v hv).2.1
 ·refine ay (m c hc) λv hv PA=>?_;obtain rfl:=PA;exact(hs v hv).2.2
end
section
open Builtin.Re
open Rx
def pk(s:Str):∀(t:Str)(r:List Str),(Txt.join s (t::r)).cps.toList=t.cps.toList++r.flatMap λu=>s.cps.toList++u.cps.toList:=by
 have h:∀(r:List Str)(t:Str),(Str.join s (t::r)).cps.toList=t.cps.toList++r.flatMap λu=>s.cps.toList++u.cps.toList:=by
  intro r;induction r with
  |nil=>intro t;exact(N6 _).symm
  |cons u r ih=>
   intro t;show((t.cps++s.cps)++(Str.join s (u::r)).cps).toList=_;rw[OO,OO,ih,OD,Oi,Oi]
 intro t r;rw[← h r t,show Txt.join s (t::r)=Str.join s (t::r) by unfold Txt.join;exact StrLaws.glued_eq_join _ _]
def oa{r:List Pr}(h:r≠[]):(jH r).cps.toList=mw mr r:=by
 refine ce (OB h) λw ws Pt=>?_;obtain rfl:=Pt;unfold jH;rw[OF,pk,List.flatMap_map];rfl
def oi{g:List (List Pr)}(h:∀r∈g,r≠[]):(g1 g).cps.toList=gQ mr g:=by
 cases g with
 |nil=>rfl
 |cons r ls=>
  unfold g1;rw[OF,pk,List.flatMap_map,oa (h r N3)];show _++_=_++jU mr ls;congr 1;unfold jU;have:∀l:List (List Pr),(∀r∈l,r≠[])→(l.flatMap λu=>((", ":Str)).cps.toList++(jH u).cps.toList)=l.flatMap λr=>44::32::mw mr r:=λl hl=>by
   induction l with
   |nil=>rfl
   |cons a l ih=>
    rw[OD,OD,ih λr hr=>hl r (Oa _ hr),oa (hl a N3)];rfl
  exact this ls λr hr=>h r (Oa _ hr)
structure cX(g:List (List Pr)):Prop where
 n:g.length≤60
 r:∀r∈g,r≠[]∧r.length≤12
 p:∀r∈g,∀p∈r,gJ p
section
variable{g:List (List Pr)}
def cX.acF(G:cX g)(h:g.length≤50):uz g:=⟨h,λr hr=>⟨NT (G.r r hr).2 kD,(G.r r hr).1,λp hp=>(G.p r hr p hp).ab8.2⟩⟩
theorem cX.ab8(G:cX g)(h:g.length≤50):HP g:=⟨h,λr hr=>⟨NT (G.r r hr).2 kD,λp hp=>(G.p r hr p hp).ab8.1⟩⟩
def cX.text(G:cX g):g1 g=gB g:=by
 unfold g1 gB jH;congr 1;refine List.map_congr_left λr hr=>?_;congr 1;exact List.map_congr_left λp hp=>(G.p r hr p hp).word
def vq{p:Pr}(P:gJ p):(mr p).length≤100:=by
 have:=kO P.ab8.2;unfold mr;rw[N7];exact this
def vp{α:Type}{f:α→List Nat}{m:Nat}:∀{l:List α},(∀a∈l,(f a).length≤m)→(l.flatMap f).length≤l.length*m:=by
 intro l;induction l with
 |nil=>
  exact λ_=>Oc _
 |cons a l ihr=>
  intro h;rw[OD,NP,NR,Nat.succ_mul];have h1:=h a N3;have h2:=ihr λa ha=>h a (Oa _ ha);exact bu h2 h1
def sT{r:List Pr}(hr:r.length≤12)(P:∀p∈r,gJ p):(mw mr r).length≤1250:=by
 cases r with
 |nil=>exact Oc _
 |cons w ws=>
  show(mr w++nY mr ws).length≤_;rw[NP];have h1:=vq (P w N3);have h2:(nY mr ws).length≤ws.length*102:=vp λa ha=>by
   have:=vq (P a (Oa _ ha));simp only[NR];exact a8 this
  rw[NR] at hr;exact ph h1 h2 (N9 102 hr)
def cX.textOk(G:cX g)(h:g.length≤7):qh mr g:=by
 refine⟨λr hr w hw=>(G.p r hr w hw).wok,λr hr=>⟨(G.r r hr).1,NT (G.r r hr).2 kD⟩,az h,?_⟩;cases g with
 |nil=>exact Oc _
 |cons r ls=>
  show(mw mr r++jU mr ls).length≤_;rw[NP];have h1:=sT (G.r r N3).2 (G.p r N3);have h2:(jU mr ls).length≤ls.length*1252:=vp λa ha=>by
   have:=sT (G.r a (Oa _ ha)).2 (G.p a (Oa _ ha));simp only[NR];exact a8 this
  rw[NR] at h;exact ph h1 h2 (N9 1252 h)
theorem cX.tx(G:cX g):Internal.tx (gQ mr g)=gB g:=by
 rw[G.text.symm,← oi λr hr=>(G.r r hr).1]
end
def qe:∀x∈(["job","needs","octets","shown"]:List Str),x.cps.toList≠[]∧(∀c∈x.cps.toList,iV c=true)∧x.length≤20∧PyData.strOk x=true:=kE
def wK{v:Option Str}(h:x∈(["job","needs","octets","shown"]:List Str))(hv:∀u,v=some u→jQ u):gJ (x,v):=⟨⟨(qe x h).1,(qe x h).2.1⟩,(qe x h).2.2.1,(qe x h).2.2.2,hv⟩
def vm{o:List Nat}(hl:o.length=3)(h:∀a∈o,a<256):∀v∈kW (o.getD 0 0) (o.getD 1 0) (o.getD 2 0),v<64:=by
 revert h;refine g4 hl λa b c h=>?_
 ·have ha:=h a (by simp);have hb:=h b (by simp);have hc:=h c (by simp);show ∀v∈[a/4,a%4*16+b/16,b%16*4+c/64,c%64],v<64;have l:=I4 ha hb hc;exact JO l.1 l.2.1 l.2.2.1 l.2.2.2
def o9{o:List Nat}(hl:o.length=3)(h:∀a∈o,a<256):jQ (bw o):=BK rfl (vm hl h)
def AX{k:Nat}(h:k<7):gJ ("job",some (af k)):=wK (by simp) λv e=>by cases e;exact name_val h
def AQ{k:Nat}(h:k<7):gJ ("needs",some (af k)):=wK (by simp) λv e=>by cases e;exact name_val h
def Ad{o:List Nat}(hl:o.length=3)(h:∀a∈o,a<256):gJ ("octets",some (bw o)):=wK (by simp) λv e=>by cases e;exact o9 hl h
def y1:gJ ("shown",none):=wK (by simp) nofun
def HX{x:Int}(hn:n≤7)(hp:PF<7):∀p∈et n PF x,gJ p:=by
 intro p h;unfold et at h;rcases Ot.mp h with h | h
 ·rcases Ot.mp h with h | h
  ·rcases Ot.mp h with h | h
   ·rw[NX.mp h];exact AX hp
   ·refine ay (Oj.mp h) λk hk O8=>?_;obtain rfl:=O8;exact AQ (OC (mU hk) hn)
  ·rw[NX.mp h];exact Ad rfl (kB x)
 ·split at h
  ·cases h
  ·rw[NX.mp h];exact y1
theorem DU{n:Nat}{x:Int}(hn:n≤7):et n PF x≠[]∧(et n PF x).length≤12:=by
 have:=dA (x:=x) (n:=n);unfold et;refine⟨by simp,?_⟩;simp only[NP,NO,NR,List.length_nil];split<;>simp<;>lia
def wX{ns:List Int}(hn:ns.length≤7):cX (rowsOf ns):=by
 have m:∀r∈rowsOf ns,∃a∈ns.zipIdx,r=et ns.length a.2 a.1:=λr hr=>by
  refine ay (Oj.mp hr) λa ha Pq=>?_;obtain rfl:=Pq;exact ak a ha rfl
 refine⟨by unfold rowsOf;rw[NO,List.length_zipIdx];exact az hn,λr hr=>?_,λr hr=>?_⟩
 ·refine ay (m r hr) λa ha PA=>?_;obtain rfl:=PA;exact DU hn
 ·refine ay (m r hr) λa ha PI=>?_;obtain rfl:=PI;exact HX hn (OC (by have:=(List.mem_zipIdx ha).2.1;exact a8 this) hn)
end
section
open Builtin.Re
open Rx
def yO(l:List Nat):Prop:=∀c∈l,c<0x110000
def iO{a b:List Nat}(h1:yO a)(h2:yO b):yO (a++b):=λc h=>(Ot.mp h).elim (h1 c) (h2 c)
def vN(h:yO x.cps.toList):PyData.strOk x=true:=by
 show x.cps.all (λc=>decide (c<0x110000))=true;rw[Array.all_toList.symm,Ob];exact λc hc=>N0 (h c hc)
def ql(h:PyData.strOk x=true):yO x.cps.toList:=by
 have h:x.cps.all (λc=>decide (c<0x110000))=true:=h;rw[← Array.all_toList,Ob] at h;exact λc hc=>NV (h c hc)
theorem jQ.strOk{v:Str}(V:jQ v):PyData.strOk v=true:=vN λc hc=>ql (x:=⟨#[c]⟩) (V.ok c hc).2 c (by simp)
def Ew{l:List Nat}(h:yO l):yO (l.flatMap dU):=λc hc=>by
 refine ay (List.mem_flatMap.mp hc) λd hd hc=>?_;unfold dU at hc;split at hc
 ·rcases NU.mp hc with rfl | hc
  ·decide
  ·rw[NX.mp hc];exact h d hd
 ·rw[NX.mp hc];exact h d hd
theorem gJ.okL{p:Pr}(P:gJ p):Internal.yO (mr p):=by
 obtain⟨key,v⟩:=p;have hk:=ql P.ks;cases v with
 |none=>exact hk
 |some v=>
  have hv:=ql (P.v v rfl).strOk;show Internal.yO (key++("=":Str)++(if nx v=true then v else cB (gu v))).cps.toList;show Internal.yO ((key.cps++#[61])++(if nx v=true then v else cB (gu v)).cps).toList;rw[OO,OO];refine iO (iO hk λc hc=>by rw[NX.mp hc];decide) ?_;split
  ·exact hv
  ·show Internal.yO ((#[34]++(v.cps.toList.flatMap dU).toArray)++#[34]).toList;rw[OO,OO];exact iO (iO (λc hc=>by rw[NX.mp hc];decide) (Ew hv)) λc hc=>by rw[NX.mp hc];decide
theorem cX.okL{g:List (List Pr)}(G:cX g):PyData.strOk (gB g)=true:=by
 refine vN ?_;rw[G.text.symm,oi λr hr=>(G.r r hr).1];have line:∀r∈g,Internal.yO (mw mr r):=λr hr=>by
  cases r with
  |nil=>nofun
  |cons w ws=>
   refine iO (G.p _ hr w N3).okL λc hc=>ay (List.mem_flatMap.mp hc) λp hp hc=>?_;rcases NU.mp hc with rfl | hc
   ·decide
   rcases NU.mp hc with rfl | hc
   ·decide
   ·exact(G.p _ hr p (Oa _ hp)).okL c hc
 cases g with
 |nil=>nofun
 |cons r ls=>
  refine iO (line r N3) λc hc=>ay (List.mem_flatMap.mp hc) λp hp hc=>?_;rcases NU.mp hc with rfl | hc
  ·decide
  rcases NU.mp hc with rfl | hc
  ·decide
  ·exact line p (Oa _ hp) c hc
def gJ.dat{p:Pr}(P:gJ p):∃q,Dat 1 (cn p) q:=by
 obtain⟨key,v⟩:=p;cases v with
 |none=>exact⟨_,Dat.tup (n:=0) (ps:=[.str key,.none]) (aN _ _ rfl (Dat.str P.ks) (aN _ _ rfl Dat.none rfl))⟩
 |some v=>exact⟨_,Dat.tup (n:=0) (ps:=[.str key,.str v]) (aN _ _ rfl (Dat.str P.ks) (aN _ _ rfl (Dat.str (P.v v rfl).strOk) rfl))⟩
def gr{l:List PV}(h:∀d∈l,∃p,Dat n d p):∃p,Dat (n+1) (.lst l) p:=(fK.of h).imp' .list λps q=>.lst q
theorem cX.dat{g:List (List Pr)}(G:cX g):∃q,Dat 3 (bj g) q:=gr λd hd=>by
 refine ay (Oj.mp hd) λr hr Pt=>?_;obtain rfl:=Pt;exact gr λe he=>by
  refine ay (Oj.mp he) λp hp O8=>?_;obtain rfl:=O8;exact(G.p r hr p hp).dat
section
def gA(h:∃p,Dat n d p)(hn:n≤64):dS H .ne d d=some false:=by
 refine a9 h λp h=>?_;rw[KJ h h hn hn,h.2.2.2];rfl
def uv(h:∃p,Dat n d p)(hn:n≤64):dS H .eq d d=some true:=by
 refine a9 h λp h=>?_;rw[sE h h hn hn,h.2.2.2]
def pN:∀{o:List Nat},(∀a∈o,a<256)→bytesOf (o.map λ(n:Nat)=>.int n)=some (o.map λ(n:Nat)=>(n:Int)):=by
 intro o;induction o with
 |nil=>
  exact λ_=>rfl
 |cons a r ihr=>
  intro h;have ha:=h a N3;show(if(decide (0≤(a:Int))&&decide ((a:Int)<256))=true then(bytesOf (r.map λ(n:Nat)=>.int n)).map (λl=>(a:Int)::l) else none)=_;rw[N0 (Oy a),N0 ((Int.ofNat_lt (m:=256)).mpr ha),ihr λx hx=>h x (Oa _ hx)];rfl
def y9{o:List Nat}(hl:o.length=3)(h:∀a∈o,a<256):CX H .bytes [aK o]=some (.bytes (byteArr (o.map λ(n:Nat)=>(n:Int)))):=by
 show(bytesOf (o.map λ(n:Nat)=>.int n)).bind (λns=>if aE ns.length=true then some (PV.bytes (byteArr ns)) else none)=_;rw[pN h];show(if aE (o.map λ(n:Nat)=>(n:Int)).length=true then _ else none)=_;rw[NO,hl];rfl
def yt{o:List Nat}(hl:o.length=3)(h:∀a∈o,a<256):pK H .decode (.bytes (byteArr ((kW (o.getD 0 0) (o.getD 1 0) (o.getD 2 0)).map λ(v:Nat)=>((sg v:Nat):Int)))) [.str ("ascii":Str)]=some (.str (bw o)):=by
 have hv:=vm hl h;have e:(byteArr ((kW (o.getD 0 0) (o.getD 1 0) (o.getD 2 0)).map λ(v:Nat)=>((sg v:Nat):Int))).toList.map (λc=>c.toNat)=(kW (o.getD 0 0) (o.getD 1 0) (o.getD 2 0)).map sg:=by
  unfold byteArr;rw[List.toList_toArray,List.map_map,List.map_map];exact List.map_congr_left λv hm=>sM (hv v hm)
 show(if(decide (("ascii":Str)="ascii")&&(((byteArr _).toList.all λc=>decide (c.toNat<128))&&aE (byteArr _).size))=true then some (PV.str (oU (byteArr _))) else none)=_;have h1:((byteArr ((kW (o.getD 0 0) (o.getD 1 0) (o.getD 2 0)).map λ(v:Nat)=>((sg v:Nat):Int))).toList.all λc=>decide (c.toNat<128))=true:=by
  rw[Ob];intro c hc;have:c.toNat∈(kW (o.getD 0 0) (o.getD 1 0) (o.getD 2 0)).map sg:=e▸List.mem_map_of_mem (f:=λc:UInt8=>c.toNat) hc;refine ay (Oj.mp this) λv hm hh=>?_;rw[hh.symm];exact N0 (iz v (hv v hm)).2.2
 have h2:aE (byteArr ((kW (o.getD 0 0) (o.getD 1 0) (o.getD 2 0)).map λ(v:Nat)=>((sg v:Nat):Int))).size=true:=by rw[byteArr_size];rfl
 rw[h1,h2,N0 rfl];show some (PV.str ⟨((byteArr _).toList.map λc=>c.toNat).toArray⟩)=_;rw[e];rfl
structure GC(C:cu):Prop where
 e:C.fa "b64encode"=true
 ec:∀ds d,Nq ds d→C.f "b64encode" ds d
 j:C.fa "join_header_words"=true
 jc:∀ds d,MV ds d→C.f "join_header_words" ds d
 s:C.fa "split_header_words"=true
 sc:∀ds d,R9 ds d→C.f "split_header_words" ds d
 r:C.fa "_law_rows"=true
 rc:∀ds d,Nj ds d→C.f "_law_rows" ds d
 t:C.fa "_law_text"=true
 tc:∀ds d,Nn ds d→C.f "_law_text" ds d
 d:C.fa "_law_due"=true
 dc:∀ds d,Nf ds d→C.f "_law_due" ds d
def Ev1.coded(G:GC C){q1 q2 q3 q4 q5 q6 q7:Pos}{k:Nat}{o:List Nat}(hl:o.length=3)(h:∀a∈o,a<256)(he:Ev1 C H e l (aK o)):
  Ev1 C H (.mth .decode (.call ("b64encode":Str) q1 (.cons (.bi .bytes q2 (.cons e .nil) q3) .nil) q4) q5 (.cons (.c (.str "ascii") k q6) .nil) q7) l (.str (bw o)):=by
 revert h he;exact g4 hl λa b c h he=>Ev1.mth (Ev1.call G.e (.one (Ev1.bi (.one he) (y9 rfl h))) (G.ec _ _ (aH a b c (h a (by simp)) (h b (by simp)) (h c (by simp)) ⟨rfl,rfl⟩))) rfl (.one Ev1.c) (yt (o:=[a,b,c]) rfl h)
end
end
section
open Builtin.Re
open Rx
def G7{a b:List Nat}(ha:∀x∈a,x<256)(hb:∀x∈b,x<256):(cL a b).length=3∧∀x∈cL a b,x<256:=by
 have g:∀{l:List Nat},(∀x∈l,x<256)→∀i,l.getD i 0<256:=λ{l} h i=>by
  rw[OA];cases q:l[i]? with
  |none=>decide
  |some x=>exact h x (List.mem_of_getElem? q)
 refine⟨rfl,λx hx=>?_⟩;have hx:x∈[a.getD 0 0^^^b.getD 0 0,a.getD 1 0^^^b.getD 1 0,a.getD 2 0^^^b.getD 2 0]:=hx;simp only[NU,Ou,or_false] at hx;rcases hx with rfl | rfl | rfl<;>exact Nat.xor_lt_two_pow (n:=8) (g ha _) (g hb _)
def jR(ns:List Int)(p:Nat):(aZ ns p).length=3∧∀x∈aZ ns p,x<256:=by
 unfold aZ;have:∀(l:List Nat)(a:List Nat),a.length=3∧(∀x∈a,x<256)→(l.foldl (λa e=>cL a (oct (ns.getD e 0))) a).length=3∧∀x∈l.foldl (λa e=>cL a (oct (ns.getD e 0))) a,x<256:=λl=>by
  induction l with
  |nil=>exact λa h=>h
  |cons e l ih=>exact λa h=>ih _ (G7 h.2 (kB _))
 exact this _ _ ⟨rfl,kD⟩
def nN(ns:List Int)(e:Str×List Nat):Prop:=∃p,p<ns.length∧e=(af p,aZ ns p)
def AY(ns:List Int):(∀r∈(cj ns).1,∀e∈r,nN ns e)∧(cj ns).1.flatten.length≤ns.length*ns.length∧(cj ns).1.length≤ns.length:=by
 have step:∀(l:List Int)(s:List Rd×List Nat)(t:Nat),(∀r∈s.1,∀e∈r,nN ns e)∧s.1.flatten.length≤t*ns.length∧s.1.length≤t→(∀r∈(l.foldl (λs _=>bz ns s) s).1,∀e∈r,nN ns e)∧(l.foldl (λs _=>bz ns s) s).1.flatten.length≤(t+l.length)*ns.length∧(l.foldl (λs _=>bz ns s) s).1.length≤t+l.length:=λl=>by
  induction l with
  |nil=>exact λs t h=>h
  |cons x l ih=>
   intro s t ⟨h1,h2,h3⟩;have:=ih (bz ns s) (t+1) ?_
   ·rw[show t+1+l.length=t+(x::l).length by rw[NR];exact dG] at this;exact this
   have hr:∀e∈a7 ns s.2,nN ns e:=λe he=>by
    refine ay (Oj.mp he) λp hp Pt=>?_;obtain rfl:=Pt;exact ak p (OJ.mp (List.mem_filter.mp hp).1) rfl
   have hl:(a7 ns s.2).length≤ns.length:=by unfold a7;rw[NO];exact j2 ns s.2
   unfold bz;by_cases q:a7 ns s.2=[]
   ·show(∀r∈(if a7 ns s.2=[] then s.1 else s.1++[a7 ns s.2]),_)∧(if a7 ns s.2=[] then s.1 else s.1++[a7 ns s.2]).flatten.length≤_∧(if a7 ns s.2=[] then s.1 else s.1++[a7 ns s.2]).length≤_;rw[N1 q];exact⟨h1,by rw[Nat.succ_mul];exact a8 h2,a8 h3⟩
   ·show(∀r∈(if a7 ns s.2=[] then s.1 else s.1++[a7 ns s.2]),_)∧(if a7 ns s.2=[] then s.1 else s.1++[a7 ns s.2]).flatten.length≤_∧(if a7 ns s.2=[] then s.1 else s.1++[a7 ns s.2]).length≤_;rw[NY q];refine⟨λr Si=>?_,?_,?_⟩
    ·rcases Ot.mp Si with h | h
     ·exact h1 r h
     ·rw[NX.mp h];exact hr
    ·rw[List.flatten_append,NP,Nat.succ_mul];simp only[List.flatten_cons,List.flatten_nil,N6];exact bu hl h2
    ·rw[NP];simp only[NR,List.length_nil];exact a8 h3
 have:=step ns ([],[]) 0 ⟨nofun,Oc _,Oc _⟩;rw[OM] at this;exact this
def DE{ns:List Int}{e:Str×List Nat}(h:nN ns e):∃q,Dat 2 (du e) q:=by
 refine ay h λp hp O8=>?_;obtain rfl:=O8;exact zW _ (lM p)
def kZ(PU:List (Str×List Nat)):List (List Pr):=PU.map λe=>[("job",some e.1),("octets",some (bw e.2))]
def I9{ns:List Int}{PU:List (Str×List Nat)}(hn:ns.length≤7)(h:∀e∈PU,nN ns e)(hl:PU.length≤60):cX (kZ PU):=by
 refine⟨by unfold kZ;rw[NO];exact hl,λr hr=>?_,λr hr p hp=>?_⟩
 ·refine ay (Oj.mp hr) λe he Pq=>?_;obtain rfl:=Pq;exact⟨by simp,by simp⟩
 ·refine ay (Oj.mp hr) λe he PA=>?_;obtain rfl:=PA;refine ay (h e he) λq hq PI=>?_;obtain rfl:=PI;simp only[NU,Ou,or_false] at hp;rcases hp with rfl | rfl
  ·exact AX (bu hq hn)
  ·exact Ad (jR ns q).1 (jR ns q).2
noncomputable def numsOf(sc:List Int):List Int:=[2495,2296,63,17]++sc.take 3
def Nc(ds:List PV)(d:PV):Prop:=∃sc:List Int,ds=[bj (rowsOf (numsOf sc))]∧d=.lst [.bool (decide ((cj (numsOf sc)).2.length<(numsOf sc).length)),.lst ((cj (numsOf sc)).1.map bK)]
end
section
open Builtin.Re
open Rx
def Hx(K:PV→AH→Prop):Fl→Loc→AH→Prop:=λfl _ H=>match fl with
 |.ret d=>K d H
 |.next=>K .none H
 |_=>False
def fM{K:PV→AH→Prop}(k:Xb C b (λi=>ds[i]?) H (Hx K)):abF C b ds H K:=k.run
def sf(sc:List Int):(numsOf sc).length≤7:=by
 unfold numsOf;rw[NP,List.length_take];show 4+_≤7;exact a8 (Nat.min_le_left 3 sc.length)
def EJ{sc:List Int}(hs:sc.length≤1000):lK H (bn sc) 3=some (bn (sc.take 3)):=by
 show(if(decide ((0:Int)≤3)&&aE (sc.map PV.int).length)=true then some (PV.lst ((sc.map PV.int).take 3)) else none)=_;rw[NO,au (az hs)];show some (PV.lst ((sc.map PV.int).take 3))=_;rw[List.map_take.symm];rfl
section
def rY{α:Type}{f:α→PV}{as:List α}(h:∀a∈as,∃p,Dat n (f a) p):∃ps,fK n (as.map f) ps:=fK.of λd hd=>by
 refine ay (Oj.mp hd) λa ha Pt=>?_;obtain rfl:=Pt;exact h a ha
def Dg{r:List Pr}{p:Pr}{rest:List Pr}(hr:r=p::rest)(hl:r.length≤1000)(ha:l 12=some (bT r)){q1 q2 q3 q4 q5:Pos}{k1 k2:Nat}:Ev1 C H (.idx (.idx (.v 12 q1) (.c (.int 0) k1 q2) q3) (.c (.int 1) k2 q4) q5) l (j9 p.2):=by
 subst hr;have hf:aE ((p::rest).map cn).length=true:=au (by rw[NO];exact az hl);refine Ev1.idx (y:=.int 1) (x:=cn p) (Ev1.idx (y:=.int 0) (Ev1.v ha) Ev1.c ?_) Ev1.c rfl;show(if(cY 0&&aE ((p::rest).map cn).length)=true then fZ ((p::rest).map cn) 0 else none)=_;rw[hf];rfl
end
def g6{α:Type}:∀l:List α,(l.map λx=>[x]).flatten=l:=by
 intro l;induction l with
 |nil=>
  exact rfl
 |cons a l ihr=>
  rw[OF,List.flatten_cons,ihr];rfl
def r8{ns:List Int}{r:List Pr}(hr:r∈rowsOf ns):∃k rest,k<ns.length∧r=(("job":Str),some (af k))::rest:=by
 refine ay (Oj.mp hr) λa ha O8=>?_;obtain rfl:=O8;exact fw a.2 _ (by have:=(List.mem_zipIdx ha).2.1;exact a8 this) rfl
noncomputable def uJ:List Pr→Str
 |p::_=>p.2.getD ""
 |[]=>""
def CT{C:cu}{H:AH}{l:Loc}{ns:List Int}(hn:ns.length≤7)(h5:l 5=some (bj (rowsOf ns))):∃sh:List Str,(∀x∈sh,PyData.strOk x=true)∧sh.length≤7∧Ev1 C H (uQ (bW 9 qR.1)) l (.lst (sh.map .str)):=by
 have G:=wX hn;have OV:(rowsOf ns).length=ns.length:=by unfold rowsOf;rw[NO,List.length_zipIdx]
 have hb:∀r:List Pr,∃b,r∈rowsOf ns→∀{l':Loc},l' 12=some (bT r)→qn C H (.cmp .isIn (.tup (.cons (.c (.str "shown") 0 (U 407 47 54)) (.cons (.c .none 0 (U 407 56 60)) .nil)) 0 (U 407 46 61)) (.v 12 (U 407 65 70)) (U 407 46 70)) l' b:=λr=>by
  by_cases h:r∈rowsOf ns
  ·refine a9 (rY (f:=cn) (n:=1) (as:=r) λp hp=>(G.p r h p hp).dat) λps QX=>?_;have d1:Dat 1 (.tup [.str ("shown":Str),.none]) (.tuple [.str "shown",.none]):=Dat.tup (n:=0) (aN _ _ rfl (Dat.str kE) (aN _ _ rfl Dat.none rfl));exact⟨_,λ_ {l'} ha=>(Ev1.cmp (Ev1.tup (.cons Ev1.c (.one Ev1.c))) (Ev1.v ha) (Bj d1 QX kD kD)).t rfl⟩
  ·exact⟨false,λq=>absurd q h⟩
 have hc:=λr=>Classical.choose_spec (hb r);refine aV (((rowsOf ns).filter λr=>Classical.choose (hb r)).map uJ) (λx hx=>?_) ?_ ?_
 ·refine ay (Oj.mp hx) λr hr Pq=>?_;obtain rfl:=Pq;refine aP (r8 (List.mem_filter.mp hr).1) λk rest hk PA=>?_;obtain rfl:=PA;exact lM k
 ·rw[NO];exact NT (OK _ _) (bu (aq OV) hn)
 ·rw[List.map_map];refine Ev1.filter (f:=bT) (g:=λr=>.str (uJ r)) (c:=λr=>Classical.choose (hb r)) (as:=rowsOf ns) (Ev1.v h5) rfl (au (bu (aq OV) hn)) λr hr=>aV _ rfl (hc r hr kU) (λ_=>?_)
  ·refine aP (r8 hr) λk rest hk e=>?_;have:=Dg (C:=C) (H:=H) (l:=upd (kN l []) 12 (bT r)) e (NT (G.r r hr).2 kD) rfl (q1:=(U 407 13 18)) (q2:=(U 407 19 20)) (q3:=(U 407 13 21)) (q4:=(U 407 22 23)) (q5:=(U 407 13 24)) (k1:=0) (k2:=0);rw[show PV.str (uJ r)=j9 (some (af k)) by rw[e];rfl];exact this
def Dh{ns:List Int}{sh:List Str}(hn:ns.length≤7)(hs:∀x∈sh,PyData.strOk x=true)(h7:l 7=some (.lst ((cj ns).1.map bK)))(h8:l 8=some (.lst (sh.map .str))):
  ∃PU:List (Str×List Nat),(∀e∈PU,nN ns e)∧PU.length≤49∧Ev1 C H (uQ (bW 10 qR.1)) l (.lst (PU.map du)):=by
 refine bV (AY ns) λd1 d2 d3=>?_;have Uh:ns.length*ns.length≤7*7:=Nat.mul_le_mul hn hn;refine a9 (rY (f:=PV.str) (n:=0) (as:=sh) λx hx=>⟨_,Dat.str (hs x hx)⟩) λps QX=>?_;have hb:∀x:Str,∃b,PyData.strOk x=true→dS H .isIn (.str x) (.lst (sh.map .str))=some b:=λx=>by
  by_cases h:PyData.strOk x=true
  ·exact⟨_,λ_=>Bj (Dat.str h) QX kD kD⟩
  ·exact⟨false,λq=>absurd q h⟩
 obtain⟨b,hc⟩:∃b:Str→Bool,∀x,PyData.strOk x=true→dS H .isIn (.str x) (.lst (sh.map .str))=some (b x):=⟨λx=>Classical.choose (hb x),λx=>Classical.choose_spec (hb x)⟩;have Q4:∀rd∈(cj ns).1,rd.length≤49:=λrd Tu=>NT (List.Sublist.length_le (List.sublist_flatten_of_mem Tu)) (bu Uh d2);have Rn:∀{rds:List Rd},(rds.flatMap λrd=>rd.flatMap λe=>if b e.1=true then[du e] else[])=(rds.flatten.filter λe=>b e.1).map du:=λ{rds}=>by
  induction rds with
  |nil=>rfl
  |cons rd rds ih=>rw[OD,ih,List.flatten_cons,List.filter_append,OI,n7 (g:=du) (c:=λe:Str×List Nat=>b e.1)]
 refine aV ((cj ns).1.flatten.filter λe=>b e.1) (λe he=>?_) (NT (OK _ _) (bu Uh d2)) ?_
 ·refine ay (List.mem_flatten.mp (List.mem_filter.mp he).1) λrd Tu h=>?_;exact d1 rd Tu e h
 ·refine Ev1.abt (f:=bK) (bs:=λrd=>rd) (f2:=λ_ e=>du e) (h:=λ_ e=>if b e.1=true then[du e] else[]) (as:=(cj ns).1) (Ev1.v h7) rfl (bu d3 hn) (λrd Tu=>aJ _ _ rfl Ev1.v rfl (NT (Q4 rd Tu) kD) (λe he K' k=>?_)) Rn ?_
  ·refine ay (d1 rd Tu e he) λp hp PI=>?_;obtain rfl:=PI;refine aQ rfl ?_;have e2:=hc (af p) (lM p);refine qn.run (r:=b (af p)) ((Ev1.cmp (Ev1.v (d:=.str (af p)) kU) (Ev1.v (by exact h8)) e2).t rfl) _ ?_;cases q:b (af p) with
   |false=>rw[NY (by rw[q];exact N')] at k;exact k
   |true=>
    rw[N1 q] at k;refine Ev1.run (d:=du (af p,aZ ns p)) ?_ _ k;exact Ev1.tup (ds:=[.str (af p),aK (aZ ns p)]) (.cons Ev1.v (.one Ev1.v)) (au (by simp))
  ·rw[NO];exact au (NT (OK _ _) (bu Uh d2))
def DB{C:cu}(A:LC C)(G:GC C){H:AH}{l:Loc}{ns:List Int}(hn:ns.length≤7)(h5:l 5=some (bj (rowsOf ns)))(h7:l 7=some (.lst ((cj ns).1.map bK))):Xb C (bW 9 qR.1) l H (Hx λd _=>d=.bool true):=by
 refine c9 (CT (C:=C) (H:=H) hn h5) λsh s1 s2 s3=>c9 (Dh (C:=C) (H:=H) (l:=upd l 8 (.lst (sh.map .str))) hn s1 (by exact h7) rfl) λPU t1 t2 t3=>?_;have An:=I9 hn t1 (az t2);have YL:(kZ PU).length≤50:=by unfold kZ;rw[NO];exact az t2
 have Tq:∀e∈PU,e.2.length=3∧∀x∈e.2,x<256:=λe he=>by
  refine ay (t1 e he) λp _ P2=>?_;obtain rfl:=P2;exact jR ns p
 have Vg:bj (kZ PU)=.lst (PU.map λe=>bT [("job",some e.1),("octets",some (bw e.2))]):=by
  unfold bj kZ;rw[List.map_map];rfl
 refine aF s3 rfl (aF t3 rfl (aF (d:=.str (g1 (kZ PU))) (Ev1.call G.j (.one (Ev1.map (f:=du) (g:=λe=>bT [("job",some e.1),("octets",some (bw e.2))]) (as:=PU) (Ev1.v (d:=.lst (PU.map du)) kU) rfl (au (az t2)) λe he=>ak _ rfl ?_)) (G.jc _ _ (aV _ (An.acF YL) (by rw[Vg]) rfl))) rfl ?_))
 ·exact Ev1.lst (ds:=[cn ("job",some e.1),cn ("octets",some (bw e.2))]) (.cons (Ev1.tup (ds:=[.str "job",.str e.1]) (.cons Ev1.c (.one Ev1.v))) (.one (Ev1.tup (ds:=[.str "octets",.str (bw e.2)]) (.cons Ev1.c (.one (Ev1.coded G (Tq e he).1 (Tq e he).2 Ev1.v)))))) (au (by simp))
 refine ct (d:=.bool true) (Ev1.cmp (Ev1.v (d:=.str (g1 (kZ PU))) kU) (Ev1.call G.t (.one (Ev1.map (f:=du) (g:=λe=>bT [("job",some e.1),("octets",some (bw e.2))]) (as:=PU) (Ev1.v (d:=.lst (PU.map du)) kU) rfl (au (az t2)) λe he=>ak _ rfl ?_)) (G.tc _ _ (aV _ (An.ab8 YL) (by rw[Vg]) rfl))) ?_) rfl
 ·exact Ev1.lst (ds:=[cn ("job",some e.1),cn ("octets",some (bw e.2))]) (.cons (Ev1.tup (ds:=[.str "job",.str e.1]) (.cons Ev1.c (.one Ev1.v))) (.one (Ev1.tup (ds:=[.str "octets",.str (bw e.2)]) (.cons Ev1.c (.one (Ev1.call A.c (.one Ev1.v) (A.cc _ (Tq e he).1 (Tq e he).2))))))) (au (by simp))
 ·rw[An.text];exact uv ⟨_,Dat.str An.okL⟩ kD
theorem J6(A:LC C)(G:GC C)(hr:C.na "_law_run"=true)(hrc:∀H ds K,(∃d,Nc ds d∧K d H)→C.nt "_law_run" H ds K){sc:List Int}(hs:sc.length≤63):abF C qR.1 [bn sc] [] λd _=>d=.bool true:=by
 have hn:=sf sc;have Gr:=wX hn;have OV:(rowsOf (numsOf sc)).length=(numsOf sc).length:=by unfold rowsOf;rw[NO,List.length_zipIdx]
 have Q4:(rowsOf (numsOf sc)).length≤7:=bu (aq OV) hn;refine fM (aF (d:=bn (numsOf sc)) (Ev1.bin (x:=bn [2495,2296,63,17]) (y:=bn (sc.take 3)) (Ev1.lst (.cons Ev1.c (.cons Ev1.c (.cons Ev1.c (.one Ev1.c))))) (Ev1.abG Ev1.v Ev1.c (EJ (az hs))) λKv k=>?_) rfl ?_)
 ·refine bE (au ?_) ?_
  ·show 4+((sc.take 3).map PV.int).length≤_;rw[NO,List.length_take];exact a8 (Nat.min_le_left 3 sc.length)
  ·have e:bn (numsOf sc)=.lst (([2495,2296,63,17]:List Int).map PV.int++(sc.take 3).map PV.int):=by
    unfold bn numsOf;rw[OI]
   rw[e] at k;exact k
 refine aF (Ev1.call G.r (.one Ev1.v) (G.rc _ _ (aV (numsOf sc) hn rfl rfl))) rfl ?_;have RT:∀(x:Int),(oct x).length=3∧∀a∈oct x,a<256:=λx=>⟨rfl,kB x⟩;have Rj:aE (numsOf sc).length=true:=au (az hn);refine aF (Ev1.map (f:=.int) (g:=λx=>.str (bw (oct x))) (as:=numsOf sc) (Ev1.v (d:=bn (numsOf sc)) kU) rfl Rj λx _=>ak _ rfl (Ev1.coded G (RT x).1 (RT x).2 (Ev1.call A.o (.one Ev1.v) (A.oc x)))) rfl (aF (Ev1.call G.j (.one Ev1.v) (G.jc _ _ (aV _ (Gr.acF (bu (aq OV) hn)) rfl rfl))) rfl ?_);have Zv:∃p,Dat 1 (.lst ((numsOf sc).map λx=>PV.str (bw (oct x)))) p:=gr λd hd=>by
  refine ay (Oj.mp hd) λx _ Qd=>?_;obtain rfl:=Qd;exact⟨_,Dat.str (o9 (RT x).1 (RT x).2).strOk⟩
 refine bc (r:=false) ((Ev1.orF (x:=.bool false) (y:=.bool false) (Ev1.cmp Ev1.v (Ev1.map (f:=.int) (g:=λx=>.str (bw (oct x))) (as:=numsOf sc) (Ev1.v (d:=bn (numsOf sc)) kU) rfl Rj λx _=>ak _ rfl (Ev1.call A.c (.one (Ev1.call A.o (.one Ev1.v) (A.oc x))) (A.cc _ (RT x).1 (RT x).2))) (gA Zv kD)) rfl
  (Ev1.cmp (Ev1.v (d:=.str (g1 (rowsOf (numsOf sc)))) kU) (Ev1.call G.t (.one Ev1.v) (G.tc _ _ (aV _ (Gr.ab8 (bu (aq OV) hn)) rfl rfl))) (by rw[Gr.text];exact gA ⟨_,Dat.str Gr.okL⟩ kD))).t rfl) nofun λ_=>?_
 have one:∀r∈rowsOf (numsOf sc),cX [r]:=λr hr=>⟨by simp,λx hx=>by rw[NX.mp hx];exact Gr.r r hr,λx hx=>by rw[NX.mp hx];exact Gr.p r hr⟩;have PH:rowsOf (numsOf sc)≠[]:=λq=>by rw[q] at OV;revert OV;unfold numsOf;rw[NP];show 0=4+_→False;lia
 refine aF (d:=bj (rowsOf (numsOf sc))) (Ev1.call G.s (.one (Ev1.lst (.one (Ev1.v (d:=.str (g1 (rowsOf (numsOf sc)))) kU)))) (G.sc _ _ (aJ mr [rowsOf (numsOf sc)] (λg hg=>by rw[NX.mp hg];exact⟨Gr.textOk Q4,PH⟩) (by simp;exact bu (aq OV) hn) (by simp) (by rw[List.map_singleton,Gr.tx,Gr.text.symm]) (by simp)))) rfl ?_;have d4:∃p,Dat 4 (.lst [bj (rowsOf (numsOf sc)),bj (rowsOf (numsOf sc))]) p:=gr λd hd=>by
  simp only[NU,Ou,or_false,or_self] at hd;rw[hd];exact Gr.dat
 refine bc (r:=false) ((Ev1.cmp (Ev1.lst (ds:=[bj (rowsOf (numsOf sc)),bj (rowsOf (numsOf sc))]) (.cons Ev1.v (.one (Ev1.call G.s (.one (Ev1.map (f:=bT) (g:=λr=>.str (gB [r])) (as:=rowsOf (numsOf sc)) (Ev1.v (d:=bj (rowsOf (numsOf sc))) kU) rfl (au (bu (aq OV) hn)) λr hr=>ak _ rfl (Ev1.call G.t (.one (Ev1.lst (ds:=[bT r]) (.one Ev1.v))) (G.tc _ _ (aV [r] ((one r hr).ab8 (by simp)) rfl rfl)))))
  (G.sc _ _ (aJ mr ((rowsOf (numsOf sc)).map λr=>[r]) (λg hg=>?_) ?_ ?_ ?_ ?_)))))) (Ev1.lst (ds:=[bj (rowsOf (numsOf sc)),bj (rowsOf (numsOf sc))]) (.cons Ev1.v (.one Ev1.v))) (gA d4 kD)).t rfl) nofun λ_=>?_
 ·refine ay (Oj.mp hg) λr hr Qh=>?_;obtain rfl:=Qh;exact⟨(one r hr).textOk (by simp),by simp⟩
 ·rw[g6];exact bu (aq OV) hn
 ·rw[NO];exact bu (aq OV) hn
 ·rw(occs:=.all) [List.map_map];congr 2;refine List.map_congr_left λr hr=>?_;show PV.str (gB [r])=.str (tx (gQ mr [r]));rw[(one r hr).tx]
 ·rw[g6]
 refine abd (bE hr (dt.run (ds:=[bj (rowsOf (numsOf sc))]) (.one Ev1.v) _ (hrc _ _ _ (ak _ (ak sc rfl rfl) (aQ rfl (aA ?_))))));have WD:∃p,Dat 5 (.lst [.bool (decide ((cj (numsOf sc)).2.length<(numsOf sc).length)),.lst ((cj (numsOf sc)).1.map bK)]) p:=gr λd hd=>by
  simp only[NU,Ou,or_false] at hd;rcases hd with rfl | rfl
  ·exact⟨_,Dat.bool.le kD⟩
  ·exact gr λe he=>by
    refine ay (Oj.mp he) λrd Tu SZ=>?_;obtain rfl:=SZ;exact(gr λx hx=>by
     refine ay (Oj.mp hx) λy hy Pm=>?_;obtain rfl:=Pm;exact DE ((AY (numsOf sc)).1 rd Tu y hy)).imp λp h=>h
 exact bc (r:=false) ((Ev1.cmp (Ev1.lst (ds:=[.bool (decide ((cj (numsOf sc)).2.length<(numsOf sc).length)),.lst ((cj (numsOf sc)).1.map bK)]) (.cons Ev1.v (.one Ev1.v))) (Ev1.call G.d (.one (Ev1.v (d:=bn (numsOf sc)) kU)) (G.dc _ _ (aV _ hn rfl rfl))) (gA WD kD)).t rfl) nofun λ_=>DB A G hn kU kU
end
section
section
variable{Kd:PV→AH→Prop}
theorem Ev1.att{o:ME}{n:Str}{x:PV}(ho:Ev1 C H o l x)(h:nV C H x n=some d):Ev1 C H (.att o n p) l d:=⟨λKv k=>ho.run _ (aQ h k)⟩
def Aq{c:Addr}{n:Str}(hj:H[j]?=some (.inst c fs ss))(h1:C.sl c n=none)(h2:C.ia c n=true)(h:aM n fs=some d):nV C H (.obj j) n=some d:=by
 unfold nV;simp only[hj,h1,h2];exact h
def sA{k:Nat}{c:Addr}{n:Str}(hj:H[j]?=some (.inst c fs ss))(h1:C.sl c n=some k)(h:ss[k]?=some d):nV C H (.obj j) n=some d:=by
 unfold nV;simp only[hj,h1];exact h
def abZ{c:Addr}{n:Str}(hj:H[j]?=some (.inst c fs ss))(h1:C.sl c n=none)(h2:C.ia c n=true)(h:fs.length≤100)(k:Kh (H.set j (.inst c (b9 n d fs) ss))):iZ C H (.obj j) n d Kh:=
 (aG j c (aN fs ss rfl hj (by rw[h1];exact⟨h2,h,k⟩)))
def aco{c:Addr}{n:Str}(hj:H[j]?=some (.inst c fs ss))(h1:C.sl c n=some i)(h:i≤ss.length)(k:Kh (H.set j (.inst c fs (putAt ss i d)))):iZ C H (.obj j) n d Kh:=
 (aG j c (aN fs ss rfl hj (by rw[h1];exact⟨h,k⟩)))
def l9(he:Ev1 C H e l d)(k:Kd d H):xe C (.pl e) l H Kd:=he.run _ k
def wS{o:ME}{m:Str}{c:Addr}(ho:Ev1 C H o l d)(hm:sK C H d m c)(hs:dt C H es l ds)(k:C.mt c m H (d::ds) Kd):xe C (.mc o m ap es p) l H Kd:=ho.run _ (ak c hm (hs.run _ k))
def A8{o:ME}{m:Str}{sp:Pos}{u:PV}{c:Addr}(ho:Ev1 C H o l d)(hm:sK C H d m c)(hs:dt C H es l ds)(he:Ev1 C H e l u)(hu:items H u=some us)(hf:aE us.length=true)(k:C.mt c m H (d::(ds++us)) Kd):xe C (.mcs o m ap es e sp p) l H Kd:=
 ho.run _ (ak c hm (hs.run _ (he.run _ (aQ hu (bE hf k)))))
def Hw{o:ME}{m:Str}{c:Addr}(ho:Ev1 C H o l d)(hm:sK C H d m c)(k:C.mt c m H [d] λr H'=>el (CX H' .sorted [r]) λu=>Kd u H'):xe C (.srt q o m ap r p) l H Kd:=ho.run _ (ak c hm k)
def Hv(h:C.na x=true)(hs:dt C H es l ds)(k:C.nt x H ds Kd):xe C (.new x q es p) l H Kd:=bE h (hs.run _ k)
def HI{o:ME}(ho:Ev1 C H o l (.obj i))(hi:listItems H (.obj i)=some ds)(k:Kd (.obj H.length) (H++[.nxt i 0])):xe C (.nxt q o p ap) l H Kd:=ho.run _ (aQ (d:=i) rfl (aQ hi k))
def H4(he:Ev1 C H e l (.lst ds))(hs:dP ds=some ts)(k:Kd (.obj H.length) (H++[.lst ds])):xe C (.own e) l H Kd:=he.run _ (aQ rfl (aQ hs k))
def fO{o:ME}{n:Str}{x:XE}(h:xe C x l H λd H'=>pe C H' o l λod=>iZ C H' od n d λH''=>Xb C rest l H'' K):Xb C (.cons (.xk (.set o n q x p) b) rest) l H K:=abd h
def mT{x:XE}(h:xe C x l H λd H'=>Xb C rest (upd l i d) H' K):Xb C (.cons (.xk (.asg (.one i q) x p) b) rest) l H K:=abd h
def wN{x:XE}(h:xe C x l H λd H'=>Xb C rest l H' K):Xb C (.cons (.xk (.expr x r) b) rest) l H K:=abd h
def pW{o:ME}{n:Str}{sub:Bool}{od:PV}{x y:Int}(ho:Ev1 C H o l od)(ha:nV C H od n=some (.int x))(he:Ev1 C H e l (.int y))(k:iZ C H od n (.int (if sub then x-y else x+y)) λH'=>Xb C rest l H' K):Xb C (.cons (.xk (.aug o n q sub e p) b) rest) l H K:=
 abd (ho.run _ (aQ ha (aQ rfl (he.run _ (aQ rfl k)))))
def yX{o:ME}{d:PV}(ho:Ev1 C H o l (.obj j))(hj:H[j]?=some (.lst ys))(he:Ev1 C H e l d)(hf:aE ys.length=true)(k:Xb C rest l (H.set j (.lst (ys++[d]))) K):Xb C (.cons (.xk (.app o ap (.pl e) p r) b) rest) l H K:=
 have hl:listItems H (.obj j)=some ys:=by simp only[listItems,hj]
 abd (ho.run _ (aQ (d:=j) rfl (aQ hl (he.run _ (aQ hl (bE hf k))))))
def IZ{o:ME}(ho:Ev1 C H o l (.obj j))(hj:H[j]?=some (.lst ys))(hf:aE ys.length=true)(k:Xb C rest l (H.set j (.lst [])) K):Xb C (.cons (.xk (.clr o ap p r) b) rest) l H K:=
 abd (ho.run _ (aQ (d:=j) rfl (aQ (d:=ys) (by simp only[listItems,hj]) (bE hf k))))
def EY{o:ME}{ys:List Str}(ho:Ev1 C H o l (.obj j))(hj:H[j]?=some (.set ys))(he:Ev1 C H e l (.str y))(hf:ys.length<4000)(k:Xb C rest l (H.set j (.set (y::ys))) K):Xb C (.cons (.xk (.ab0 o ap e p r) b) rest) l H K:=
 abd (ho.run _ (aQ (d:=j) rfl (aQ (d:=ys) (by simp only[setItems,hj]) (he.run _ (aQ rfl (bE (N0 hf) k))))))
def tK{w:Pos}{r:Bool}(he:Ev1 C H e l d)(hn:d.isNone=some r)(h1:r=true→Xb C b (upd l i d) H (gS C rest K))(h2:r=false→Xb C rest (upd l i d) H K):Xb C (.cons (.xk (.ifN i q e w nq cq p) b) rest) l H K:=by
 refine abd (he.run _ (aQ hn ?_));cases r
 ·exact h2 rfl
 ·exact(h1 rfl).run
def Ec{o k:ME}{x:XE}(h:xe C x l H λd H'=>pe C H' o l λod=>pe C H' k l λkd=>el od.abA λj=>el kd.abx λy=>el (bf H' od) λm=>cG (aE m.length) (∀ep,Xb C rest (upd l i d) (H'.set j (.dict (b9 y d m) ep)) K)):Xb C (.cons (.xk (.ab7 o k r i q x p) b) rest) l H K:=abd h
def vO{α:Type}{f:α→PV}{t:Tg}{as:List α}(hi:Ev1 C H it l (.obj j))(hj:jO H j=some (as.map f))(hf:aE as.length=true)(I:List α→Loc→AH→Prop)(i0:I as l H)(h:∀a r l₁ O1,I (a::r) l₁ O1→∀X:Fl→Loc→AH→Prop,(∀l' H',H'[j]?=H[j]?→I r l' H'→X .next l' H'∧X .cont l' H')→(∀d l' H',H'[j]?=H[j]?→K (.ret d) l' H'→X (.ret d) l' H')→∃l',gP t l₁ (f a)=some l'∧Xb C b l' O1 X)(he:∀l H,I [] l H→Xb C rest l H K):
  Xb C (.cons (.xk (.ab2 t it p) b) rest) l H K:=by
 refine abd (hi.run _ (aQ (d:=j) rfl (aQ hj (bE (by rw[NO];exact hf) ?_))));have key:∀(as:List α) l₁ O1,I as l₁ O1→abM (λd l' H' K'=>el (gP t l' d) λSj=>xb C b Sj H' λfl l₂ Pd=>Pd[j]?=H[j]?∧K' fl l₂ Pd) (as.map f) l₁ O1 (gS C rest K):=by
  intro as;induction as with
  |nil=>exact λl H i=>aA (he l H i)
  |cons a r ih=>
   intro l₁ O1 i;refine ay (h a r l₁ O1 i (λfl l₂ Pd=>Pd[j]?=H[j]?∧eM (λl' H'=>abM (λd l' H' K'=>el (gP t l' d) λSj=>xb C b Sj H' λfl l₂ Pd=>Pd[j]?=H[j]?∧K' fl l₂ Pd) (r.map f) l' H' (gS C rest K)) (gS C rest K) fl l₂ Pd)
    (λl' H' e i'=>⟨⟨e,ih l' H' i'⟩,⟨e,ih l' H' i'⟩⟩) (λd l' H' e k=>⟨e,k⟩)) λl' ht hb=>?_
   exact aQ ht hb.run
 exact key as l H i0
def Aj{x:XE}(I:Nat→Loc→AH→Prop)(n:Nat)(h0:I n l H)(h:∀n l H,I n l H→xe C x l H λd H'=>el (bB H' d) λr=>br r (Xb C b l H' (eM (λl' H''=>∃m,m<n∧I m l' H'') (gS C rest K))) (Xb C rest l H' K)):Xb C (.cons (.xk (.abI x p) b) rest) l H K:=by
 refine abd (ak I ⟨n,h0⟩ (λn l H i=>?_));have:=h n l H i;simp only[GI (b:=b)] at this;exact this
end
end
section
def e6:∀{p q:Nat},p<7→q<7→af p=af q→p=q:=by
 have:∀p:Fin 7,∀q:Fin 7,af p=af q→p=q:=kE;exact λp q hp hq e=>N2 Fin.val (this ⟨p,hp⟩ ⟨q,hq⟩ e)
def aI(p:Nat):PV:=.str (af p)
noncomputable def bI{α:Type}(f:Nat→α)(p:Nat)(v:α):Nat→α:=λq=>if q=p then v else f q
set_option genSizeOfSpec false in
set_option genInjectivity false in
structure Sr where
 od:List Nat
 np:Nat→Int
 su:Nat→List Nat
 ep:Nat
 rd:PV
 po:Int
 fi:Int
noncomputable def fL:Nat→List Nat→List (Str×PV)
 |_,[]=>[]
 |i,p::r=>(af p,.obj i)::fL (i+2) r
def Bl{p:Nat}{r:List Nat}:fL i (p::r)=(af p,.obj i)::fL (i+2) r:=rfl
def CW(np:Nat→Int)(i p:Nat):AO:=.inst 194 [] [aI p,.int (np p),.obj (i+1)]
noncomputable def pE(np:Nat→Int)(su:Nat→List Nat):Nat→List Nat→AH
 |_,[]=>[]
 |i,p::r=>CW np i p::.lst ((su p).map aI)::pE np su (i+2) r
def mq{p:Nat}{r:List Nat}:pE np su i (p::r)=CW np i p::.lst ((su p).map aI)::pE np su (i+2) r:=rfl
noncomputable def py(s:Sr):List (Str×PV):=[("_node2info",.obj 1),("_ready_nodes",s.rd),("_npassedout",.int s.po),("_nfinished",.int s.fi)]
def dD(s:Sr)(x y:AO)(tl:AH):AH:=.inst 291 (py s) []::.dict (fL 4 s.od) s.ep::x::y::(pE s.np s.su 4 s.od++tl)
noncomputable def ix:List Nat→Nat→Nat
 |[],_=>0
 |q::r,p=>if q=p then 0 else ix r p+1
def zX{q p:Nat}{r:List Nat}:ix (q::r) p=if q=p then 0 else ix r p+1:=rfl
def ga(od:List Nat)(p:Nat):Nat:=4+2*ix od p
structure Od(od:List Nat):Prop where
 nd:od.Nodup
 lt:∀p∈od,p<7
section
variable{x y:AO}{s:Sr}{p:Nat}
def gf:∀(od:List Nat)(i:Nat),(pE np su i od).length=2*od.length:=by
 intro od;induction od with
 |nil=>
  exact λ_=>rfl
 |cons p r ihr=>
  intro i;show(pE np su (i+2) r).length+1+1=2*(r.length+1);rw[ihr];exact rfl
def z':∀(od:List Nat)(i:Nat),(fL i od).length=od.length:=by
 intro od;induction od with
 |nil=>
  exact λ_=>rfl
 |cons p r ihr=>
  exact λi=>N2 Nat.succ (ihr (i+2))
def yk:∀(od:List Nat)(i:Nat),(fL i od).map (λx=>PV.str x.1)=od.map aI:=by
 intro od;induction od with
 |nil=>
  exact λ_=>rfl
 |cons p r ihr=>
  exact λi=>N2 (aI p::·) (ihr (i+2))
def wf:∀{od:List Nat},p∈od→ix od p<od.length:=by
 intro od;induction od with
 |nil=>intros;contradiction
 |cons q r ihr=>
  intro h;rw[zX];by_cases e:q=p
  ·rw[N1 e];exact Nat.zero_lt_succ _
  ·rw[NY e];exact Nat.succ_lt_succ (ihr ((NU.mp h).resolve_left λh=>e h.symm))
def nU(hp:p<7):∀{od:List Nat}{i:Nat},(∀q∈od,q<7)→p∈od→aM (af p) (fL i od)=some (.obj (i+2*ix od p)):=by
 intro od;induction od with
 |nil=>intros;contradiction
 |cons q r ihr=>
  intro i hl h;rw[Bl];rw[ey];rw[zX];by_cases e:q=p
  ·rw[N1 (N2 af e),N1 e];rfl
  ·rw[NY λe'=>e (e6 (hl q (.head _)) hp e'),NY e,ihr (λq hq=>hl q (.tail _ hq)) ((NU.mp h).resolve_left λh=>e h.symm)];congr 2;exact dG
def DA(hp:p<7):∀{od:List Nat}{i:Nat},(∀q∈od,q<7)→p∉od→aM (af p) (fL i od)=none:=by
 intro od;induction od with
 |nil=>
  intro _ _ _;exact rfl
 |cons q r ihr=>
  intro i hl h;rw[Bl];rw[ey];rw[NY λe'=>h (e6 (hl q (.head _)) hp e'▸.head _)];exact ihr (λq hq=>hl q (.tail _ hq)) λq=>h (.tail _ q)
def Cm(hp:p<7):∀{od:List Nat}{i:Nat},(∀q∈od,q<7)→p∉od→b9 (af p) (.obj (i+2*od.length)) (fL i od)=fL i (od++[p]):=by
 intro od;induction od with
 |nil=>
  intro _ _ _;exact rfl
 |cons q r ihr=>
  intro i hl h;show b9 _ _ ((af q,.obj i)::fL (i+2) r)=(af q,.obj i)::fL (i+2) (r++[p]);rw[lC];rw[NY λe'=>h (e6 (hl q (.head _)) hp e'▸.head _),← ihr (λq hq=>hl q (.tail _ hq)) λq=>h (.tail _ q),NR,show i+2+2*r.length=i+2*(r.length+1) by exact dG]
def zV:∀{od:List Nat}{i:Nat},p∈od→(pE np su i od)[2*ix od p]?=some (CW np (i+2*ix od p) p)∧(pE np su i od)[2*ix od p+1]?=some (.lst ((su p).map aI)):=by
 intro od;induction od with
 |nil=>intros;contradiction
 |cons q r ihr=>
  intro i h;rw[mq,zX];by_cases e:q=p
  ·subst e;rw[N1 rfl];exact⟨rfl,rfl⟩
  ·rw[NY e];have:=ihr (i:=i+2) ((NU.mp h).resolve_left λh=>e h.symm);rw[show i+2+2*ix r p=i+2*(ix r p+1) by exact dG] at this;exact this
def rn{np':Nat→Int}{su':Nat→List Nat}:∀{od:List Nat}{i:Nat},(∀q∈od,np q=np' q∧su q=su' q)→pE np su i od=pE np' su' i od:=by
 intro od;induction od with
 |nil=>
  intro _ _;exact rfl
 |cons q r ihr=>
  intro i h;rw[mq,mq];unfold CW;rw[(h q (.head _)).1,(h q (.head _)).2,ihr λa ha=>h a (.tail _ ha)]
def dl{α:Type}{f:Nat→α}{v:α}{q:Nat}(h:q≠p):bI f p v q=f q:=NY h
def eR{α:Type}{f:Nat→α}{v:α}:bI f p v p=v:=N1 rfl
def G1{v:Int}:∀{od:List Nat}{i:Nat},od.Nodup→p∈od→(pE np su i od).set (2*ix od p) (.inst 194 [] [aI p,.int v,.obj (i+2*ix od p+1)])=pE (bI np p v) su i od:=by
 intro od;induction od with
 |nil=>intros;contradiction
 |cons q r ihr=>
  intro i hn h;refine aU (OE.mp hn) λh1 h2=>?_;rw[mq,mq];rw[zX];unfold CW;by_cases e:q=p
  ·subst e;rw[N1 rfl,eR];show AO.inst 194 [] [aI q,.int v,.obj (i+2*0+1)]::_::_=_;rw[rn (np':=bI np q v) λa ha=>⟨(dl (q:=a) (p:=q) λe=>h1 (e▸ha)).symm,rfl⟩]
  ·rw[NY e,dl e,← ihr (i:=i+2) h2 ((NU.mp h).resolve_left λh=>e h.symm),show i+2*(ix r p+1)+1=i+2+2*ix r p+1 by exact dG];rfl
def Ei{l:List Nat}:∀{od:List Nat}{i:Nat},od.Nodup→p∈od→(pE np su i od).set (2*ix od p+1) (.lst (l.map aI))=pE np (bI su p l) i od:=by
 intro od;induction od with
 |nil=>intros;contradiction
 |cons q r ihr=>
  intro i hn h;refine aU (OE.mp hn) λh1 h2=>?_;rw[mq,mq];rw[zX];by_cases e:q=p
  ·subst e;rw[N1 rfl,eR];show CW np i q::AO.lst (l.map aI)::_=_;rw[rn (su':=bI su q l) λa ha=>⟨rfl,(dl (q:=a) (p:=q) λe=>h1 (e▸ha)).symm⟩]
  ·rw[NY e,dl e,← ihr (i:=i+2) h2 ((NU.mp h).resolve_left λh=>e h.symm)];rfl
def Eo:∀{od:List Nat}{i:Nat},pE np su i (od++[p])=pE np su i od++[CW np (i+2*od.length) p,.lst ((su p).map aI)]:=by
 intro od;induction od with
 |nil=>
  intro _;exact rfl
 |cons q r ihr=>
  intro i;show CW np i q::.lst ((su q).map aI)::pE np su (i+2) (r++[p])=CW np i q::.lst ((su q).map aI)::(pE np su (i+2) r++_);rw[ihr,NR,show i+2*(r.length+1)=i+2+2*r.length by exact dG]
noncomputable def cp(s:Sr):Nat:=4+2*s.od.length
def qO:(dD s x y tl).length=cp s+tl.length:=by
 unfold dD cp;rw[NR,NR,NR,NR,NP,gf];exact dG
def uo(i:Nat):(dD s x y tl)[4+i]?=(pE s.np s.su 4 s.od++tl)[i]?:=by rw[Nat.add_comm];rfl
def kL(h:p∈s.od):(dD s x y tl)[ga s.od p]?=some (.inst 194 [] [aI p,.int (s.np p),.obj (ga s.od p+1)]):=by
 have:=wf h;unfold ga;rw[uo,Ow (by rw[gf];exact bu this this),(zV h).1];rfl
def kC(h:p∈s.od):(dD s x y tl)[ga s.od p+1]?=some (.lst ((s.su p).map aI)):=by
 have:=wf h;unfold ga;rw[Nat.add_assoc,uo,Ow (by rw[gf];exact bu this this),(zV h).2]
def uP(i:Nat):(dD s x y tl)[cp s+i]?=tl[i]?:=by
 unfold cp;rw[Nat.add_assoc,uo,List.getElem?_append_right (by rw[gf];exact eQ),gf];congr 1;exact lr (ac (b:=(2*s.od.length)) (a:=(2*s.od.length+i)) eQ)
def qr(i:Nat)(o:AO):(dD s x y tl).set (4+i) o=.inst 291 (py s) []::.dict (fL 4 s.od) s.ep::x::y::(pE s.np s.su 4 s.od++tl).set i o:=by rw[Nat.add_comm];rfl
def Ia(O:Od s.od)(h:p∈s.od)(v:Int):(dD s x y tl).set (ga s.od p) (.inst 194 [] [aI p,.int v,.obj (ga s.od p+1)])=dD {s with np:=bI s.np p v} x y tl:=by
 have:=wf h;unfold ga;rw[qr,List.set_append_left _ _ (by rw[gf];exact bu this this),G1 O.nd h];rfl
def G0(O:Od s.od)(h:p∈s.od)(l:List Nat):(dD s x y tl).set (ga s.od p+1) (.lst (l.map aI))=dD {s with su:=bI s.su p l} x y tl:=by
 have:=wf h;unfold ga;rw[Nat.add_assoc,qr,List.set_append_left _ _ (by rw[gf];exact bu this this),Ei O.nd h];rfl
def tS(i:Nat)(o:AO):(dD s x y tl).set (cp s+i) o=dD s x y (tl.set i o):=by
 unfold cp;rw[Nat.add_assoc,qr,List.set_append_right _ _ (by rw[gf];exact eQ),gf,Nat.add_sub_cancel_left];rfl
def pL(r:AH):dD s x y tl++r=dD s x y (tl++r):=by
 unfold dD;rw[← Oi];rfl
def mX:(dD s x y tl)[0]?=some (.inst 291 (py s) []):=rfl
def ed(O:Od od):od.length≤7:=by
 have h:od⊆List.range 7:=λp hp=>OJ.mpr (O.lt p hp);have:=O.nd.length_le_of_subset h;simpa using this
end
end
section
section
variable{K:PV→AH→Prop}
def wJ{α:Type}{l:List α}{a b:α}{r:List α}:(l++a::r).set l.length b=l++b::r:=by simp
def lS{α:Type}{l r:List α}{a:α}:(l++a::r)[l.length]?=some a:=by simp
def M3(H:AH)(ds:List PV)(K:PV→AH→Prop):Prop:=∃Qu d,H=Qu++[.inst 194 [] []]∧ds=[.obj Qu.length,d]∧K .none (Qu++[.inst 194 [] [d,.int 0,.obj (Qu.length+1)],.lst []])
theorem HB(hs:C.sl=iD)(Qu:AH)(d:PV)(k:K .none (Qu++[.inst 194 [] [d,.int 0,.obj (Qu.length+1)],.lst []])):abF C CK.1 [.obj Qu.length,d] (Qu++[.inst 194 [] []]) K:=by
 have s1:∀{H:AH}{n:Str}{i:Nat}{ss:List PV}{v:PV}{r:AH}{Kh:AH→Prop},iD 194 n=some i→i=ss.length→Kh (H++.inst 194 [] (ss++[v])::r)→iZ C (H++.inst 194 [] ss::r) (.obj H.length) n v Kh:=λ{H n i ss v r Kh} e1 e2 k=>
  aco (i:=i) (ss:=ss) (fs:=[]) (c:=194) lS (by rw[hs];exact e1) (Nat.le_of_eq e2) (by
   rw[wJ];unfold putAt;rw[NY (an (ap e2))];exact k)
 refine fM (fO (l9 (Ev1.v rfl) ((Ev1.v rfl).run _ (s1 rfl rfl (fO (l9 (Ev1.c rfl) ((Ev1.v rfl).run _ (s1 (i:=1) rfl rfl (fO ?_)))))))));show pe C _ _ _ _;refine(Ev1.v rfl).run _ ?_;rw[Oi,NP];exact s1 (i:=2) rfl rfl (aB k)
def GF(H:AH)(ds:List PV)(K:PV→AH→Prop):Prop:=∃d,ds=[d]∧K (.obj H.length) (H++[.inst 194 [] [d,.int 0,.obj (H.length+1)],.lst []])
noncomputable def Jv(ep:Nat):Sr:=⟨[],λ_=>0,λ_=>[],ep,.none,0,0⟩
def My(H:AH)(ds:List PV)(K:PV→AH→Prop):Prop:=H=[.inst 291 [] []]∧ds=[.obj 0]∧∀ep,K .none [.inst 291 (py (Jv ep)) [],.dict [] ep]
def L5{n:Str}(h:bU.contains n=true):((291:Addr)==291&&bU.contains n)=true:=by rw[h];rfl
structure oo(C:cu):Prop where
 sl:C.sl=iD
 ia:∀n,bU.contains n=true→C.ia 291 n=true
def Ja(A:oo C)(k:∀ep,K .none [.inst 291 (py (Jv ep)) [],.dict [] ep]):abF C BL.1 [.obj 0,.none] [.inst 291 [] []] K:=by
 have s1:∀{n:Str}{fs:List (Str×PV)}{v:PV}{r:AH}{Kh:AH→Prop},bU.contains n=true→fs.length≤100→Kh (.inst 291 (b9 n v fs) []::r)→iZ C (.inst 291 fs []::r) (.obj 0) n v Kh:=λ{n fs v r Kh} e1 e2 k=>
  abZ (fs:=fs) (c:=291) rfl (by rw[A.sl];rfl) (A.ia _ e1) e2 k
 exact fM (fO (λep=>(Ev1.v rfl).run _ (s1 kD kD (fO (l9 (Ev1.c rfl) ((Ev1.v rfl).run _ (s1 kD kD (fO (l9 (Ev1.c rfl) ((Ev1.v rfl).run _ (s1 kD kD (fO (l9 (Ev1.c rfl) ((Ev1.v rfl).run _ (s1 kD kD (bc (r:=false) ((Ev1.cmp (Ev1.v rfl) (Ev1.c rfl) rfl).t rfl) nofun λ_=>aB (k ep)))))))))))))))))
noncomputable def eF(s:Sr)(p:Nat)(ep:Nat):Sr:=if p∈s.od then s else{s with od:=s.od++[p],ep:=ep}
def n0(s:Sr):Prop:=∀p,p∉s.od→s.np p=0∧s.su p=[]
def LL(H:AH)(ds:List PV)(K:PV→AH→Prop):Prop:=∃s x y p,H=dD s x y []∧ds=[.obj 0,aI p]∧Od s.od∧p<7∧n0 s∧∀ep,K (.obj (ga (eF s p ep).od p)) (dD (eF s p ep) x y [])
def oY{s:Sr}:aM ("_node2info":Str) (py s)=some (.obj 1):=kR
def vK{s:Sr}:aM ("_ready_nodes":Str) (py s)=some s.rd:=kR
def Gt{s:Sr}:aM ("_npassedout":Str) (py s)=some (.int s.po):=kR
def Gf{s:Sr}:aM ("_nfinished":Str) (py s)=some (.int s.fi):=kR
section
variable{s:Sr}{x y:AO}
def eJ(A:oo C){n:Str}(h0:l i=some (.obj 0))(hn:bU.contains n=true)(h:aM n (py s)=some d):Ev1 C (dD s x y tl) (.att (.v i q) n p) l d:=
 Ev1.att (Ev1.v h0) (Aq mX (by rw[A.sl];rfl) (A.ia _ hn) h)
def EE:∀{od:List Nat}{p:Nat},p∉od→ix (od++[p]) p=od.length:=by
 intro od;induction od with
 |nil=>
  intro p _;exact N1 rfl
 |cons q r ihr=>
  intro p h;show(if q=p then 0 else ix (r++[p]) p+1)=r.length+1;rw[NY λ(e:q=p)=>h (e▸.head _),ihr λq=>h (.tail _ q)]
def GU(A:oo C)(hn:C.na "_NodeInfo"=true)(hc:∀H ds K,GF H ds K→C.nt "_NodeInfo" H ds K){p:Nat}(O:Od s.od)(hp:p<7)(F:n0 s)(k:∀ep,K (.obj (ga (eF s p ep).od p)) (dD (eF s p ep) x y [])):abF C BZ.1 [.obj 0,aI p] (dD s x y []) K:=by
 have hg:Ev1 C (dD s x y []) (.mth .get (.att (.v 0 (U 234 22 26)) ("_node2info":Str) (U 234 22 37)) (U 234 22 41) (.cons (.v 1 (U 234 42 46)) .nil) (U 234 22 47)) (λi=>[PV.obj 0,aI p][i]?) ((aM (af p) (fL 4 s.od)).getD .none):=
  Ev1.mth (eJ A rfl kD oY) rfl (.one (Ev1.v rfl)) rfl
 refine fM ?_;by_cases h:p∈s.od
 ·have k:=k 0;unfold eF at k;rw[N1 h] at k;rw[nU hp O.lt h] at hg;exact tK (r:=false) hg rfl nofun λ_=>ct (Ev1.v rfl) k
 ·rw[DA hp O.lt h] at hg;refine tK (r:=true) hg rfl (λ_=>Ec (Hv hn (.one (Ev1.v rfl)) (hc _ _ _ (ak _ rfl ?_)))) nofun;have e0:(dD s x y []).length=cp s:=qO;rw[pL,e0];refine(eJ A rfl kD oY).run _ ((Ev1.v rfl).run _ (aQ (d:=1) rfl (aQ (d:=af p) rfl (aQ (d:=fL 4 s.od) rfl (bE (au ?_) λep=>aB (aA (ct (Ev1.v rfl) ?_)))))))
  ·rw[z'];have:=ed O;exact az this
  ·have k:=k ep;unfold eF at k;rw[NY h] at k;show K (.obj (cp s)) _;have e1:ga (s.od++[p]) p=cp s:=by unfold ga cp;rw[EE h]
   rw[e1] at k;have e2:(dD s x y [.inst 194 [] [aI p,.int 0,.obj (cp s+1)],.lst []]).set 1 (.dict (b9 (af p) (.obj (cp s)) (fL 4 s.od)) ep)=dD {s with od:=s.od++[p],ep:=ep} x y []:=by
    unfold dD;dsimp only;rw[Eo,show cp s=4+2*s.od.length from rfl,Cm hp O.lt h];unfold CW;rw[(F p h).1,(F p h).2,N6];rfl
   exact e2.symm▸k
end
end
end
section
structure yc(s:Sr)(p:Nat)(m:Int)(qs:List Nat)(s':Sr):Prop where
 np:s'.np=bI s.np p (s.np p+m)
 su:∀q,s'.su q=if q∈qs then s.su q++[p] else s.su q
 mem:∀q,q∈s'.od↔q∈s.od∨q=p∨q∈qs
 od:Od s'.od
 rd:s'.rd=s.rd
 po:s'.po=s.po
 fi:s'.fi=s.fi
def tj{s:Sr}{p:Nat}(O:Od s.od)(hp:p<7):Od (eF s p ep).od∧∀q,q∈(eF s p ep).od↔q∈s.od∨q=p:=by
 unfold eF;by_cases h:p∈s.od
 ·rw[N1 h];exact⟨O,λq=>⟨.inl,λh'=>h'.elim id λe=>e▸h⟩⟩
 ·rw[NY h];refine⟨⟨List.nodup_append.mpr ⟨O.nd,by simp,λa ha b hb e=>h (NX.mp hb▸e▸ha)⟩,λq hq=>?_⟩,λq=>by simp⟩;rcases Ot.mp hq with hq | hq
  ·exact O.lt q hq
  ·exact NX.mp hq▸hp
def re{s:Sr}{p:Nat}:(eF s p ep).np=s.np∧(eF s p ep).su=s.su∧(eF s p ep).rd=s.rd∧(eF s p ep).po=s.po∧(eF s p ep).fi=s.fi:=by
 unfold eF;by_cases h:p∈s.od
 ·rw[N1 h];exact bY rfl rfl rfl rfl rfl
 ·rw[NY h];exact bY rfl rfl rfl rfl rfl
def yc.fresh{s s':Sr}{p:Nat}{m:Int}(A:yc s p m qs s')(F:n0 s):n0 s':=λq hq=>by
 have h1:q∉s.od:=λh=>hq ((A.mem q).mpr (.inl h));have h2:q≠p:=λh=>hq ((A.mem q).mpr (.inr (.inl h)));have h3:q∉qs:=λh=>hq ((A.mem q).mpr (.inr (.inr h)));rw[A.np,A.su,NY h3,dl h2];exact F q h1
def LX(H:AH)(ds:List PV)(K:PV→AH→Prop):Prop:=∃s x y p qs,H=dD s x y []∧ds=.obj 0::aI p::qs.map aI∧Od s.od∧p<7∧(∀q∈qs,q<7)∧qs.Nodup∧n0 s∧s.rd=.none∧(∀q,(s.su q).length≤1000)∧∀s',yc s p qs.length qs s'→K .none (dD s' x y [])
section
variable{K:PV→AH→Prop}{s:Sr}{x y:AO}
def zd(A:oo C){a:Nat}(h0:l i=some (.obj (ga s.od a)))(h:a∈s.od):Ev1 C (dD s x y tl) (.att (.v i q) "npredecessors" p) l (.int (s.np a)):=
 Ev1.att (Ev1.v h0) (sA (k:=1) (kL h) (by rw[A.sl];rfl) rfl)
def zB(A:oo C){a:Nat}(h0:Ev1 C (dD s x y tl) e l (.obj (ga s.od a)))(h:a∈s.od):Ev1 C (dD s x y tl) (.att e "successors" p) l (.obj (ga s.od a+1)):=
 Ev1.att h0 (sA (k:=2) (kL h) (by rw[A.sl];rfl) rfl)
def qJ(A:oo C){a:Nat}{v:Int}(O:Od s.od)(h:a∈s.od)(k:Kh (dD {s with np:=bI s.np a v} x y tl)):iZ C (dD s x y tl) (.obj (ga s.od a)) "npredecessors" (.int v) Kh:=
 aco (i:=1) (kL h) (by rw[A.sl];rfl) (Nat.le_add_left 1 2) (by
  show Kh ((dD s x y tl).set (ga s.od a) (.inst 194 [] [aI a,.int v,.obj (ga s.od a+1)]));rw[Ia O h];exact k)
def vG(A:oo C){r:Bool}{q p p1 p2:Pos}{k:Nat}(h0:l i=some (.obj 0))(h:s.rd.isNone=some r):qn C (dD s x y tl) (.cmp .abC (.att (.v i q) "_ready_nodes" p) (.c .none k p1) p2) l (!r):=
 (Ev1.cmp (eJ A h0 kD vK) Ev1.c (by rw[fJ,h];rfl)).t rfl
def y7(A:oo C){r:Bool}{q p p1 p2:Pos}{k:Nat}(h0:l i=some (.obj 0))(h:s.rd.isNone=some r):qn C (dD s x y tl) (.cmp .is (.att (.v i q) "_ready_nodes" p) (.c .none k p1) p2) l r:=
 (Ev1.cmp (eJ A h0 kD vK) Ev1.c (by rw[uW,h])).t rfl
def l7{m:Str}(h:C.ma 291 m=true)(hd:bU.contains m=false):sK C (dD s x y tl) (.obj 0) m 291:=by
 refine aH 0 _ _ rfl mX h ?_;have:∀(fs:List (Str×PV)),(∀e∈fs,e.1∈bU)→aM m fs=none:=λfs=>by
  induction fs with
  |nil=>exact λ_=>rfl
  |cons e r ih=>
   intro he;rw[ey];rw(occs:=.all) [NY λq=>?_]
   ·exact ih λe h=>he e (.tail _ h)
   ·have:=List.contains_iff_mem.mpr (he e (.head _));rw[q,hd] at this;cases this
 refine this _ λe he=>?_;have he:e∈py s:=he;unfold py at he;simp only[NU,Ou,or_false] at he;unfold bU;rcases he with rfl | rfl | rfl | rfl<;>simp
def Ip(A:oo C)(hm:C.ma 291 "_get_nodeinfo"=true)(hc:∀H ds K,LL H ds K→C.mt 291 "_get_nodeinfo" H ds K){p:Nat}(O:Od s.od)(hp:p<7)(hq:∀q∈qs,q<7)(hn:qs.Nodup)(F:n0 s)(hr:s.rd=.none)(RW:∀q,(s.su q).length≤1000)(k:∀s',yc s p qs.length qs s'→K .none (dD s' x y [])):abF C CQ.1 [.obj 0,aI p,.tup (qs.map aI)] (dD s x y []) K:=by
 have Tt:qs.length≤7:=by
  have:=ed (od:=qs) ⟨hn,hq⟩;exact this
 refine fM (bc (r:=false) (vG A rfl (by rw[hr];rfl)) nofun λ_=>mT (wS Ev1.v (l7 hm kD) (.one Ev1.v) (hc _ _ _ (aG s x (aJ y p rfl rfl O hp ⟨F,(λep=>aU (tj (ep:=ep) O hp) λOS VM=>dO (re (s:=s) (p:=p) (ep:=ep)) λt1 t2 t3 t4 t5=>?_)⟩)))));generalize eF s p ep=OP at *
 have TO:p∈OP.od:=(VM p).mpr (.inr rfl);refine pW (x:=OP.np p) (y:=qs.length) Ev1.v (sA (k:=1) (kL TO) (by rw[A.sl];rfl) rfl) (Ev1.bi (.one Ev1.v) ?_) ?_
 ·show((some (qs.map aI).length).bind λn=>if aE n=true then some (PV.int n) else none)=_;rw[NO];show(if aE qs.length=true then some (PV.int qs.length) else none)=_;rw[au (az Tt)];rfl
 refine qJ A OS TO (da (ds:=qs.map aI) Ev1.v rfl (au (by rw[NO];exact az Tt)) (cK (λr l H=>∃pre s',qs=pre++r∧yc s p qs.length pre s'∧H=dD s' x y []∧l 0=some (.obj 0)∧l 1=some (aI p)) ?_ ?_ _ _ _ (aJ [] {OP with np:=bI OP.np p (OP.np p+qs.length)} rfl ⟨?_,?_,?_,OS,t3,t4,t5⟩ rfl rfl rfl)))
 ·rintro q r l H ⟨pre,s',rfl,R,rfl,h0,h1⟩ X hX;refine ak _ rfl ?_;have YZ:q<7:=hq q (by simp);have hnq:q∉pre:=λh=>by
   have:=(List.nodup_append.mp hn).2.2 q h q (.head _);exact this rfl
  have F':=R.fresh F;refine mT (wS (Ev1.v h0) (l7 hm kD) (.one Ev1.v) (hc _ _ _ (aG s' x (aJ y q rfl rfl R.od YZ ⟨F',(λep=>aU (tj (ep:=ep) R.od YZ) λOW Ro=>dO (re (s:=s') (p:=q) (ep:=ep)) λu1 u2 u3 u4 u5=>?_)⟩))));generalize eF s' q ep=OR at *
  have SA:q∈OR.od:=(Ro q).mpr (.inr rfl);have Y5:OR.su q=s.su q:=by rw[u2,R.su,NY hnq]
  refine yX (ys:=(OR.su q).map aI) (d:=aI p) (zB A Ev1.v SA) (kC SA) (Ev1.v (by exact h1)) (au (by rw[NO,Y5];have:=RW q;exact az this)) (aB ?_);have e:(OR.su q).map aI++[aI p]=(OR.su q++[p]).map aI:=by rw[OI];rfl
  rw[e,G0 OW SA];refine(hX _ _ (aJ (pre++[q]) {OR with su:=bI OR.su q (OR.su q++[p])} (by simp) ⟨?_,λa=>?_,λa=>?_,OW,u3.trans R.rd,u4.trans R.po,u5.trans R.fi⟩ rfl (by exact h0) (by exact h1))).1
  ·show OR.np=_;rw[u1,R.np]
  ·show bI OR.su q (OR.su q++[p]) a=_;by_cases ha:a=q
   ·subst ha;rw[eR,N1 (by simp),Y5]
   ·rw[dl ha,u2,R.su];have:(a∈pre++[q])↔a∈pre:=by simp[ha]
    by_cases hb:a∈pre
    ·rw[N1 hb,N1 (this.mpr hb)]
    ·rw[NY hb,NY λh=>hb (this.mp h)]
  ·show a∈OR.od↔_;rw[Ro,R.mem,Ot,NX];constructor
   ·rintro((h | h | h) | h)
    ·exact .inl h
    ·exact .inr (.inl h)
    ·exact .inr (.inr (.inl h))
    ·exact .inr (.inr (.inr h))
   ·rintro(h | h | h | h)
    ·exact .inl (.inl h)
    ·exact .inl (.inr (.inl h))
    ·exact .inl (.inr (.inr h))
    ·exact .inr h
 ·rintro l H ⟨pre,s',e,R,rfl,h0,h1⟩;rw[N6] at e;subst e;exact aA (aB (k s' R))
 ·show bI OP.np p (OP.np p+qs.length)=_;rw[t1]
 ·intro q;show OP.su q=_;rw[t2];simp
 ·intro q;show q∈OP.od↔_;rw[VM];simp
end
end
section
def bX(s:Sr)(rdy:List Nat)(x y:AO)(tl:AH):AH:=dD s x y (.lst (rdy.map aI)::tl)
structure tB(s:Sr)(rdy:List Nat):Prop where
 od:Od s.od
 rd:s.rd=.obj (cp s)
 le:rdy.length≤100
noncomputable def ck(np:Nat→Int)(rdy:List Nat):Nat→Int:=λq=>if q∈rdy then -1 else np q
def JL(H:AH)(ds:List PV)(K:PV→AH→Prop):Prop:=∃s rdy x y tl,H=bX s rdy x y tl∧ds=[.obj 0]∧tB s rdy∧(∀p∈rdy,p∈s.od)∧K (.tup (rdy.map aI)) (bX {s with np:=ck s.np rdy,po:=s.po+rdy.length} [] x y tl)
def Mb(H:AH)(ds:List PV)(K:PV→AH→Prop):Prop:=∃s rdy x y tl,H=bX s rdy x y tl∧ds=[.obj 0]∧tB s rdy∧K (.bool (decide (s.fi<s.po)||!rdy.isEmpty)) H
def ig(st:(Nat→Int)×List Nat)(q:Nat):(Nat→Int)×List Nat:=(bI st.1 q (st.1 q-1),if st.1 q-1=0 then st.2++[q] else st.2)
def bN(su:Nat→List Nat)(st:(Nat→Int)×List Nat)(p:Nat):(Nat→Int)×List Nat:=(su p).foldl ig (bI st.1 p (-2),st.2)
def LM(H:AH)(ds:List PV)(K:PV→AH→Prop):Prop:=∃s rdy x y tl rs,H=bX s rdy x y tl∧ds=.obj 0::rs.map aI∧tB s rdy∧rs.length≤7∧(∀p∈rs,p∈s.od)∧(∀p∈rs,(s.su p).length≤100∧∀q∈s.su p,q∈s.od) ∧
 (∀pre p post,rs=pre++p::post→(pre.foldl (bN s.su) (s.np,rdy)).1 p=-1)∧K .none (bX {s with np:=(rs.foldl (bN s.su) (s.np,rdy)).1,fi:=s.fi+rs.length} (rs.foldl (bN s.su) (s.np,rdy)).2 x y tl)
section
variable{K:PV→AH→Prop}{s:Sr}{x y:AO}
def CV(R:tB s rdy):(bX s rdy x y tl)[cp s]?=some (.lst (rdy.map aI)):=uP (s:=s) 0
def FK(q:List Nat):(bX s rdy x y tl).set (cp s) (.lst (q.map aI))=bX s q x y tl:=tS (s:=s) 0 _
def M2(R:tB s rdy):s.rd.isNone=some false:=by rw[R.rd];rfl
def z7(A:oo C)(R:tB s rdy)(h0:l i=some (.obj 0)):Ev1 C (bX s rdy x y tl) (.att (.v i q) "_ready_nodes" p) l (.obj (cp s)):=eJ A h0 kD (by rw[vK,R.rd])
def Gl(R:tB s rdy):listItems (bX s rdy x y tl) (.obj (cp s))=some (rdy.map aI):=by simp only[listItems,CV R]
def kh(R:tB s rdy):aE (rdy.map aI).length=true:=au (by have:=R.le;rw[NO];exact az this)
def Hb(A:oo C){v:Int}(k:Kh (dD {s with po:=v} x y tl)):iZ C (dD s x y tl) (.obj 0) "_npassedout" (.int v) Kh:=
 abZ mX (by rw[A.sl];rfl) (A.ia _ kD) (show 4≤100 by decide) (by
  have e:b9 ("_npassedout":Str) (.int v) (py s)=py {s with po:=v}:=kR;rw[e];exact k)
def Ju(A:oo C){v:Int}(k:Kh (dD {s with fi:=v} x y tl)):iZ C (dD s x y tl) (.obj 0) "_nfinished" (.int v) Kh:=
 abZ mX (by rw[A.sl];rfl) (A.ia _ kD) (show 4≤100 by decide) (by
  have e:b9 ("_nfinished":Str) (.int v) (py s)=py {s with fi:=v}:=kR;rw[e];exact k)
def Hq(A:oo C){v:PV}(k:Kh (dD {s with rd:=v} x y tl)):iZ C (dD s x y tl) (.obj 0) "_ready_nodes" v Kh:=
 abZ mX (by rw[A.sl];rfl) (A.ia _ kD) (show 4≤100 by decide) (by
  have e:b9 ("_ready_nodes":Str) v (py s)=py {s with rd:=v}:=kR;rw[e];exact k)
def uf(O:Od s.od){a b:ME}{q:Nat}(ha:Ev1 C (dD s x y tl) a l (.obj 1))(hb:Ev1 C (dD s x y tl) b l (aI q))(h:q∈s.od):Ev1 C (dD s x y tl) (.idx a b p) l (.obj (ga s.od q)):=
 Ev1.idx ha hb (nU (O.lt q h) O.lt h)
def u6{q:Nat}:bI (ck np pre) q (-1)=ck np (pre++[q]):=by
 funext a;unfold bI ck;by_cases h:a=q
 ·subst h;simp
 ·rw[NY h];simp[h]
def Jp(A:oo C)(hg:C.g "_NODE_OUT" (.int (-1)))(R:tB s rdy)(hs:∀p∈rdy,p∈s.od)(k:K (.tup (rdy.map aI)) (bX {s with np:=ck s.np rdy,po:=s.po+rdy.length} [] x y tl)):abF C yT.1 [.obj 0] (bX s rdy x y tl) K:=by
 refine fM (bc (r:=false) (y7 A rfl (M2 R)) nofun λ_=>aF (Ev1.bi (d:=.tup (rdy.map aI)) (.one (z7 A R rfl)) ?_) rfl ?_)
 ·show((listItems (bX s rdy x y tl) (.obj (cp s))).bind λl=>if aE l.length=true then some (PV.tup l) else none)=_;rw[Gl R];show(if aE (rdy.map aI).length=true then some (PV.tup (rdy.map aI)) else none)=_;rw[kh R];rfl
 refine aF (eJ A rfl kD oY) rfl (da (ds:=rdy.map aI) Ev1.v rfl (kh R) (cK (λr l H=>∃pre,rdy=pre++r∧H=bX {s with np:=ck s.np pre} rdy x y tl∧l 0=some (.obj 0)∧l 1=some (.tup (rdy.map aI))∧l 2=some (.obj 1)) ?_ ?_ _ _ _ (cb [] rfl rfl rfl ⟨rfl,rfl⟩)))
 ·rintro q r l H ⟨pre,e,rfl,h0,h1,h2⟩ X hX;have hq:q∈s.od:=hs q (by rw[e];simp);refine ak _ rfl (fO (l9 (Ev1.gv hg) ((uf (s:={s with np:=ck s.np pre}) (q:=q) R.od (Ev1.v (by exact h2)) Ev1.v hq).run _ (qJ A R.od hq (aB ((hX _ _ (cb (pre++[q]) (by rw[e];simp) ?_ (by exact h0) ⟨(by exact h1),(by exact h2)⟩)).1))))));show dD {s with np:=bI (ck s.np pre) q (-1)} _ _ _=dD {s with np:=ck s.np (pre++[q])} _ _ _;rw[u6]
 ·rintro l H ⟨pre,e,rfl,h0,h1,h2⟩;rw[N6] at e;subst e;have R':tB {s with np:=ck s.np rdy} rdy:=⟨R.od,R.rd,R.le⟩;refine aA (IZ (z7 A R' h0) (CV R') (kh R) ?_);rw[show(AO.lst []:AO)=.lst (([]:List Nat).map aI) from rfl];have e:(bX {s with np:=ck s.np rdy} rdy x y tl).set (cp s) (.lst (([]:List Nat).map aI))=bX {s with np:=ck s.np rdy} [] x y tl:=FK (s:={s with np:=ck s.np rdy}) [];refine e.symm▸pW (x:=s.po) (y:=rdy.length) (Ev1.v h0) (Aq mX (by rw[A.sl];rfl) (A.ia _ kD) Gt) (Ev1.bi (.one (Ev1.v h1)) ?_) (Hb A (ct (Ev1.v h1) k));show((some (rdy.map aI).length).bind λn=>if aE n=true then some (PV.int n) else none)=_;show(if aE (rdy.map aI).length=true then some (PV.int (rdy.map aI).length) else none)=_;rw[kh R,NO];rfl
def IJ(A:oo C)(R:tB s rdy)(k:K (.bool (decide (s.fi<s.po)||!rdy.isEmpty)) (bX s rdy x y tl)):abF C Ch.1 [.obj 0] (bX s rdy x y tl) K:=by
 refine fM (bc (r:=false) (y7 A rfl (M2 R)) nofun λ_=>ct ?_ k);have hc:Ev1 C (bX s rdy x y tl) (.cmp .lt (.att (.v 0 (U 269 15 19)) ("_nfinished":Str) (U 269 15 30)) (.att (.v 0 (U 269 33 37)) ("_npassedout":Str) (U 269 33 49)) (U 269 15 49)) (λi=>[PV.obj 0][i]?) (.bool (decide (s.fi<s.po))):=
  Ev1.cmp (eJ A rfl kD Gf) (eJ A rfl kD Gt) rfl
 by_cases h:s.fi<s.po
 ·rw[N0 h] at hc ⊢;exact Ev1.orT hc rfl
 ·rw[Os h] at hc ⊢;refine Ev1.orF hc rfl (Ev1.bi (.one (z7 A R rfl)) ?_);show((listItems (bX s rdy x y tl) (.obj (cp s))).bind λl=>if aE l.length=true then some (PV.bool (!l.isEmpty)) else none)=_;rw[Gl R];show(if aE (rdy.map aI).length=true then some (PV.bool (!(rdy.map aI).isEmpty)) else none)=_;rw[kh R,List.isEmpty_map];rfl
def As(st:(Nat→Int)×List Nat)(q:Nat):(ig st q).2.length≤st.2.length+1:=by
 unfold ig;dsimp only;split
 ·rw[NP];exact Oe _
 ·exact eQ
def sJ:∀(qs:List Nat)(st:(Nat→Int)×List Nat),(qs.foldl ig st).2.length≤st.2.length+qs.length:=by
 intro qs;induction qs with
 |nil=>
  exact λ_=>Oe _
 |cons q r ihr=>
  intro st;have h1:=ihr (ig st q);have h2:=As st q;rw[List.foldl_cons,NR];exact bu h2 h1
def x8(n:Nat):∀(rs:List Nat)(st:(Nat→Int)×List Nat),(∀p∈rs,(su p).length≤n)→(rs.foldl (bN su) st).2.length≤st.2.length+n*rs.length:=by
 intro rs;induction rs with
 |nil=>
  exact λ_ _=>Oe _
 |cons p r ihr=>
  intro st h;have h1:=ihr (bN su st p) λq hq=>h q (.tail _ hq);have h2:(bN su st p).2.length≤st.2.length+(su p).length:=sJ (su p) (bI st.1 p (-2),st.2);have h3:=h p (.head _);rw[List.foldl_cons,NR,Nat.mul_succ];exact ph h3 h2 h1
theorem Ji(A:oo C)(hg:C.g "_NODE_OUT" (.int (-1)))(hd:C.g "_NODE_DONE" (.int (-2)))(R:tB s rdy){rs:List Nat}(hl:rs.length≤7)(hm:∀p∈rs,p∈s.od)(hs:∀p∈rs,(s.su p).length≤100∧∀q∈s.su p,q∈s.od)(ho:∀pre p post,rs=pre++p::post→(pre.foldl (bN s.su) (s.np,rdy)).1 p=-1)(k:K .none (bX {s with np:=(rs.foldl (bN s.su) (s.np,rdy)).1,fi:=s.fi+rs.length} (rs.foldl (bN s.su) (s.np,rdy)).2 x y tl)):abF C AM.1 [.obj 0,.tup (rs.map aI)] (bX s rdy x y tl) K:=by
 refine fM (bc (r:=false) (y7 A rfl (M2 R)) nofun λ_=>aF (eJ A rfl kD oY) rfl (da (ds:=rs.map aI) Ev1.v rfl (au (by rw[NO];exact az hl)) (cK (λr l H=>∃pre,rs=pre++r∧H=bX {s with np:=(pre.foldl (bN s.su) (s.np,rdy)).1,fi:=s.fi+pre.length} (pre.foldl (bN s.su) (s.np,rdy)).2 x y tl∧l 0=some (.obj 0)∧l 2=some (.obj 1)) ?_ ?_ _ _ _ (cb [] rfl (by show _=dD {s with fi:=s.fi+((0:Nat):Int)} _ _ _;rw[Int.natCast_zero,Int.add_zero];rfl) rfl rfl))))
 ·rintro p r l H ⟨pre,e,rfl,h0,h2⟩ X hX;have hp:p∈rs:=by rw[e];simp
  have TN:=hm p hp;refine aU (hs p hp) λUT Xj=>?_;have W7:=ho pre p r e;have OV:=x8 100 pre (s.np,rdy) λq hq=>(hs q (by rw[e];simp[hq])).1;have SD:=R.le;have hpl:pre.length≤7:=by
   have:=N2 List.length e;rw[NP] at this;exact bu (ap this) hl
  generalize Qi:pre.foldl (bN s.su) (s.np,rdy)=st at *
  have Vy:st.2.length≤100+100*7:=by
   have h1:100*pre.length≤100*7:=Nat.mul_le_mul_left _ hpl;have h2:(s.np,rdy).2.length≤100:=SD;exact ph OV h2 h1
  refine ak _ rfl (tK (d:=.obj (ga s.od p)) (r:=false) (Ev1.mth (x:=.obj 1) (ds:=[aI p]) (Ev1.v (by exact h2)) rfl (.one Ev1.v) ?_) rfl nofun λ_=>?_)
  ·show some ((aM (af p) (fL 4 s.od)).getD .none)=_;rw[nU (R.od.lt p TN) R.od.lt TN];rfl
  refine aF (zd (s:={s with np:=st.1,fi:=s.fi+pre.length}) A kU TN) rfl (bc (r:=false) ((Ev1.cmp (y:=.int (-1)) (r:=false) Ev1.v (Ev1.gv hg) ?_).t rfl) nofun λ_=>?_)
  ·exact N2 (λz=>some !z) (N0 W7)
  refine fO (l9 (Ev1.gv hd) ((Ev1.v kU).run _ (qJ A (s:={s with np:=st.1,fi:=s.fi+pre.length}) R.od TN ?_)));refine vO (f:=aI) (as:=s.su p) (zB A (s:={s with np:=bI st.1 p (-2),fi:=s.fi+pre.length}) Ev1.v TN) (by unfold jO;rw[kC (s:={s with np:=bI st.1 p (-2),fi:=s.fi+pre.length}) TN]) (au (az UT))
   (λr' l H=>∃O7,s.su p=O7++r'∧H=bX {s with np:=(O7.foldl ig (bI st.1 p (-2),st.2)).1,fi:=s.fi+pre.length} (O7.foldl ig (bI st.1 p (-2),st.2)).2 x y tl∧l 0=some (.obj 0)∧l 2=some (.obj 1)) (cb [] rfl rfl (by exact h0) (by exact h2)) ?_ ?_
  ·rintro q r' l₁ O1 ⟨O7,e',rfl,k0,k2⟩ X' hX' _;have hq:q∈s.od:=Xj q (by rw[e'];simp);have Vz:=sJ O7 (bI st.1 p (-2),st.2);have Xa:O7.length≤100:=by
    have:=N2 List.length e';rw[NP] at this;exact bu (ap this) UT
   generalize hst2:O7.foldl ig (bI st.1 p (-2),st.2)=PX at *
   refine ak _ rfl (aF (uf (s:={s with np:=PX.1,fi:=s.fi+pre.length}) (q:=q) R.od (Ev1.v (by exact k2)) Ev1.v hq) rfl (pW (x:=PX.1 q) (y:=1) Ev1.v (sA (k:=1) (kL (s:={s with np:=PX.1,fi:=s.fi+pre.length}) hq) (by rw[A.sl];rfl) rfl) Ev1.c (qJ A (s:={s with np:=PX.1,fi:=s.fi+pre.length}) R.od hq ?_)));have hv:Ev1 C (dD {s with np:=bI PX.1 q (PX.1 q-1),fi:=s.fi+pre.length} x y (.lst (PX.2.map aI)::tl)) (.att (.v 7 (U 293 19 33)) ("npredecessors":Str) (U 293 19 47)) (upd (upd l₁ 6 (aI q)) 7 (.obj (ga s.od q))) (.int (PX.1 q-1)):=by
    have:=zd (C:=C) (s:={s with np:=bI PX.1 q (PX.1 q-1),fi:=s.fi+pre.length}) (x:=x) (y:=y) (tl:=.lst (PX.2.map aI)::tl) (l:=upd (upd l₁ 6 (aI q)) 7 (.obj (ga s.od q))) (i:=7) (q:=(U 293 19 33)) (p:=(U 293 19 47)) A (a:=q) kU hq;dsimp only at this;rw[eR] at this;exact this
   have fin:∀H',H'=bX {s with np:=(ig PX q).1,fi:=s.fi+pre.length} (ig PX q).2 x y tl→X' .next (upd (upd l₁ 6 (aI q)) 7 (.obj (ga s.od q))) H':=λH' e=>by
    refine(hX' _ _ ?_ (cb (O7++[q]) (by rw[e'];simp) ?_ (by exact k0) (by exact k2))).1
    ·rw[e];exact(kC (s:={s with np:=(ig PX q).1,fi:=s.fi+pre.length}) TN).trans (kC (s:={s with np:=bI st.1 p (-2),fi:=s.fi+pre.length}) TN).symm
    ·rw[List.foldl_append,hst2];exact e
   refine bc (r:=decide (PX.1 q-1=0)) ((Ev1.cmp (y:=.int 0) hv Ev1.c rfl).t rfl) (λh=>?_) λh=>aB (fin _ ?_)
   ·have h:=NV h;have R':tB {s with np:=bI PX.1 q (PX.1 q-1),fi:=s.fi+pre.length} rdy:=⟨R.od,R.rd,R.le⟩;refine yX (ys:=PX.2.map aI) (d:=aI q) (eJ A (by exact k0) kD (by rw[vK];exact N2 some R.rd)) (uP (s:={s with np:=bI PX.1 q (PX.1 q-1),fi:=s.fi+pre.length}) 0) Ev1.v (au (by
     rw[NO];have h3:((bI st.1 p (-2),st.2):(Nat→Int)×List Nat).2.length≤800:=Vy;exact ph Vz Xa h3)) (aB (aA (aB (fin _ ?_))))
    have e2:PX.2.map aI++[aI q]=(PX.2++[q]).map aI:=by rw[OI];rfl
    rw[e2];have e3:(ig PX q).2=PX.2++[q]:=N1 h;rw[e3];exact tS (s:={s with np:=bI PX.1 q (PX.1 q-1),fi:=s.fi+pre.length}) 0 _
   ·have h:=of_decide_eq_false h;have e3:(ig PX q).2=PX.2:=NY h;rw[e3];rfl
  ·rintro l₁ O1 ⟨O7,e',rfl,k0,k2⟩;rw[N6] at e';subst e';refine pW (x:=s.fi+pre.length) (y:=1) (Ev1.v k0) (Aq mX (by rw[A.sl];rfl) (A.ia _ kD) Gf) Ev1.c (Ju A (aB (hX _ _ (cb (pre++[p]) (by rw[e];simp) ?_ k0 k2)).1));have e4:(pre++[p]).foldl (bN s.su) (s.np,rdy)=(s.su p).foldl ig (bI st.1 p (-2),st.2):=by rw[List.foldl_append,Qi];rfl
   rw[e4,NP];show dD {s with np:=_,fi:=s.fi+pre.length+1} _ _ _=dD {s with np:=_,fi:=s.fi+((pre.length+1:Nat):Int)} _ _ _;rw[Int.natCast_add,Int.add_assoc];rfl
 ·rintro l H ⟨pre,e,rfl,h0,h2⟩;rw[N6] at e;subst e;exact aA (aB k)
end
end
section
abbrev Sk:=List (Nat×Nat×Nat)
noncomputable def pM(su:Nat→List Nat):List Nat→Prop
 |[]=>True
 |p::r=>p∉r∧(∀q∈su p,q∈r)∧pM su r
noncomputable def vH(su:Nat→List Nat)(fin:List Nat):Sk→Nat→Prop
 |[],_=>True
 |f::r,c=>(1≤f.2.1∧(su f.1)[f.2.1-1]?=some c)∧(∀q∈(su f.1).take (f.2.1-1),q∈fin)∧vH su fin r f.1
def pH(su:Nat→List Nat)(fin:List Nat):Sk→Prop
 |[]=>True
 |e::r=>(∀q∈(su e.1).take e.2.1,q∈fin)∧vH su fin r e.1
def Jy(su:Nat→List Nat)(od:List Nat):Prop:=∃C:List Nat,C≠[]∧(∀q∈C,q∈od)∧∀q∈C,∃p∈C,q∈su p
section
theorem vH.mono{fin':List Nat}(h:∀q∈fin,q∈fin'):∀{stk:Sk}{c:Nat},vH su fin stk c→vH su fin' stk c:=by
 intro stk;induction stk with
 |nil=>
  intro _ _;exact trivial
 |cons _ _ ihr=>
  intro _ b;exact⟨b.1,λq hq=>h q (b.2.1 q hq),ihr b.2.2⟩
def xF{l:List Nat}{q c:Nat}(h1:1≤i)(h:l[i-1]?=some c)(hq:q∈l.take i):q∈l.take (i-1)∨q=c:=by
 obtain⟨k,rfl⟩:∃k,i=k+1:=⟨i-1,(ac h1).symm⟩;rw[Nat.add_sub_cancel] at h ⊢;rw[List.take_add_one,h] at hq;rcases Ot.mp hq with hq | hq
 ·exact .inl hq
 ·exact .inr (NX.mp hq)
theorem vH.settle{stk:Sk}{c:Nat}(b:vH su fin stk c)(h:c∈fin):pH su fin stk:=by
 cases stk with
 |nil=>trivial
 |cons f r=>
  refine bV b λTD h3 h4=>?_;obtain⟨h1,h2⟩:=TD;refine⟨λq hq=>?_,h4⟩;rcases xF h1 h2 hq with hq | rfl
  ·exact h3 q hq
  ·exact h
def vH.acu{v:Nat}:∀{stk:Sk}{c:Nat},vH su fin stk c→v∈stk.map (·.1)→∃C:List Nat,v∈C∧(∀q∈C,q∈stk.map (·.1))∧(∃p∈C,c∈su p)∧∀q∈C,q≠v→∃p∈C,q∈su p:=by
 intro stk;induction stk with
 |nil=>intros;contradiction
 |cons f r ihr=>
  intro c Sa hv;refine bV Sa λYr h3 h4=>?_;obtain⟨h1,h2⟩:=Yr;have hc:c∈su f.1:=List.mem_of_getElem? h2;by_cases e:v=f.1
  ·subst e;exact cb [f.1] (by simp) (by simp) (ak f.1 (by simp) hc) (λq hq n=>absurd (NX.mp hq) n)
  ·have hv:v∈r.map (·.1):=(NU.mp hv).resolve_left e;refine c9 (ihr h4 hv) λC k1 k2 R6=>aU R6 λV0 k4=>?_;obtain⟨p,kp,k3⟩:=V0;refine cb (f.1::C) (.tail _ k1) (λq hq=>?_) (ak f.1 (.head _) hc) (λq hq n=>?_)
   ·rcases NU.mp hq with rfl | hq
    ·exact .head _
    ·exact .tail _ (k2 q hq)
   ·rcases NU.mp hq with rfl | hq
    ·exact ak p (.tail _ kp) k3
    ·exact(k4 q hq n).imp λp q=>⟨.tail _ q.1,q.2⟩
def vH.cyc{stk:Sk}{c:Nat}(b:vH su fin stk c)(hc:c∈stk.map (·.1))(ho:∀q∈stk.map (·.1),q∈od):Jy su od:=by
 refine c9 (b.acu hc) λC k1 k2 R7=>aU R7 λk3 k4=>aV C (λe=>(by rw[e] at k1;cases k1)) (λq hq=>ho q (k2 q hq)) (λq hq=>?_);by_cases e:q=c
 ·exact e▸k3
 ·exact k4 q hq e
def pH.pop{e:Nat×Nat×Nat}{r:Sk}(h:pH su fin (e::r))(hl:(su e.1).length≤e.2.1):(∀q∈su e.1,q∈fin)∧pH su (e.1::fin) r:=by
 exact aU h λh1 h2=>⟨λq hq=>h1 q (by rw[List.take_of_length_le hl];exact hq),(h2.mono λq hq=>.tail _ hq).settle (.head _)⟩
def pH.next{e:Nat×Nat×Nat}{r:Sk}{v:Nat}(h:pH su fin (e::r))(hv:(su e.1)[e.2.1]?=some v):vH su fin ((e.1,e.2.1+1,e.2.2)::r) v:=
 ⟨⟨Nat.le_add_left _ _,hv⟩,h.1,h.2⟩
end
noncomputable def oq:Sk→List (Str×PV)
 |[]=>[]
 |e::r=>oq r++[(af e.1,.int r.length)]
def GG{e:Nat×Nat×Nat}{r:Sk}:oq (e::r)=oq r++[(af e.1,.int r.length)]:=rfl
def dH(s:Sr)(rdy:List Nat)(x y:AO)(stk:Sk)(sn:List Nat)(ep:Nat)(junk:AH):AH:=
 bX s rdy x y (.lst (stk.reverse.map λe=>aI e.1)::.lst (stk.reverse.map λe=>.obj (cp s+5+e.2.2))::.set (sn.map af)::.dict (oq stk) ep::junk)
structure Jk(s:Sr)(stk:Sk)(junk:AH):Prop where
 at_:∀e∈stk,junk[e.2.2]?=some (.nxt (ga s.od e.1+1) e.2.1)
 nd:(stk.map (·.2.2)).Nodup
structure Ds(s:Sr)(fin:List Nat)(stk:Sk)(sn:List Nat):Prop where
 fn:pM s.su fin
 nd:(fin++stk.map (·.1)).Nodup
 od:∀p∈fin++stk.map (·.1),p∈s.od
 sm:∀p,p∈sn↔p∈fin++stk.map (·.1)
 snd:sn.Nodup
section
variable{s:Sr}{x y:AO}{stk:Sk}{p:Nat}
def jd(i:Nat):(bX s rdy x y tl)[cp s+1+i]?=tl[i]?:=by rw[Nat.add_assoc];exact(uP (1+i)).trans (by rw[Nat.add_comm];rfl)
def gw(i:Nat)(o:AO):(bX s rdy x y tl).set (cp s+1+i) o=bX s rdy x y (tl.set i o):=by
 rw[Nat.add_assoc];exact(tS (1+i) o).trans (by rw[Nat.add_comm];rfl)
def qG:(bX s rdy x y tl).length=cp s+1+tl.length:=by
 show(dD _ _ _ _).length=_;rw[qO,NR];exact dG
def ul(r:AH):bX s rdy x y tl++r=bX s rdy x y (tl++r):=pL r
def rg:∀stk:Sk,(oq stk).map (·.1)=stk.reverse.map λe=>af e.1:=by
 intro stk;induction stk with
 |nil=>
  exact rfl
 |cons e r ihr=>
  show(oq r++[_]).map _=_;rw[OI,ihr,List.reverse_cons,OI];rfl
def vP:∀stk:Sk,(oq stk).length=stk.length:=by
 intro stk;induction stk with
 |nil=>
  exact rfl
 |cons e r ihr=>
  show(oq r++[_]).length=_;rw[NP,ihr];rfl
def Ce{α:Type}{k:Str}:∀(a b:List (Str × α)),aM k (a++b)=(aM k a).or (aM k b):=by
 intro a;induction a with
 |nil=>
  exact λb=>rfl
 |cons x a ihr=>
  intro b;show(if x.1=k then some x.2 else aM k (a++b))=(if x.1=k then some x.2 else aM k a).or (aM k b);by_cases e:x.1=k
  ·rw[N1 e,N1 e];rfl
  ·rw[NY e,NY e];exact ihr b
def ww{k:Str}:∀{a:List (Str×PV)},k∉a.map (·.1)→b9 k d a=a++[(k,d)]:=by
 intro a;induction a with
 |nil=>
  exact λ_=>rfl
 |cons x a ihr=>
  intro h;rw[lC];rw[NY λ(e:x.1=k)=>h (e▸.head _),ihr λq=>h (.tail _ q)];rfl
def Dy{k:Str}:∀{a:List (Str×PV)},k∉a.map (·.1)→dM k (a++[(k,d)])=a:=by
 intro a;induction a with
 |nil=>
  intro _;show(if k=k then dM k [] else _)=_;rw[N1 rfl];rfl
 |cons x a ihr=>
  intro h;show dM k (x::(a++_))=_;rw[lL];rw[NY λ(e:x.1=k)=>h (e▸.head _),ihr λq=>h (.tail _ q)]
def gD{l:List Nat}(hp:p<7)(hl:∀q∈l,q<7)(h:p∉l):af p∉l.map af:=λq=>by
 exact ay (Oj.mp q) λr hr e=>h (e6 (hl r hr) hp e▸hr)
def mf:∀{stk:Sk},(∀e∈stk,e.1<7)→p<7→((aM (af p) (oq stk)).isSome=decide (p∈stk.map (·.1)))∧∀d,aM (af p) (oq stk)=some d→∃k:Nat,d=.int k∧k<stk.length:=by
 intro stk;induction stk with
 |nil=>
  exact λ_ _=>⟨rfl,nofun⟩
 |cons e r ihr=>
  refine λhl hp=>aU (ihr (λf hf=>hl f (.tail _ hf)) hp) λh1 h2=>?_;rw[GG];rw[Ce];have he:aM (af p) [(af e.1,PV.int r.length)]=if e.1=p then some (.int r.length) else none:=by
   rw[ey];by_cases q:e.1=p
   ·rw[N1 (N2 af q),N1 q]
   ·rw[NY λz=>q (e6 (hl e (.head _)) hp z),NY q];rfl
  rw[he];constructor
  ·rw[Option.isSome_or,h1,OF];by_cases q:e.1=p
   ·subst q;simp
   ·rw[NY q];simp only[Option.isSome_none,Bool.or_false];congr 1;simp[Ne.symm q]
  ·intro d hd;cases hr:aM (af p) (oq r) with
   |some d'=>
    rw[hr] at hd;exact ay (h2 d' hr) λk hk Po=>ak k ((NW hd).symm.trans hk) (Nat.lt_succ_of_lt Po)
   |none=>
    rw[hr] at hd;by_cases q:e.1=p
    ·rw[N1 q] at hd;exact ak r.length ((NW hd).symm) (Nat.lt_succ_self _)
    ·rw[NY q] at hd;cases hd
end
end
variable{stk:Sk}
section
structure Lc(s:Sr)(l:Loc):Prop where
 l0:l 0=some (.obj 0)
 l1:l 1=some (.obj 1)
 l2:l 2=some (.obj (cp s+1))
 l3:l 3=some (.obj (cp s+1+1))
 l4:l 4=some (.obj (cp s+1+2))
 l5:l 5=some (.obj (cp s+1+3))
noncomputable def Mi(stk:Sk):Nat:=(stk.map λe=>7-e.2.1).sum
def mu(sn:List Nat)(stk:Sk):Nat:=20*(7-sn.length)+Mi stk
abbrev mP:Stmt:=b7 (bP 33 8) [5,0,1,0,1]
section
variable{K:PV→AH→Prop}{s:Sr}{x y:AO}
theorem Lc.upd{v:Nat}(h:Lc s l):Lc s (upd l 6 (aI v)):=⟨h.l0,h.l1,h.l2,h.l3,h.l4,h.l5⟩
def JI:(dH s rdy x y stk sn ep junk)[cp s+1]?=some (.lst (stk.reverse.map λe=>aI e.1)):=jd 0
def IB:(dH s rdy x y stk sn ep junk)[cp s+1+1]?=some (.lst (stk.reverse.map λe=>.obj (cp s+5+e.2.2))):=jd 1
def Kl:(dH s rdy x y stk sn ep junk)[cp s+1+2]?=some (.set (sn.map af)):=jd 2
def Jc:(dH s rdy x y stk sn ep junk)[cp s+1+3]?=some (.dict (oq stk) ep):=jd 3
def Mn(i:Nat):(dH s rdy x y stk sn ep junk)[cp s+5+i]?=junk[i]?:=by
 rw[show cp s+5+i=cp s+1+(i+4) by exact dG];exact jd (i+4)
def wt(i:Nat)(o:AO):(dH s rdy x y stk sn ep junk).set (cp s+5+i) o=dH s rdy x y stk sn ep (junk.set i o):=by
 rw[show cp s+5+i=cp s+1+(i+4) by exact dG];exact gw (i+4) o
theorem Ds.lt(D:Ds s fin stk sn)(O:Od s.od):∀e∈stk,e.1<7:=λe he=>O.lt _ (D.od _ (List.mem_append_right _ (List.mem_map_of_mem he)))
def Ds.snl(D:Ds s fin stk sn)(O:Od s.od):sn.length≤7:=ed ⟨D.snd,λp hp=>O.lt _ (D.od _ ((D.sm p).mp hp))⟩
def Ds.stl(D:Ds s fin stk sn)(O:Od s.od):stk.length≤7:=by
 have h:=(List.nodup_append.mp D.nd).2.1;have:=ed (od:=stk.map (·.1)) ⟨h,λp hp=>O.lt _ (D.od _ (List.mem_append_right _ hp))⟩
 rwa [NO] at this
def Gw(O:Od s.od)(D:Ds s fin stk sn){v:Nat}(hv:v∈s.od){q1 q2 p:Pos}(h6:l 6=some (aI v))(L:Lc s l):qn C (dH s rdy x y stk sn ep junk) (.cmp .isIn (.v 6 q1) (.v 4 q2) p) l (decide (v∈sn)):=by
 refine(Ev1.cmp (r:=decide (v∈sn)) (Ev1.v h6) (Ev1.v L.l4) ?_).t rfl;show((dH s rdy x y stk sn ep junk)[cp s+1+2]?.bind (AO.acv (af v)))=_;rw[Kl];show some (decide (af v∈sn.map af))=_;congr 1;by_cases h:v∈sn
 ·rw[N0 h,N0 (List.mem_map_of_mem h)]
 ·rw[Os h,Os (gD (O.lt v hv) (λq hq=>O.lt _ (D.od _ ((D.sm q).mp hq))) h)]
def IG(O:Od s.od)(D:Ds s fin stk sn){v:Nat}(hv:v∈s.od){q1 q2 p:Pos}(h6:l 6=some (aI v))(L:Lc s l):qn C (dH s rdy x y stk sn ep junk) (.cmp .isIn (.v 6 q1) (.v 5 q2) p) l (decide (v∈stk.map (·.1))):=by
 refine(Ev1.cmp (r:=decide (v∈stk.map (·.1))) (Ev1.v h6) (Ev1.v L.l5) ?_).t rfl;show((dH s rdy x y stk sn ep junk)[cp s+1+3]?.bind (AO.acv (af v)))=_;rw[Jc];exact N2 some (mf (D.lt O) (O.lt v hv)).1
def mo{p q:Nat}{a b:List Nat}:q∈a++p::b↔q∈(p::a)++b:=by
 simp only[Ot,NU];constructor
 ·rintro(h | h | h)
  ·exact .inl (.inr h)
  ·exact .inl (.inl h)
  ·exact .inr h
 ·rintro((h | h) | h)
  ·exact .inr (.inl h)
  ·exact .inl h
  ·exact .inr (.inr h)
def Ds.done{e:Nat×Nat×Nat}(D:Ds s fin (e::stk) sn)(hs:∀q∈s.su e.1,q∈fin):Ds s (e.1::fin) stk sn:=by
 have hp:(fin++e.1::stk.map (·.1)).Perm ((e.1::fin)++stk.map (·.1)):=List.perm_middle;have nd:(fin++e.1::stk.map (·.1)).Nodup:=D.nd;exact⟨⟨λh=>(List.nodup_append.mp nd).2.2 _ h _ (.head _) rfl,hs,D.fn⟩,hp.nodup_iff.mp nd,λp h=>D.od p (mo.mpr h),λp=>(D.sm p).trans mo,D.snd⟩
def Ds.push{v:Nat}(D:Ds s fin stk sn)(h:v∉sn)(hv:v∈s.od):Ds s fin ((v,0,i)::stk) (v::sn):=by
 have hn:v∉fin++stk.map (·.1):=λq=>h ((D.sm v).mpr q);have hp:(fin++v::stk.map (·.1)).Perm (v::(fin++stk.map (·.1))):=List.perm_middle;refine⟨D.fn,hp.nodup_iff.mpr (OE.mpr ⟨hn,D.nd⟩),λp q=>?_,λp=>?_,OE.mpr ⟨h,D.snd⟩⟩
 ·rcases NU.mp (hp.mem_iff.mp q) with rfl | q
  ·exact hv
  ·exact D.od p q
 ·show p∈v::sn↔p∈fin++v::stk.map (·.1);rw[hp.mem_iff,NU,NU,D.sm]
def Ds.same{e f:Nat×Nat×Nat}(D:Ds s fin (e::stk) sn)(h:f.1=e.1):Ds s fin (f::stk) sn:=by
 obtain⟨a,b,c,d,e'⟩:=D;rw[OF,← h] at b c d;exact⟨a,b,c,d,e'⟩
def Gd(Xm:∀l H K,DQ l H K→C.xt mP ["StopIteration"] [2,3,5,6] l H K)(O:Od s.od)(RW:∀p∈s.od,(s.su p).length≤7∧∀q∈s.su p,q∈s.od){K:Fl→Loc→AH→Prop}{SS:Nat}(L:Lc s l)(J:Jk s stk junk)(D:Ds s fin stk sn)(S:pH s.su fin stk)(hr:SS∈fin++stk.map (·.1))(hn:mu sn stk≤n)(k1:∀fin' l' QK PW Ph,Lc s l'→Ds s fin' [] QK→SS∈fin'→(∀p∈fin,p∈fin')→K .brk l' (dH s rdy x y [] QK PW Ph))(k2:∀fin' P5 l' QK PW Ph v,Lc s l'→l' 6=some (aI v)→v∈s.od→Jk s P5 Ph→Ds s fin' P5 QK→vH s.su fin' P5 v→SS∈fin'++P5.map (·.1)→(∀p∈fin,p∈fin')→mu QK P5<n→K .next l' (dH s rdy x y P5 QK PW Ph)):
  Xb C (.cons (.ext mP ["StopIteration"] [2,3,5,6]) .nil) l (dH s rdy x y stk sn ep junk) K:=by
 obtain⟨I,hI⟩:∃I:Nat→Loc→AH→Prop,∀m l H,I m l H↔∃fin' P5 PW Ph,m=P5.length∧Lc s l∧H=dH s rdy x y P5 sn PW Ph∧Jk s P5 Ph∧Ds s fin' P5 sn∧pH s.su fin' P5∧SS∈fin'++P5.map (·.1)∧mu sn P5≤n∧∀p∈fin,p∈fin':=⟨_,λ_ _ _=>Iff.rfl⟩;refine abd (Xm _ _ _ (ak I ⟨_,(hI _ _ _).mpr (aG fin stk (aJ ep junk rfl L rfl J (bY D S hr hn (λ_ h=>h))))⟩ (λm l H hi=>bl ((hI _ _ _).mp hi) λfin' P5 PW Ph O8 Qe=>?_)));obtain rfl:=O8;refine bV Qe λL' PA QW=>?_;obtain rfl:=PA;refine dO QW λJ' D' S' Si QI=>aU QI λSg Se=>?_;clear hi;have sl:=D'.stl O;refine aG _ _ (aG _ _ (aH _ _ PW ⟨L'.l2,L'.l3,L'.l5⟩ ⟨JI,IB,Jc⟩ (av eQ) ⟨⟨by rw[NO,List.length_reverse];exact az sl,by rw[NO,List.length_reverse];exact az sl,by rw[vP];exact az sl⟩,?_⟩));match P5,J',D',S',Si,Sg with
 |[],J',D',S',Si,Sg=>
  exact .inl ⟨rfl,k1 fin' l sn PW Ph L' D' (by simpa using Si) Se⟩
 |e::r,J',D',S',Si,Sg=>
  have V8:e.1∈s.od:=D'.od _ (by simp);have hj:=J'.at_ e (.head _);refine aU (RW e.1 V8) λZ5 hso=>.inr (aG (r.reverse.map λe=>.obj (cp s+5+e.2.2)) (cp s+5+e.2.2) (aH (ga s.od e.1+1) e.2.1 ((s.su e.1).map aI) ?_ ?_ ((Mn _).trans hj) ⟨(kC V8),?_⟩))
  ·intro q;have:=N2 List.length q;simp at this
  ·rw[List.reverse_cons,OI];rfl
  have nl:=(OE.mp J'.nd);by_cases hi:e.2.1<(s.su e.1).length
  ·refine .inl (ak (aI ((s.su e.1)[e.2.1])) (by rw[List.getElem?_map,Oz hi];rfl) ?_);rw[wt];have e1:dH s rdy x y (e::r) sn PW (Ph.set e.2.2 (.nxt (ga s.od e.1+1) (e.2.1+1)))=dH s rdy x y ((e.1,e.2.1+1,e.2.2)::r) sn PW (Ph.set e.2.2 (.nxt (ga s.od e.1+1) (e.2.1+1))):=by
    unfold dH;rw[GG];rw[List.reverse_cons,List.reverse_cons,OI,OI,OI,OI];rfl
   rw[e1];refine aA (aB (k2 fin' ((e.1,e.2.1+1,e.2.2)::r) _ sn PW _ _ L'.upd rfl (hso _ (List.getElem_mem hi)) ⟨λf hf=>?_,J'.nd⟩ (D'.same rfl) (S'.next (Oz hi)) Si Se ?_))
   ·rcases NU.mp hf with rfl | hf
    ·exact List.getElem?_set_self (Og.mp hj).1
    ·rw[List.getElem?_set_ne λ(q:e.2.2=f.2.2)=>nl.1 (by show e.2.2∈_;rw[q];exact List.mem_map_of_mem (f:=λe:Nat×Nat×Nat=>e.2.2) hf)];exact J'.at_ f (.tail _ hf)
   ·refine OC ?_ Sg;unfold mu Mi;simp only[OF,List.sum_cons];exact a8 (Nat.sub_lt_sub_left (m:=7) (OC hi Z5) (Nat.lt_succ_self e.2.1))
  ·refine aU (S'.pop (Nat.le_of_not_lt hi)) λq1 q2=>.inr ⟨by rw[List.getElem?_map,List.getElem?_eq_none (Nat.le_of_not_lt hi)];rfl,r.reverse.map λe=>aI e.1,af e.1,?_,?_,λV3=>?_⟩
   ·rw[List.reverse_cons,OI];rfl
   ·rw[(mf (D'.lt O) (O.lt _ V8)).1];simp
   ·have hd:dM (af e.1) (oq (e::r))=oq r:=by
     refine Dy ?_;rw[rg];have hn:=(List.nodup_append.mp D'.nd).2.1;have h1:e.1∉r.reverse.map (·.1):=by rw[List.map_reverse,List.mem_reverse];exact(OE.mp hn).1
     have:=gD (O.lt _ V8) (l:=r.reverse.map (·.1)) (λq hq=>by
      rw[List.map_reverse,List.mem_reverse] at hq;refine ay (Oj.mp hq) λf hf P2=>?_;obtain rfl:=P2;exact D'.lt O f (.tail _ hf)) h1
     rwa [List.map_map] at this
    rw[hd,wt];refine ak r.length (Nat.lt_succ_self _) ((hI _ _ _).mpr (aG (e.1::fin') r (aJ V3 (Ph.set e.2.2 .gone) rfl L' ?_ ⟨λf hf=>?_,nl.2⟩ (bY (D'.done q1) q2 ?_ (NT ?_ Sg) (λp hp=>.tail _ (Se p hp))))))
    ·unfold dH;rw[show cp s+1=cp s+1+0 from rfl,gw,gw,gw];rfl
    ·rw[List.getElem?_set_ne λ(q:e.2.2=f.2.2)=>nl.1 (by show e.2.2∈_;rw[q];exact List.mem_map_of_mem (f:=λe:Nat×Nat×Nat=>e.2.2) hf)];exact J'.at_ f (.tail _ hf)
    ·exact mo.mp Si
    ·unfold mu Mi;simp only[OF,List.sum_cons];exact eQ
end
end
section
section
variable{K:PV→AH→Prop}{s:Sr}{x y:AO}
def If:(dH s rdy x y stk sn ep junk).length=cp s+5+junk.length:=by
 unfold dH;rw[qG];simp only[NR];exact dG
def FI{o:ME}{x':XE}{zs:List PV}{K:Fl→Loc→AH→Prop}(ho:Ev1 C H o l (.obj j))(hl:listItems H (.obj j)=some zs)(h:xe C x' l H λd H'=>el (listItems H' (.obj j)) λys=>cG (aE ys.length) (Xb C rest l (H'.set j (.lst (ys++[d]))) K)):
  Xb C (.cons (.xk (.app o ap x' p r) b) rest) l H K:=abd (ho.run _ (aQ (d:=j) rfl (aQ hl h)))
def lA{k:ME}{d:PV}{y:Str}{m:List (Str×PV)}{K:Fl→Loc→AH→Prop}(he:Ev1 C H e l d)(hi:l i=some (.obj j))(hj:H[j]?=some (.dict m ep))(hk:Ev1 C H k l (.str y))(hf:aE m.length=true)(h:∀PW,Xb C rest l (H.set j (.dict (b9 y d m) PW)) K):Xb C (.cons (.abT i q k r e p) rest) l H K:=
 abd (he.run _ (aQ hi (aQ (d:=j) rfl (aQ (d:=m) (EA hj) (hk.run _ (aQ rfl (bE hf h)))))))
def Fi{v:Nat}(D:Ds s fin stk sn)(O:Od s.od)(hv:v∈s.od)(hn:v∉sn)(hl:v∈s.od){K:Fl→Loc→AH→Prop}(L:Lc s l)(h6:l 6=some (aI v))(A:oo C)(hs7:(s.su v).length≤7){p1 p2 p3 p4 p5 p6 p7 p8 p9 Qt QY p12 RX RY Te Tf Th RZ R0 Ti TX TY Tz TZ p25 p26 p27 p28:Pos}{b1 b2:MB}(k:∀PW,Xb C rest l (dH s rdy x y ((v,0,junk.length)::stk) (v::sn) PW (junk++[.nxt (ga s.od v+1) 0])) K):
  Xb C (.cons (.xk (.ab0 (.v 4 p1) p2 (.v 6 p3) p4 p5) b1) (.cons (.xk (.app (.v 3 p6) p7 (.nxt p8 (.att (.idx (.v 1 p9) (.v 6 Qt) QY) ("successors":Str) p12) RX RY) Te Tf) b2) (.cons (.abT 5 Th (.v 6 RZ) R0 (.bi .len Ti (.cons (.v 2 TX) .nil) TY) Tz) (.cons (.app 2 TZ p25 (.v 6 p26) p27 p28) rest)))) l (dH s rdy x y stk sn ep junk) K:=by
 have hsn:=D.snl O;have Qi:=D.stl O;refine EY (j:=cp s+1+2) (ys:=sn.map af) (y:=af v) (Ev1.v L.l4) Kl (Ev1.v h6) (by rw[NO];exact a8 hsn) ?_;have e1:(dH s rdy x y stk sn ep junk).set (cp s+1+2) (.set (af v::sn.map af))=dH s rdy x y stk (v::sn) ep junk:=gw 2 _;rw[e1];have hn2:Ev1 C (dH s rdy x y stk (v::sn) ep junk) (.att (.idx (.v 1 p9) (.v 6 Qt) QY) ("successors":Str) p12) l (.obj (ga s.od v+1)):=zB A (uf (q:=v) O (Ev1.v L.l1) (Ev1.v h6) hv) hv;have hit:listItems (dH s rdy x y stk (v::sn) ep junk) (.obj (cp s+1+1))=some (stk.reverse.map λe=>.obj (cp s+5+e.2.2)):=jt IB;refine FI (Ev1.v L.l3) hit (HI (ds:=(s.su v).map aI) hn2 (jt (kC (s:=s) hv)) ?_);rw[If];have e2:dH s rdy x y stk (v::sn) ep junk++[.nxt (ga s.od v+1) 0]=dH s rdy x y stk (v::sn) ep (junk++[.nxt (ga s.od v+1) 0]):=ul _;rw[e2];refine aQ (d:=stk.reverse.map λe=>.obj (cp s+5+e.2.2)) (jt IB) (bE (au (by rw[NO,List.length_reverse];exact az Qi)) ?_);have e3:(dH s rdy x y stk (v::sn) ep (junk++[.nxt (ga s.od v+1) 0])).set (cp s+1+1) (.lst ((stk.reverse.map λe=>.obj (cp s+5+e.2.2))++[.obj (cp s+5+junk.length)])) =
   bX s rdy x y (.lst (stk.reverse.map λe=>aI e.1)::.lst ((((v,0,junk.length)::stk).reverse).map λe=>.obj (cp s+5+e.2.2))::.set ((v::sn).map af)::.dict (oq stk) ep::(junk++[.nxt (ga s.od v+1) 0])):=by
  unfold dH;rw[gw,List.reverse_cons,OI];rfl
 rw[e3];refine lA (d:=.int stk.length) (y:=af v) (m:=oq stk) (Ev1.bi (.one (Ev1.v L.l2)) ?_) L.l5 (jd 3) (Ev1.v h6) (au (by rw[vP];exact az Qi)) λPW=>?_
 ·show((Bx _ (.obj (cp s+1))).bind λn=>if aE n=true then some (PV.int n) else none)=_;have hl:Bx (bX s rdy x y (.lst (stk.reverse.map λe=>aI e.1)::.lst ((((v,0,junk.length)::stk).reverse).map λe=>.obj (cp s+5+e.2.2))::.set ((v::sn).map af)::.dict (oq stk) ep::(junk++[.nxt (ga s.od v+1) 0]))) (.obj (cp s+1))=some stk.length:=by
   have:=jd (s:=s) (rdy:=rdy) (x:=x) (y:=y) (tl:=(.lst (stk.reverse.map λe=>aI e.1)::.lst ((((v,0,junk.length)::stk).reverse).map λe=>.obj (cp s+5+e.2.2))::.set ((v::sn).map af)::.dict (oq stk) ep::(junk++[.nxt (ga s.od v+1) 0]))) 0;unfold Bx;dsimp only;rw[show cp s+1=cp s+1+0 from rfl,this];show some (stk.reverse.map λe=>aI e.1).length=_;rw[NO,List.length_reverse]
  rw[hl];show(if aE stk.length=true then some (PV.int stk.length) else none)=_;rw[au (az Qi)];rfl
 have hv7:=O.lt v hv;have hvs:v∉stk.map (·.1):=λq=>hn ((D.sm v).mpr (List.mem_append_right _ q));have Xd:b9 (af v) (.int stk.length) (oq stk)=oq ((v,0,junk.length)::stk):=by
  refine ww ?_;rw[rg];have:=gD hv7 (l:=stk.reverse.map (·.1)) (λq hq=>by
   rw[List.map_reverse,List.mem_reverse] at hq;refine ay (Oj.mp hq) λf hf Pt=>?_;obtain rfl:=Pt;exact D.lt O f hf) (by rw[List.map_reverse,List.mem_reverse];exact hvs)
  rwa [List.map_map] at this
 rw[Xd,gw 3];refine(abi (j:=cp s+1) (ys:=stk.reverse.map λe=>aI e.1) (d:=aI v) L.l2 (jd 0) (au (by rw[NO,List.length_reverse];exact az Qi)) (Ev1.v h6) ?_);have e4:∀q,(bX s rdy x y (.lst (stk.reverse.map λe=>aI e.1)::q)).set (cp s+1) (.lst ((stk.reverse.map λe=>aI e.1)++[aI v]))=bX s rdy x y (.lst ((((v,0,junk.length)::stk).reverse).map λe=>aI e.1)::q):=λq=>by
  rw[show cp s+1=cp s+1+0 from rfl,gw,List.reverse_cons,OI];rfl
 exact(e4 _).symm▸k PW
end
end
section
section
variable{K:PV→AH→Prop}{s:Sr}{x y:AO}
def yF{k:Nat}{K:Fl→Loc→AH→Prop}(I:Nat→Loc→AH→Prop)(h0:I n l H)(h:∀n l H,I n l H→Xb C b l H (eM (λl' H'=>∃m,m<n∧I m l' H') (gS C rest K))):Xb C (.cons (.aby (.c (.bool true) k q) b p) rest) l H K:=
 mE (ak I ⟨n,h0⟩ (λn l H i=>by
  show pe C H (.c (.bool true) k q) l λd=>el (bB H d) λr=>br r _ _;exact aQ (d:=PV.bool true) rfl (aQ (d:=true) rfl ((h n l H i).run))))
theorem Hd(A:oo C)(Xm:∀l H K,DQ l H K→C.xt mP ["StopIteration"] [2,3,5,6] l H K)(R:tB s rdy)(RW:∀p∈s.od,(s.su p).length≤7∧∀q∈s.su p,q∈s.od)(k1:∀fin junk,pM s.su fin→(∀p∈s.od,p∈fin)→fin.Nodup→K .none (bX s rdy x y junk))(k2:∀c junk,c≠[]→c.length≤100→Jy s.su s.od→K (.lst c) (bX s rdy x y junk)):abF C BW.1 [.obj 0] (bX s rdy x y []) K:=by
 have O:=R.od;have Sh:=ed O;refine fM (aF (eJ A rfl kD oY) rfl (cW (cW (mT ?_))));show Xb C _ _ _ _;refine FS λep=>?_;have e0:(bX s rdy x y []).length=cp s+1:=qG;simp only[ul,qG];show Xb C _ _ (dH s rdy x y [] [] ep []) _;obtain⟨I,hI⟩:∃I:List Nat→Loc→AH→Prop,∀r l H,I r l H↔∃pre fin sn ep junk,s.od=pre++r∧Lc s l∧H=dH s rdy x y [] sn ep junk∧Ds s fin [] sn∧∀p∈pre,p∈fin:=⟨_,λ_ _ _=>Iff.rfl⟩;refine vO (f:=aI) (j:=1) (as:=s.od) Ev1.v ?_ (au (az Sh)) I ((hI _ _ _).mpr
  (aG [] [] (aH [] ep [] rfl ⟨rfl,rfl,rfl,rfl,rfl,rfl⟩ rfl ⟨⟨trivial,List.nodup_nil,nofun,λp=>⟨nofun,nofun⟩,List.nodup_nil⟩,nofun⟩))) ?_ ?_
 ·show(match some (AO.dict (fL 4 s.od) s.ep) with
   |some (.lst l)=>some l
   |some (.dict l _)=>some (l.map λx:Str×PV=>PV.str x.1)
   |_=>none)=_
  exact N2 some (yk s.od 4)
 ·refine λv r l₁ O1 hi X hX hR=>bh ((hI _ _ _).mp hi) λpre fin sn ep R5=>c9 R5 λjunk U4 L QI=>aU QI λP2 Qe=>?_;obtain rfl:=P2;refine aU Qe λD Pj=>ak _ rfl ?_;have hv:v∈s.od:=by rw[U4];simp
  have d1:∀sn ep junk,(dH s rdy x y [] sn ep junk)[1]?=(bX s rdy x y [])[1]?:=λ_ _ _=>rfl;have again:∀l' fin' QK PW Ph,Lc s l'→Ds s fin' [] QK→v∈fin'→(∀p∈fin,p∈fin')→X .next l' (dH s rdy x y [] QK PW Ph)∧X .cont l' (dH s rdy x y [] QK PW Ph):=λl' fin' QK PW Ph L' D' Td hm=>
   hX l' _ rfl ((hI _ _ _).mpr (aG (pre++[v]) fin' (aH QK PW Ph (by rw[U4];simp) L' rfl ⟨D',(λp hp=>by
    rcases Ot.mp hp with hp | hp
    ·exact hm p (Pj p hp)
    ·exact NX.mp hp▸Td)⟩)))
  refine bc (Gw O D hv rfl L.upd) (λh=>⟨?_⟩) λh=>?_
  ·have h:=NV h;exact(again _ fin sn ep junk L.upd D (by simpa using (D.sm v).mp h) λ_ h=>h).2
  ·obtain⟨PG,Su⟩:∃I:Nat→Loc→AH→Prop,∀n l H,I n l H↔∃fin' stk sn ep junk v',n=mu sn stk∧Lc s l∧l 6=some (aI v')∧v'∈s.od∧H=dH s rdy x y stk sn ep junk∧Jk s stk junk∧Ds s fin' stk sn∧vH s.su fin' stk v'∧(v∈fin'++stk.map (·.1)∨v'=v)∧∀p∈fin,p∈fin':=⟨_,λ_ _ _=>Iff.rfl⟩;refine yF PG ((Su _ _ _).mpr (aG fin [] (aG sn ep (aJ junk v rfl L.upd rfl hv (bY rfl ⟨nofun,List.nodup_nil⟩ D trivial ⟨(.inr rfl),(λ_ h=>h)⟩))))) (λn l₂ Pd Vt=>bh ((Su _ _ _).mp Vt) λfin' stk QK PW Q7=>aP Q7 λPh v' Pm UP=>?_);obtain rfl:=Pm;refine dO UP λL' h6 Td Qm UK=>?_;obtain rfl:=Qm;refine dO UK λJ D' B hr hm=>?_;have T0:∀{stk₂:Sk}{sn₂:List Nat}{Py:Nat}{junk₂:AH},Jk s stk₂ junk₂→Ds s fin' stk₂ sn₂→pH s.su fin' stk₂→v∈fin'++stk₂.map (·.1)→mu sn₂ stk₂≤mu QK stk →
     Xb C (.cons (.ext mP ["StopIteration"] [2,3,5,6]) .nil) l₂ (dH s rdy x y stk₂ sn₂ Py junk₂) (eM (λl' H'=>∃m,m<mu QK stk∧PG m l' H') (gS C .nil X)):=λWq Wi Qq VH W2=>
    Gd Xm O RW L' Wq Wi Qq VH W2 (λRg l' SP So QR T7 T4 SH Sz=>aA (aB (again l' Rg SP So QR T7 T4 SH λp hp=>Sz p (hm p hp)).1))
     λRg Uw l' SP So QR Qc T7 Va SH Wr T4 Wh VI Sz Po=>cP (ak _ Po ((Su _ _ _).mpr (aG Rg Uw (aG SP So (aJ QR Qc rfl T7 Va SH (bY rfl Wr T4 Wh ⟨(.inl VI),(λp hp=>Sz p (hm p hp))⟩))))))
   refine cM (Gw O D' Td h6 L') (λh=>?_) λh=>?_
   ·have h:=NV h;have YR:=(D'.sm v').mp h;refine bc (IG O D' Td h6 L') (λh2=>?_) λh2=>aB (aA ?_)
    ·have h2:=NV h2;refine aU (mf (D'.lt O) (O.lt v' Td)) λq1 q2=>?_;rw[N0 h2] at q1;refine a9 (Option.isSome_iff_exists.mp q1) λd hd=>ay (q2 d hd) λk QF hk=>?_;obtain rfl:=QF;have Qi:=D'.stl O;refine ct (d:=.lst ((stk.reverse.map λe=>aI e.1).drop k++[aI v'])) (Ev1.bin (x:=.lst ((stk.reverse.map λe=>aI e.1).drop k)) (y:=.lst [aI v']) (Ev1.abp (k:=k) (x:=.obj (cp s+1)) (Ev1.v L'.l2) (Ev1.idx (x:=.obj (cp s+1+3)) (y:=aI v') (Ev1.v L'.l5) (Ev1.v h6) ?_) ?_) (Ev1.lst (.one (Ev1.v h6))) λKv q=>?_) ?_
     ·show(bf (dH s rdy x y stk QK PW Ph) (.obj (cp s+1+3))).bind (λl=>aM (af v') l)=_;rw[show bf (dH s rdy x y stk QK PW Ph) (.obj (cp s+1+3))=some (oq stk) by simp only[bf,Jc]];exact hd
     ·show(listItems (dH s rdy x y stk QK PW Ph) (.obj (cp s+1))).bind _=_;rw[show listItems (dH s rdy x y stk QK PW Ph) (.obj (cp s+1))=some (stk.reverse.map λe=>aI e.1) from jt JI];show(if(decide ((0:Int)≤k)&&(decide ((k:Int)≤(stk.reverse.map λe=>aI e.1).length)&&aE (stk.reverse.map λe=>aI e.1).length))=true then some (PV.lst ((stk.reverse.map λe=>aI e.1).drop (k:Int).toNat)) else none)=_;rw[NO,List.length_reverse,au (az Qi),N0 (Oy k),N0 (Int.ofNat_le.mpr (Nat.le_of_lt hk))];rfl
     ·rw[e8,au (by simp;exact a8 Qi)];exact q
     ·refine hR _ _ _ rfl (k2 _ _ (by simp) (by simp;exact a8 Qi) (B.cyc h2 λq hq=>D'.od q (List.mem_append_right _ hq)))
    ·have h2:=of_decide_eq_false h2;have hf:v'∈fin':=(Ot.mp YR).resolve_right h2;exact T0 J D' (B.settle hf) (hr.elim id λe=>e▸YR) (Oe _)
   ·have h:=of_decide_eq_false h;have UT:=ed (od:=v'::QK) ⟨OE.mpr ⟨h,D'.snd⟩,λp hp=>by
     rcases NU.mp hp with rfl | hp
     ·exact O.lt _ Td
     ·exact O.lt _ (D'.od _ ((D'.sm p).mp hp))⟩
    rw[NR] at UT;refine Fi D' O Td h Td L' h6 A (RW v' Td).1 λPy=>aB (aA (T0 ⟨λf hf=>?_,?_⟩ (D'.push h Td) ⟨nofun,B⟩ ?_ ?_))
    ·rcases NU.mp hf with rfl | hf
     ·exact lS
     ·have:=J.at_ f hf;rw[Ow (Og.mp this).1];exact this
    ·refine OE.mpr ⟨λq=>ay (Oj.mp q) λf hf e=>?_,J.nd⟩;have:=(Og.mp (J.at_ f hf)).1;exact Nat.ne_of_lt this e
    ·rcases hr with hr | rfl
     ·exact(List.perm_middle (a:=v') (l₁:=fin') (l₂:=stk.map (·.1))).mem_iff.mpr (.tail _ hr)
     ·exact List.mem_append_right _ (.head _)
    ·unfold mu Mi;simp only[OF,List.sum_cons,NR];rw[show 7-QK.length=7-(QK.length+1)+1 from(Nat.succ_pred_eq_of_pos (Nat.sub_pos_of_lt (by assumption))).symm];exact eQ
 ·refine λl H hi=>bh ((hI _ _ _).mp hi) λpre fin sn ep XZ=>c9 XZ λjunk U4 L X1=>aU X1 λQT S7=>?_;obtain rfl:=QT;refine aU S7 λD Pj=>?_;rw[N6] at U4;exact ct Ev1.c (k1 fin _ D.fn (λp hp=>Pj p (U4▸hp)) (by simpa using D.nd))
end
end
section
noncomputable def cu.gl(C:cu)(x:Str)(d:PV):cu:={C with g:=λy e=>(y=x∧e=d)∨C.g y e}
section
variable{m:Nat}
theorem ah.gl{v:Value}(h:ah S n C)(hg:bC S x v)(hr:∀g s,Wl S g s→abb g s.heap d v):ah S n (C.gl x d):=
 {h with g:=λy e q=>q.elim (λq=>by refine aU q λO8 Pq=>?_;obtain rfl:=O8;obtain rfl:=Pq;exact ak v hg hr) λq=>h.g y e q}
def D0:cu:=((H5.gl "_NODE_OUT" (.int (-1))).gl "_NODE_DONE" (.int (-2))).att
def GW(w:World):∃t,nsFind (nC w) ("_NODE_OUT":Str)=some (.int (-1) t):=⟨_,rfl⟩
def Da(w:World):∃t,nsFind (nC w) ("_NODE_DONE":Str)=some (.int (-2) t):=⟨_,rfl⟩
def kj(L:Laid S):ah S 30 D0:=by
 exact a9 (GW S.w) λt1 h1=>a9 (Da S.w) λt2 h2=>(((ya L).gl (x:="_NODE_OUT") (d:=.int (-1)) (L.glob h1) λ_ _ _=>⟨t1,rfl⟩).gl (x:="_NODE_DONE") (d:=.int (-2)) (L.glob h2) λ_ _ _=>⟨t2,rfl⟩).att L
def Go(h:P.C.xt=C0.xt)(st:Stmt)(gs:List Str)(is:List Nat):XS P (.ext st gs is):=λX s K Q E i ok O hx hQ=>by
 have hx:P.C.xt st gs is X.l X.H K:=hx;rw[h] at hx;exact hx.elim
def CZ(h1:C.sl=iD)(h2:C.ia=λc n=>c==291&&bU.contains n):oo C:=⟨h1,λn h=>by rw[h2];exact L5 h⟩
def D1:cu:=D0.cls "_NodeInfo" GF
def sq(L:Laid S):ah S 32 D1:=
 (kj L).cls kD (L.glob kR) (L.ab5 kR) (vQ (c:=194) (fI:=190) L kR kR kR (Tm:=M3)
  ((HF S.w).runM L (kj L) (Go rfl) iH rfl λH ds K h=>by
   refine aP h λQu d PI R8=>?_;obtain rfl:=PI;refine aU R8 λQd k=>?_;obtain rfl:=Qd;exact⟨rfl,HB rfl Qu d k⟩) λH ds K h=>by
   refine ay h λd SZ k=>?_;obtain rfl:=SZ;exact bL H d rfl rfl rfl k) rfl
def D2:cu:=D1.mth 291 "_get_nodeinfo" LL
def rG(L:Laid S):ah S 33 D2:=
 (sq L).acb kD L (Az S.w) (G8 S.w) ((Az S.w).runM L (sq L) (Go rfl) iH rfl λH ds K h=>by
  refine bl h λs x y p PY S0=>?_;obtain rfl:=PY;refine aU S0 λQS S5=>?_;obtain rfl:=QS;exact bD S5 λO hp F k=>⟨rfl,GU (CZ rfl rfl) kR (λH ds K h=>Or.inl ⟨rfl,h⟩) O hp F k⟩) rfl
def f9{c:Addr}{K:PV→AH→Prop}(h:R H ds K):(C.mth c y R).mt c y H ds K:=.inl ⟨⟨rfl,rfl⟩,h⟩
def cO{c:Addr}{y':Str}{K:PV→AH→Prop}(n:y'≠y)(h:C.mt c y' H ds K):(C.mth c y R).mt c y' H ds K:=.inr ⟨λq=>n q.2,h⟩
def D3:cu:=D2.mth 291 "add" LX
def rE(L:Laid S):ah S 34 D3:=
 (rG L).acb kD L (zH S.w) (HE S.w) ((zH S.w).acQ (ar:=2) L (rG L) (Go rfl) (λus ps h=>ID S.w us ps h) rfl λH ds K h=>by
  refine bh h λs x y p XY=>ay XY λqs QG S6=>?_;obtain rfl:=QG;refine aU S6 λRy S8=>?_;obtain rfl:=Ry;refine dO S8 λO hp hq hn UI=>bD UI λF hr hs k=>?_;have Tt:qs.length≤7:=ed (od:=qs) ⟨hn,hq⟩;exact bL [.obj 0,aI p] (qs.map aI) rfl rfl (au (by rw[NO];exact az Tt)) (Ip (CZ rfl rfl) kR (λH ds K h=>f9 h) O hp hq hn F hr hs k)) rfl
def D4:cu:=D3.mth 291 "get_ready" JL
def s7(L:Laid S):ah S 35 D4:=
 (rE L).acb kD L (zq S.w) (Iq S.w) ((zq S.w).runM L (rE L) (Go rfl) bR rfl λH ds K h=>by
  refine bh h λs rdy x y X3=>ay X3 λtl RA S9=>?_;obtain rfl:=RA;refine aU S9 λQU Ye=>?_;obtain rfl:=QU;exact bV Ye λR hs k=>⟨rfl,Jp (CZ rfl rfl) (Or.inr (Or.inl ⟨rfl,rfl⟩)) R hs k⟩) rfl
def D5:cu:=D4.mth 291 "is_active" Mb
def rP(L:Laid S):ah S 36 D5:=
 (s7 L).acb kD L (zr S.w) (IC S.w) ((zr S.w).runM L (s7 L) (Go rfl) bR rfl λH ds K h=>by
  refine bh h λs rdy x y X5=>ay X5 λtl RC Ta=>?_;obtain rfl:=RC;refine aU Ta λRD UN=>?_;obtain rfl:=RD;exact aU UN λR k=>⟨rfl,IJ (CZ rfl rfl) R k⟩) rfl
def D6:cu:=D5.mth 291 "done" LM
def so(L:Laid S):ah S 37 D6:=
 (rP L).acb kD L (y8 S.w) (IV S.w) ((y8 S.w).acQ (ar:=1) L (rP L) (Go rfl) (λus ps h=>HZ S.w us ps h) rfl λH ds K h=>by
  refine bh h λs rdy x y X6=>aP X6 λtl rs UE Yi=>?_;obtain rfl:=UE;refine aU Yi λSY Yk=>?_;obtain rfl:=SY;exact dO Yk λR hl hm hs X8=>aU X8 λho k=>bL [.obj 0] (rs.map aI) rfl rfl (au (by rw[NO];exact az hl)) (Ji (CZ rfl rfl) (Or.inr (Or.inl ⟨rfl,rfl⟩)) (Or.inl ⟨rfl,rfl⟩) R hl hm hs ho k)) rfl
def ML(H:AH)(ds:List PV)(K:PV→AH→Prop):Prop:=∃s rdy x y,H=bX s rdy x y []∧ds=[.obj 0]∧tB s rdy∧(∀p∈s.od,(s.su p).length≤7∧∀q∈s.su p,q∈s.od) ∧
 (∀fin junk,pM s.su fin→(∀p∈s.od,p∈fin)→fin.Nodup→K .none (bX s rdy x y junk))∧∀c junk,c≠[]→c.length≤100→Jy s.su s.od→K (.lst c) (bX s rdy x y junk)
def D7:cu:={D6 with xt:=λst gs is l H K=>st=mP∧gs=[("StopIteration":Str)]∧is=[2,3,5,6]∧DQ l H K}
def sy(L:Laid S):ah S 37 D7:={so L with}
def BY:∃p1 p2 p3 p4 p5 p6 p7 p8 p9 Qt QY p12 RX RY Te Tf Th RZ R0 Ti TX TY Tz TZ,mP=KM hZ p1 p2 p3 p4 p5 p6 p7 p8 p9 Qt QY p12 RX RY Te Tf Th RZ R0 Ti TX TY Tz TZ∧(RX.endLine==RY.line)=true∧(RZ.endLine==R0.line)=true:=⟨_,_,_,_,_,_,_,_,_,_,_,_,_,_,_,_,_,_,_,_,_,_,_,_,rfl,rfl,rfl⟩
def yj(L:Laid S):bC S "StopIteration" (.type "StopIteration"):=L.bi kR kD kR
def MW(L:Laid S)(st:Stmt)(gs:List Str)(is:List Nat):XS ⟨S,D7,37,hZ⟩ (.ext st gs is):=by
 intro X s K Q E i ok O hx hQ;obtain⟨rfl,rfl,rfl,hx⟩:=hx;obtain⟨p1,p2,p3,p4,p5,p6,p7,p8,p9,Qt,QY,p12,RX,RY,Te,Tf,Th,RZ,R0,Ti,TX,TY,Tz,TZ,e,e1,e2⟩:=BY;have ok:([("StopIteration":Str)].all (o0 X.ns)&&[2,3,5,6].all λi=>decide (i<hZ.length)&&gE X.ns (nm hZ i))=true:=ok;have hg:=Ob.mp (ai ok) _ (.head _);have hi:∀i∈[2,3,5,6],gE X.ns (nm hZ i)=true:=λi h=>ae (Ob.mp (ae ok) i h);show wpAny S.M X.A (exec mP X.env) Q E s;rw[e];refine w9 (P:=⟨S,D7,37,hZ⟩) (show hZ.Nodup by decide +kernel) (sy L) rfl (yj L) e1 e2 K Q E i hg (hi 2 (by simp)) (hi 3 (by simp)) (hi 5 (by simp)) ?_ O hx hQ;show((decide (6<hZ.length)&&gE X.ns (nm hZ 6))&&true&&true)=true;rw[hi 6 (by simp)];rfl
def D8:cu:=D6.mth 291 "_find_cycle" ML
def rC(L:Laid S):ah S 38 D8:=
 (so L).acb kD L (Cz S.w) (IN S.w) ((Cz S.w).runM (C:=D7) L (sy L) (MW L) bR rfl λH ds K h=>by
  refine bl h λs rdy x y UF Yl=>?_;obtain rfl:=UF;refine aU Yl λXR Ym=>?_;obtain rfl:=XR;exact bD Ym λR hs k1 k2=>⟨rfl,Hd (CZ rfl rfl) (λl H K h=>aS rfl rfl rfl h) R hs k1 k2⟩) rfl
def NA(H:AH)(ds:List PV)(K:PV→AH→Prop):Prop:=H=[]∧ds=[]∧∀ep,K (.obj 0) [.inst 291 (py (Jv ep)) [],.dict [] ep]
def D9:cu:=D8.cls "TopologicalSorter" NA
def Cp(L:Laid S):ah S 39 D9:=
 (rC L).cls kD (L.glob kR) (L.ab5 kR) (vQ (c:=291) (fI:=227) L kR kR kR (Tm:=My)
  (ek.le ((GX S.w).ac0 L (kj L) (Go rfl) (HQ S.w) kD (HD S.w) (HS S.w) rfl λH ds K h=>by
   refine aU h λXT Yn=>?_;obtain rfl:=XT;refine aU Yn λXU k=>?_;obtain rfl:=XU;exact ak _ rfl (Ja (CZ rfl rfl) k)) kD) λH ds K h=>by
   refine aU h λXV Yo=>?_;obtain rfl:=XV;refine aU Yo λXW k=>?_;obtain rfl:=XW;exact⟨rfl,rfl,λep=>⟨rfl,k ep⟩⟩) rfl
end
end
section
def LB(Kn Ke:AH→Prop):Fl→Loc→AH→Prop:=λfl l' H'=>match fl with
 |.next=>(l' 1=some .none∧Kn H')∨(∃c,c≠[]∧aE c.length=true∧l' 1=some (.lst c)∧Ke H')
 |_=>False
def qm(H:AH)(d:PV)(Kn Ke:AH→Prop):Prop:=Xb D8 o7.1 (λi=>[d][i]?) H (LB Kn Ke)
noncomputable def nS(s:Sr):List Nat:=s.od.filter λp=>decide (s.np p=0)
def xl:∀{od:List Nat}{i:Nat},od.Nodup→(fL i od).map (·.2)=od.map λp=>.obj (i+2*ix od p):=by
 intro od;induction od with
 |nil=>
  intro _ _;exact rfl
 |cons q r ihr=>
  intro i h;refine aU (OE.mp h) λh1 h2=>?_;show PV.obj i::(fL (i+2) r).map (·.2)=.obj (i+2*ix (q::r) q)::r.map λp=>.obj (i+2*ix (q::r) p);rw[ihr h2];have h0:ix (q::r) q=0:=N1 rfl;rw[h0];congr 1;refine List.map_congr_left λp hp=>?_;have:ix (q::r) p=ix r p+1:=NY λ(e:q=p)=>h1 (e▸hp);rw[this,show i+2+2*ix r p=i+2*(ix r p+1) by exact dG]
def mn:∀l:List Nat,dP (l.map aI)=some (l.map af):=by
 intro l;induction l with
 |nil=>
  exact rfl
 |cons p l ihr=>
  show(some (af p)).bind (λx=>(dP (l.map aI)).map (x::·))=_;rw[ihr];rfl
section
variable{K:PV→AH→Prop}{s:Sr}{x y:AO}
def He(O:Od s.od)(hr:s.rd=.none)(RW:∀p∈s.od,(s.su p).length≤7∧∀q∈s.su p,q∈s.od)(kn:∀fin junk,pM s.su fin→(∀p∈s.od,p∈fin)→fin.Nodup→Kn (bX {s with rd:=.obj (cp s)} (nS s) x y junk))(ke:∀junk,Jy s.su s.od→Ke (bX {s with rd:=.obj (cp s)} (nS s) x y junk)):qm (dD s x y []) (.obj 0) Kn Ke:=by
 have A:oo D8:=CZ rfl rfl;have Sh:=ed O;have SD:(nS s).length≤7:=NT (OK _ _) Sh;refine bc (r:=false) (vG A rfl (r:=true) (by rw[hr];rfl)) nofun λ_=>fO (H4 (ds:=(nS s).map aI) (ts:=(nS s).map af) (Ev1.filter (α:=Nat) (f:=λp=>.obj (ga s.od p)) (g:=aI) (c:=λp=>decide (s.np p=0)) (as:=s.od) (Ev1.mth (x:=.obj 1) (ds:=[]) (eJ A rfl kD oY) rfl .nil rfl) ?_ (au (az Sh)) λp hp=>aV _ rfl ?_ (λ_=>?_)) (mn _) ?_)
 ·have:(fL 4 s.od).map (·.2)=s.od.map λp=>PV.obj (ga s.od p):=xl O.nd;rw[this.symm];rfl
 ·exact(Ev1.cmp (y:=.int 0) (r:=decide (s.np p=0)) (zd A kU hp) Ev1.c rfl).t rfl
 ·exact Ev1.att (Ev1.v (d:=.obj (ga s.od p)) kU) (sA (k:=0) (kL hp) rfl rfl)
 rw[qO,pL];refine(Ev1.v rfl).run _ (Hq A (mT (wS Ev1.v (l7 kR kD) .nil (f9 (aG {s with rd:=.obj (cp s)} (nS s) (aJ x y rfl rfl ⟨O,rfl,az SD⟩ RW ⟨(λfin junk h1 h2 h3=>aB (.inl ⟨rfl,kn fin junk h1 h2 h3⟩)),(λc junk h1 h2 h3=>aB (.inr (cb c h1 (au (az h2)) rfl (ke junk h3))))⟩))))))
end
end
section
def nd(ns:List Int)(p:Nat):List Nat:=bJ (ns.getD p 0) ns.length
noncomputable def oD(ns:List Int):Nat→List Rd×List Nat
 |0=>([],[])
 |t+1=>bz ns (oD ns t)
section
variable{ns:List Int}{D:List Nat}{p q:Nat}
def vW(h:q∈nd ns p):q<ns.length:=mU h
def rS:(nd ns p).Nodup:=List.nodup_range.filter _
def bO:p∈freeOf ns D↔p<ns.length∧p∉D∧∀q∈nd ns p,q∈D:=by
 unfold freeOf;rw[List.mem_filter,OJ,Bool.and_eq_true,List.isEmpty_iff,List.filter_eq_nil_iff];simp only[Bool.not_eq_true',List.contains_eq_mem,decide_eq_false_iff_not,Decidable.not_not];exact Iff.rfl
def gj:(freeOf ns D).Nodup:=List.nodup_range.filter _
structure jl(ns:List Int)(D:List Nat)(t:Nat):Prop where
 nu:D.Nodup
 dep:∀p∈D,jx ns t p
 cl:∀p∈D,∀q∈nd ns p,q∈D
def jx.lt:∀{t p:Nat},jx ns t p→p<ns.length
 |0,_,h=>h.elim
 |_+1,_,h=>h.1
def jl.step{t:Nat}(I:jl ns D t):jl ns (D++freeOf ns D) (t+1):=by
 refine⟨List.nodup_append.mpr ⟨I.nu,gj,λa ha b hb e=>(bO.mp hb).2.1 (e▸ha)⟩,λp hp=>?_,λp hp q hq=>?_⟩
 ·rcases Ot.mp hp with hp | hp
  ·exact(I.dep p hp).mono
  ·exact bV (bO.mp hp) λh1 _ h3=>⟨h1,λq hq=>I.dep q (h3 q hq)⟩
 ·rcases Ot.mp hp with hp | hp
  ·exact List.mem_append_left _ (I.cl p hp q hq)
  ·exact List.mem_append_left _ ((bO.mp hp).2.2 q hq)
def jl.le{t:Nat}(I:jl ns D t):D.length≤ns.length:=by
 have h:D⊆List.range ns.length:=λp hp=>OJ.mpr (I.dep p hp).lt;simpa using I.nu.length_le_of_subset h
def De(ns:List Int):∀t,jl ns (oD ns t).2 t:=by
 intro t;induction t with
 |zero=>
  exact⟨List.nodup_nil,nofun,nofun⟩
 |succ t ihr=>
  exact(ihr).step
def EB{t:Nat}(h:freeOf ns (oD ns t).2=[]):∀k,oD ns (t+k)=oD ns t:=by
 intro k;induction k with
 |zero=>
  exact rfl
 |succ k ihr=>
  show bz ns (oD ns (t+k))=_;rw[ihr];unfold bz a7;rw[h,N6];rfl
def FL:∀(l:List Int)(t:Nat),l.foldl (λs _=>bz ns s) (oD ns t)=oD ns (t+l.length):=by
 intro l;induction l with
 |nil=>
  exact λ_=>rfl
 |cons _ l ihr=>
  intro t;show l.foldl (λs _=>bz ns s) (oD ns (t+1))=_;rw[ihr (t+1),NR];congr 1;exact dG
def Jf(ns:List Int):cj ns=oD ns ns.length:=by
 have:=FL (ns:=ns) ns 0;rw[OM] at this;exact this
def Fs{t:Nat}(h:freeOf ns (oD ns t).2=[])(le:t≤(oD ns t).2.length):cj ns=oD ns t:=by
 have:=(De ns t).le;rw[Jf,show ns.length=t+(ns.length-t) by exact lr (ac (b:=t) (a:=ns.length) (bu this le)).symm,EB h]
def dI(ns:List Int)(m q:Nat):List Nat:=(List.range m).filter λp=>decide (q∈nd ns p)
def gG{m:Nat}:p∈dI ns m q↔p<m∧q∈nd ns p:=by
 unfold dI;rw[List.mem_filter,OJ,decide_eq_true_iff]
def y3{m:Nat}:(dI ns m q).Nodup:=List.nodup_range.filter _
def yw{C:List Nat}{od:List Nat}(h:∀q∈C,∃p∈C,q∈dI ns ns.length p):∀k,∀q∈C,¬jx ns k q:=by
 intro k;induction k with
 |zero=>
  exact λ_ _=>λh=>h
 |succ k ihr=>
  intro q hq;exact λd=>by
   exact ay (h q hq) λp hp hs=>ihr p hp (d.2 p (gG.mp hs).2)
def I3{t:Nat}(I:jl ns D t){od:List Nat}(ho:∀p∈od,p<ns.length)(h:Jy (dI ns ns.length) od):D.length<ns.length:=by
 refine c9 h λC h1 h2 h3=>?_;obtain⟨q,C',rfl⟩:∃q C',C=q::C':=by cases C;exact absurd rfl h1;exact aG _ _ rfl
 have hq:q∉D:=λhd=>yw (od:=od) h3 t q (.head _) (I.dep q hd);have hn:(q::D).Nodup:=OE.mpr ⟨hq,I.nu⟩;have hs:(q::D)⊆List.range ns.length:=λp hp=>by
  rcases NU.mp hp with rfl | hp
  ·exact OJ.mpr (ho _ (h2 _ (.head _)))
  ·exact OJ.mpr (I.dep p hp).lt
 have:=hn.length_le_of_subset hs;rw[NR,OL] at this;exact this
def EI:∀{r:List Nat},pM su r→∀q∈r,∀x∈su q,x∈r:=by
 intro r;induction r with
 |nil=>intros;contradiction
 |cons p r ihr=>
  intro h q hq x hx;rcases NU.mp hq with rfl | hq
  ·exact .tail _ (h.2.1 x hx)
  ·exact .tail _ (ihr h.2.2 q hq x hx)
def y2:∀(R:List Nat)(k:Nat),pM (dI ns ns.length) R→(∀q,q<ns.length→q∉R→jx ns k q)→∀p,p<ns.length→jx ns (k+R.length) p:=by
 intro R;induction R with
 |nil=>
  exact λk _ h p hp=>h p hp nofun
 |cons a r ihr=>
  intro k hf h p hp;have:=ihr (k+1) hf.2.2 (λq hq hqr=>by
   by_cases e:q=a
   ·subst e;refine⟨hq,λq' YY=>h q' (vW (p:=q) YY) λhm=>hf.1 ?_⟩;have hs:q∈dI ns ns.length q':=gG.mpr ⟨hq,YY⟩;rcases NU.mp hm with rfl | hm
    ·exact hf.2.1 _ hs
    ·exact EI hf.2.2 _ hm _ hs
   ·exact(h q hq λhm=>hqr ((NU.mp hm).resolve_left e)).mono) p hp
  rw[NR,show k+(r.length+1)=k+1+r.length by exact dG];exact this
def zQ{t:Nat}(I:jl ns D t)(hf:freeOf ns D=[]):∀k p,jx ns k p→p∈D:=by
 intro k;induction k with
 |zero=>
  exact λ_ h=>h.elim
 |succ k ihr=>
  refine λp h=>Decidable.byContradiction λhn=>?_;have:p∈freeOf ns D:=bO.mpr ⟨h.1,hn,λq hq=>ihr q (h.2 q hq)⟩;rw[hf] at this;cases this
def Fk{t:Nat}(I:jl ns D t)(hf:freeOf ns D=[])(h:pM (dI ns ns.length) fin)(ha:∀p,p<ns.length→p∈fin):ns.length≤D.length:=by
 have hs:List.range ns.length⊆D:=λp hp=>zQ I hf _ p (y2 fin 0 h (λq hq hn=>absurd (ha q hq) hn) p (OJ.mp hp));have:=(List.nodup_range (n:=ns.length)).length_le_of_subset hs
 rwa [OL] at this
def mL(a b c:List Nat):cL (cL a b) c=cL a (cL b c):=by
 unfold cL;simp[Nat.xor_assoc]
def xE{a:List Nat}(h:a.length=3):cL [0,0,0] a=a:=by
 refine g4 h λx y z=>?_;unfold cL;simp
def oy(ns:List Int)(a:List Nat)(l:List Nat):List Nat:=l.foldl (λa e=>cL a (oct (ns.getD e 0))) a
def CL:∀(l:List Nat){a:List Nat},a.length=3→(oy ns a l).length=3:=by
 intro l;induction l with
 |nil=>
  intro _ h;exact h
 |cons e l ihr=>
  intro a _;exact ihr (a:=cL a (oct (ns.getD e 0))) rfl
def AJ{a:List Nat}(h:a.length=3):cL a [0,0,0]=a:=by
 refine g4 h λx y z=>?_;unfold cL;simp
def CD:∀(l:List Nat){a:List Nat},a.length=3→oy ns a l=cL a (oy ns [0,0,0] l):=by
 intro l;induction l with
 |nil=>
  intro a h;exact(AJ h).symm
 |cons e l ihr=>
  intro a h;show oy ns (cL a (oct (ns.getD e 0))) l=cL a (oy ns (cL [0,0,0] (oct (ns.getD e 0))) l);rw[ihr (a:=cL a (oct (ns.getD e 0))) rfl,ihr (a:=cL [0,0,0] (oct (ns.getD e 0))) rfl,← mL,← mL,AJ h]
def yZ:∀(l:List Nat)(a:List Nat),a.length=3→(∀q∈l,jx ns 7 q)→oy ns a (l.flatMap (cz ns 7))=l.foldl (λa q=>cL a (aZ ns q)) a:=by
 intro l;induction l with
 |nil=>
  exact λ_ _ _=>rfl
 |cons q l ihr=>
  intro a h hd;rw[OD];have e1:oy ns a (cz ns 7 q++l.flatMap (cz ns 7))=oy ns (oy ns a (cz ns 7 q)) (l.flatMap (cz ns 7)):=List.foldl_append;rw[e1,ihr _ (CL _ h) λr hr=>hd r (.tail _ hr),CD _ h,← sX (hd q (.head _))];rfl
def uB(hp:jx ns 8 p)(hd:∀q∈nd ns p,jx ns 7 q):(nd ns p).foldl (λa q=>cL a (aZ ns q)) (oct (ns.getD p 0))=aZ ns p:=by
 have e:aZ ns p=oy ns (cL [0,0,0] (oct (ns.getD p 0))) ((nd ns p).flatMap (cz ns 7)):=rfl;rw[e,xE rfl,yZ _ _ rfl hd]
end
end
section
def rc(ns:List Int)(D:List Nat)(p:Nat):Nat:=((nd ns p).filter λq=>decide (q∉D)).length
structure Mm(ns:List Int)(D:List Nat)(np:Nat→Int)(rdy:List Nat):Prop where
 np:∀p,p<ns.length→np p=if p∈D then -2 else(rc ns D p:Int)
 nu:rdy.Nodup
 mem:∀p,p∈rdy↔p∈freeOf ns D
section
variable{ns:List Int}{D:List Nat}{f p q:Nat}
def lB:rc ns D p=0↔∀q∈nd ns p,q∈D:=by
 unfold rc;rw[List.length_eq_zero_iff,List.filter_eq_nil_iff];simp
def rq:∀{l:List Nat},l.Nodup→f∉D→(l.filter λq=>decide (q∉D)).length=(l.filter λq=>decide (q∉D++[f])).length+if f∈l then 1 else 0:=by
 intro l;induction l with
 |nil=>
  exact λ_ _=>rfl
 |cons a l ihr=>
  refine λh hf=>aU (OE.mp h) λh1 h2=>?_;have ih:=ihr h2 hf;by_cases e:a=f
  ·subst e;have e1:(decide (a∉D))=true:=N0 hf;have e2:(decide (a∉D++[a]))=false:=Os (by simp);rw[Ov,Ov,e1,e2,N1 (show a∈a::l by simp)];rw[NY h1] at ih;simp only[if_true,Bool.false_eq_true,if_false,NR];exact lr ih
  ·have hm:(f∈a::l)↔f∈l:=by simp[Ne.symm e]
   have e2:(decide (a∉D++[f]))=decide (a∉D):=by
    by_cases q:a∈D<;>simp[q,e]
   rw[Ov,Ov,e2];have:(if f∈a::l then 1 else 0)=if f∈l then 1 else 0:=by
    by_cases q:f∈l
    ·rw[N1 q,N1 (hm.mpr q)]
    ·rw[NY q,NY λz=>q (hm.mp z)]
   rw[this];split
   ·rw[NR,NR];exact(N2 Nat.succ ih).trans (Nat.add_right_comm _ _ 1)
   ·exact ih
def DY(hf:f∉D):rc ns D p=rc ns (D++[f]) p+if f∈nd ns p then 1 else 0:=rq rS hf
structure LA(ns:List Int)(D F pre:List Nat)(st:(Nat→Int)×List Nat):Prop where
 np:∀p,p<ns.length→st.1 p=if p∈D∨p∈pre then -2 else if p∈F then -1 else(rc ns (D++pre) p:Int)
 nu:st.2.Nodup
 mem:∀p,p∈st.2↔p<ns.length∧p∉D∧p∉F∧rc ns (D++pre) p=0
structure KL(ns:List Int)(D F pre:List Nat)(f:Nat)(qs:List Nat)(st:(Nat→Int)×List Nat):Prop where
 np:∀p,p<ns.length→st.1 p=if p∈D∨p∈pre∨p=f then -2 else if p∈F then -1 else(rc ns (D++pre) p:Int)-if p∈qs then 1 else 0
 nu:st.2.Nodup
 mem:∀p,p∈st.2↔p<ns.length∧p∉D∧p∉F∧(rc ns (D++pre) p=0∨(p∈qs∧rc ns (D++pre) p=1))
def HK(hf:f∈nd ns p)(h:f∉D):1≤rc ns D p:=by
 rcases Nat.eq_zero_or_pos (rc ns D p) with q | q
 ·exact absurd (lB.mp q f hf) h
 ·exact q
theorem Bc{t:Nat}(I:jl ns D t)(Pj:∀p∈pre,p∈freeOf ns D)(Sx:f∈freeOf ns D)(Uk:f∉D++pre){st:(Nat→Int)×List Nat}(M:KL ns D (freeOf ns D) pre f qs st)(hq:q∈dI ns ns.length f)(Y2:q∉qs):KL ns D (freeOf ns D) pre f (qs++[q]) (ig st q):=by
 refine aU (gG.mp hq) λTt Xf=>?_;have V9:f∉D:=λh=>Uk (List.mem_append_left _ h);have Xe:q∉D:=λh=>V9 (I.cl q h f Xf);have VF:q∉freeOf ns D:=λh=>V9 ((bO.mp h).2.2 f Xf);have Y3:q∉pre:=λh=>VF (Pj q h);have Y0:q≠f:=λe=>VF (e▸Sx);have h1:=HK (D:=D++pre) Xf Uk;have hv:st.1 q=(rc ns (D++pre) q:Int):=by
  rw[M.np q Tt,NY (by rintro(h | h | h);exact Xe h;exact Y3 h;exact Y0 h),NY VF,NY Y2];exact rfl
 have Q8:q∉st.2:=λh=>by
  rcases((M.mem q).mp h).2.2.2 with h | h
  ·exact JU (aq h) h1
  ·exact Y2 h.1
 refine⟨λp hp=>?_,?_,λp=>?_⟩
 ·show bI st.1 q (st.1 q-1) p=_;by_cases e:p=q
  ·subst e;rw[eR,hv,NY (by rintro(h | h | h);exact Xe h;exact Y3 h;exact Y0 h),NY VF,N1 (by simp)]
  ·rw[dl e,M.np p hp];have:(p∈qs++[q])↔p∈qs:=by simp[e]
   by_cases h:p∈qs
   ·rw[N1 h,N1 (this.mpr h)]
   ·rw[NY h,NY λz=>h (this.mp z)]
 ·show(if st.1 q-1=0 then st.2++[q] else st.2).Nodup;split
  ·exact List.nodup_append.mpr ⟨M.nu,by simp,λa ha b hb e=>Q8 (by rw[NX] at hb;rw[hb.symm,e.symm];exact ha)⟩
  ·exact M.nu
 ·show p∈(if st.1 q-1=0 then st.2++[q] else st.2)↔_;rw[hv];by_cases e:p=q
  ·subst e;constructor
   ·intro h;split at h
    ·exact aS Tt Xe VF (.inr ⟨by simp,by lia⟩)
    ·exact absurd h Q8
   ·rintro⟨_,_,_,h | ⟨_,h⟩⟩
    ·lia
    ·rw[N1 (by lia)];simp
  ·have hm:(p∈if(rc ns (D++pre) q:Int)-1=0 then st.2++[q] else st.2)↔p∈st.2:=by
    split
    ·simp[e]
    ·exact Iff.rfl
   have hq2:(p∈qs++[q])↔p∈qs:=by simp[e]
   rw[hm,M.mem p,hq2]
def Ey{t:Nat}(I:jl ns D t)(Pj:∀p∈pre,p∈freeOf ns D)(Sx:f∈freeOf ns D)(Uk:f∉D++pre):∀(r qs:List Nat)(st:(Nat→Int)×List Nat),dI ns ns.length f=qs++r→KL ns D (freeOf ns D) pre f qs st→KL ns D (freeOf ns D) pre f (dI ns ns.length f) (r.foldl ig st):=by
 intro r;induction r with
 |nil=>
  intro qs st e M;rw[N6] at e;rw[e];exact M
 |cons q r ihr=>
  intro qs st e M;have hn:(dI ns ns.length f).Nodup:=y3;refine ihr (qs++[q]) (ig st q) (by rw[e];simp) (Bc I Pj Sx Uk M (by rw[e];simp) λh=>?_);rw[e] at hn;exact(List.nodup_append.mp hn).2.2 q h q (.head _) rfl
theorem zA{t:Nat}(I:jl ns D t)(Pj:∀p∈pre,p∈freeOf ns D)(Sx:f∈freeOf ns D)(V':f∉pre){st:(Nat→Int)×List Nat}(M:LA ns D (freeOf ns D) pre st):LA ns D (freeOf ns D) (pre++[f]) (bN (dI ns ns.length) st f):=by
 have V9:=(bO.mp Sx).2.1;have Uk:f∉D++pre:=λh=>(Ot.mp h).elim V9 V';have h0:KL ns D (freeOf ns D) pre f [] (bI st.1 f (-2),st.2):=by
  refine⟨λp hp=>?_,M.nu,λp=>?_⟩
  ·by_cases e:p=f
   ·subst e;rw[N1 (.inr (.inr rfl))];exact eR
   ·show bI st.1 f (-2) p=_;rw[dl e,M.np p hp];have:(p∈D∨p∈pre∨p=f)↔(p∈D∨p∈pre):=by simp[e]
    by_cases h:p∈D∨p∈pre
    ·rw[N1 h,N1 (this.mpr h)]
    ·rw[NY h,NY λz=>h (this.mp z),NY (Ou),Int.sub_zero]
  ·rw[M.mem p];simp
 have A:=Ey I Pj Sx Uk (dI ns ns.length f) [] _ rfl h0;have rs:=λp=>DY (ns:=ns) (D:=D++pre) (f:=f) (p:=p) Uk;refine⟨λp hp=>?_,A.nu,λp=>?_⟩
 ·have:=A.np p hp;show(bN (dI ns ns.length) st f).1 p=_;have e0:(bN (dI ns ns.length) st f).1 p=_:=this;rw[e0];have hm:(p∈D∨p∈pre++[f])↔(p∈D∨p∈pre∨p=f):=by simp
  by_cases h:p∈D∨p∈pre∨p=f
  ·rw[N1 h,N1 (hm.mpr h)]
  ·rw[NY h,NY λz=>h (hm.mp z)];by_cases h2:p∈freeOf ns D
   ·rw[N1 h2,N1 h2]
   ·rw[NY h2,NY h2];have hr:=rs p;rw[Oi] at hr;by_cases h3:f∈nd ns p
    ·rw[N1 (gG.mpr ⟨hp,h3⟩)];rw[N1 h3] at hr;rw[hr];exact JB _ 1
    ·rw[NY λz=>h3 (gG.mp z).2];rw[NY h3] at hr;rw[hr];exact Int.sub_zero _
 ·show p∈(bN (dI ns ns.length) st f).2↔_;have e0:p∈(bN (dI ns ns.length) st f).2↔_:=A.mem p;rw[e0];have hr:=rs p;rw[Oi] at hr;constructor
  ·rintro⟨h1,h2,h3,h4⟩;refine aS h1 h2 h3 ?_;rcases h4 with h4 | ⟨h4,h5⟩
   ·exact aa (bu (aq h4) (ap hr)) eQ
   ·rw[N1 (gG.mp h4).2] at hr;exact yD h5 hr.symm
  ·rintro⟨h1,h2,h3,h4⟩;refine aS h1 h2 h3 ?_;by_cases h5:f∈nd ns p
   ·rw[N1 h5] at hr;exact .inr ⟨gG.mpr ⟨h1,h5⟩,yD h4 hr⟩
   ·rw[NY h5] at hr;exact .inl (yD h4 hr)
def Fe{t:Nat}(I:jl ns D t):∀(r pre:List Nat)(st:(Nat→Int)×List Nat),freeOf ns D=pre++r→LA ns D (freeOf ns D) pre st→LA ns D (freeOf ns D) (freeOf ns D) (r.foldl (bN (dI ns ns.length)) st)∧∀a p b,r=a++p::b→(a.foldl (bN (dI ns ns.length)) st).1 p=-1:=by
 intro r;induction r with
 |nil=>
  intro pre st e M;rw[N6] at e;exact⟨by rw[← e] at M;exact M,λa p b h=>by cases a<;>cases h⟩
 |cons f r ihr=>
  intro pre st e M;have hn:(freeOf ns D).Nodup:=gj;rw[e] at hn;have V':f∉pre:=λh=>(List.nodup_append.mp hn).2.2 f h f (.head _) rfl;have Sx:f∈freeOf ns D:=by rw[e];simp
  refine aU (ihr (pre++[f]) _ (by rw[e];simp) (zA I (λp hp=>by rw[e];exact List.mem_append_left _ hp) Sx V' M)) λk1 k2=>⟨k1,λa p b h=>?_⟩;cases a with
  |nil=>
   refine aU (List.cons.inj h) λO8 Pq=>?_;obtain rfl:=O8;obtain rfl:=Pq;show st.1 f=-1;rw[M.np f (bO.mp Sx).1,NY (by rintro(h | h);exact(bO.mp Sx).2.1 h;exact V' h),N1 Sx]
  |cons c a=>
   refine aU (List.cons.inj h) λPI h'=>?_;obtain rfl:=PI;exact k2 a p b h'
def xh{t:Nat}(I:jl ns D t)(K:Mm ns D np rdy):(∀a p b,freeOf ns D=a++p::b→(a.foldl (bN (dI ns ns.length)) (ck np rdy,[])).1 p=-1)∧Mm ns (D++freeOf ns D) ((freeOf ns D).foldl (bN (dI ns ns.length)) (ck np rdy,[])).1 ((freeOf ns D).foldl (bN (dI ns ns.length)) (ck np rdy,[])).2:=by
 have M0:LA ns D (freeOf ns D) [] (ck np rdy,[]):=by
  refine⟨λp hp=>?_,List.nodup_nil,λp=>⟨nofun,?_⟩⟩
  ·show(if p∈rdy then -1 else np p)=_;rw[N6];have hm:(p∈D∨p∈([]:List Nat))↔p∈D:=by simp
   by_cases h:p∈rdy
   ·have hF:=(K.mem p).mp h;rw[N1 h,NY λz=>(bO.mp hF).2.1 (hm.mp z),N1 hF]
   ·rw[NY h,K.np p hp];by_cases h2:p∈D
    ·rw[N1 h2,N1 (hm.mpr h2)]
    ·rw[NY h2,NY λz=>h2 (hm.mp z),NY λz=>h ((K.mem p).mpr z)]
  ·rintro⟨h1,h2,h3,h4⟩;rw[N6] at h4;exact absurd (bO.mpr ⟨h1,h2,lB.mp h4⟩) h3
 refine aU (Fe I (freeOf ns D) [] _ rfl M0) λM ho=>⟨ho,λp hp=>?_,M.nu,λp=>?_⟩
 ·rw[M.np p hp];by_cases h:p∈D∨p∈freeOf ns D
  ·rw[N1 h,N1 (Ot.mpr h)]
  ·rw[NY h,NY λz=>h (Ot.mp z),NY λz=>h (.inr z)]
 ·rw[M.mem p];constructor
  ·rintro⟨h1,h2,h3,h4⟩;exact bO.mpr ⟨h1,λz=>(Ot.mp z).elim h2 h3,lB.mp h4⟩
  ·exact λh=>bV (bO.mp h) λh1 h2 h4=>aS h1 (λz=>h2 (List.mem_append_left _ z)) (λz=>h2 (List.mem_append_right _ z)) (lB.mpr h4)
theorem Mc(W5:∀p,p<ns.length→np p=((nd ns p).length:Int))(ho:∀p,p∈od↔p<ns.length)(hn:od.Nodup):Mm ns [] np (od.filter λp=>decide (np p=0)):=by
 have h0:∀p,rc ns [] p=(nd ns p).length:=λp=>by
  unfold rc;rw[List.filter_eq_self.mpr];intro a _;simp
 refine⟨λp hp=>by rw[W5 p hp,NY Ou,h0],hn.filter _,λp=>?_⟩;rw[List.mem_filter,bO,ho,decide_eq_true_iff];constructor
 ·rintro⟨h1,h2⟩;rw[W5 p h1] at h2;exact⟨h1,Ou,λq hq=>by
   have:nd ns p=[]:=List.length_eq_zero_iff.mp (by lia);rw[this] at hq;cases hq⟩
 ·rintro⟨h1,_,h3⟩;refine⟨h1,?_⟩;rw[W5 p h1];have:nd ns p=[]:=by
   cases e:nd ns p with
   |nil=>rfl
   |cons a l=>exact absurd (h3 a (by rw[e];exact .head _)) Ou
  rw[this];rfl
end
end
def e9(m:Nat)(g:Nat→PV):List (Str×PV):=(List.range m).map λp=>(af p,g p)
def ach{g:Nat→PV}{p:Nat}(hp:p<7):∀{l:List Nat},(∀q∈l,q<7)→p∈l→aM (af p) (l.map λp=>(af p,g p))=some (g p):=by
 intro l;induction l with
 |nil=>intros;contradiction
 |cons q r ihr=>
  intro hl h;show(if af q=af p then some (g q) else aM (af p) (r.map λp=>(af p,g p)))=_;by_cases e:q=p
  ·subst e;rw[N1 rfl]
  ·rw[NY λz=>e (e6 (hl q (.head _)) hp z),ihr (λa ha=>hl a (.tail _ ha)) ((NU.mp h).resolve_left λz=>e z.symm)]
def gW{m p:Nat}{g:Nat→PV}(hm:m≤7)(hp:p<m):aM (af p) (e9 m g)=some (g p):=
 ach (bu hp hm) (λq hq=>by have:=OJ.mp hq;exact bu this hm) (OJ.mpr hp)
def vD{m:Nat}{g:Nat→PV}(hm:m<7):b9 (af m) (g m) (e9 m g)=e9 (m+1) g:=by
 unfold e9;rw[ww,List.range_succ,OI];rfl;rw[List.map_map];exact gD (l:=List.range m) hm (λq hq=>by have:=OJ.mp hq;exact bu this hm) λq=>by have:=OJ.mp q;exact JJ this
def acx{g:Nat→PV}{p:Nat}{v:PV}(hp:p<7):∀{l:List Nat},(∀q∈l,q<7)→l.Nodup→p∈l→b9 (af p) v (l.map λp=>(af p,g p))=l.map λq=>(af q,bI g p v q):=by
 intro l;induction l with
 |nil=>intros;contradiction
 |cons q r ihr=>
  refine λhl hn h=>aU (OE.mp hn) λh1 h2=>?_;show(if af q=af p then(af p,v)::r.map (λp=>(af p,g p)) else(af q,g q)::b9 (af p) v (r.map λp=>(af p,g p)))=(af q,bI g p v q)::r.map λq=>(af q,bI g p v q);by_cases e:q=p
  ·subst e;rw[N1 rfl,eR];congr 1;refine List.map_congr_left λa ha=>?_;rw[dl λ(z:a=q)=>h1 (z▸ha)]
  ·rw[NY λz=>e (e6 (hl q (.head _)) hp z),dl e,ihr (λa ha=>hl a (.tail _ ha)) h2 ((NU.mp h).resolve_left λz=>e z.symm)]
def FZ{m p:Nat}{g:Nat→PV}{v:PV}(hm:m≤7)(hp:p<m):b9 (af p) v (e9 m g)=e9 m (bI g p v):=
 acx (bu hp hm) (λq hq=>by have:=OJ.mp hq;exact bu this hm) List.nodup_range (OJ.mpr hp)
def pQ{m:Nat}{g:Nat→PV}:(e9 m g).length=m:=by unfold e9;simp
structure tC(C:cu):Prop where
 sl:C.sl=iD
 ia:C.ia=λc n=>c==291&&bU.contains n
 d:C.fa "b64decode"=true
 dc:∀o:List Nat,o.length=3→(∀a∈o,a<256)→C.f "b64decode" [.str (bw o)] (.bytes (byteArr (o.map λ(n:Nat)=>(n:Int))))
 s:C.fa "_law_sum"=true
 sc:∀a b:List Nat,a.length=3→b.length=3→C.f "_law_sum" [aK a,aK b] (aK (cL a b))
 am:C.ma 291 "add"=true
 ac:∀H ds K,LX H ds K→C.mt 291 "add" H ds K
 gm:C.ma 291 "get_ready"=true
 gc:∀H ds K,JL H ds K→C.mt 291 "get_ready" H ds K
 im:C.ma 291 "is_active"=true
 ic:∀H ds K,Mb H ds K→C.mt 291 "is_active" H ds K
 om:C.ma 291 "done"=true
 oc:∀H ds K,LM H ds K→C.mt 291 "done" H ds K
def ER{a b c:Nat}(ha:a<256)(hb:b<256)(hc:c<256):∃v1 v2 v3 v4,v1<64∧v2<64∧v3<64∧v4<64∧kW a b c=[v1,v2,v3,v4]∧Dv v1 v2 v3 v4=[a,b,c].map λ(n:Nat)=>(n:Int):=by
 have l:=I4 ha hb hc;have h:=(Mt ha hb hc).2.2;refine aG _ _ (aJ _ _ l.1 l.2.1 l.2.2.1 l.2.2.2 ⟨rfl,?_⟩);unfold Dv;rw[h.1,h.2.1,h.2.2]
def Li(hx:x≠"_law_ends")(h:C8.f x ds d):∀k,(CE k).f x ds d:=by
 intro k;induction k with
 |zero=>
  exact aj hx h
 |succ k ihr=>
  exact aj hx (ihr)
def Gp(h:C8.fa x=true):∀k,(CE k).fa x=true:=by
 intro k;induction k with
 |zero=>
  exact On.mpr (.inr h)
 |succ k ihr=>
  exact On.mpr (.inr (ihr))
def Gi(h:C8.fa x=true):D9.fa x=true:=by
 show(x=="_law_due"||(CE 8).fa x)=true;rw[Gp h 8,Bool.or_true]
def Kg(hx:x≠"_law_due")(hy:x≠"_law_ends")(h:C8.f x ds d):D9.f x ds d:=by
 have:H5.f x ds d:=aj hx (Li hy h 8);exact this
def EZ:tC D9 where
 sl:=rfl
 ia:=rfl
 d:=Gi kR
 dc o h1 h2:=by
  revert h2;refine g4 h1 λa b c h2=>?_
  ·refine bl (ER (h2 a (by simp)) (h2 b (by simp)) (h2 c (by simp))) λv1 v2 v3 v4 k1 QV=>dO QV λk2 k3 k4 e1 e2=>Kg kD kD (aj kD (aj kD (aj kD (aj kD (aj kD (aj kD (aj kD (aj kD (aj kD (aj kD (aj kD (show C3.f _ _ _ from bq (aG v1 v2 (aJ v3 v4 k1 k2 k3 k4 ⟨?_,?_⟩))))))))))))))
   ·show[PV.str (oB (kW a b c))]=_;rw[e1]
   ·rw[e2]
 s:=Gi kR
 sc a b h1 h2:=Kg kD kD (GJ.uc a b h1 h2)
 am:=kR
 ac H ds K h:=cO kD (cO kD (cO kD (cO kD (f9 h))))
 gm:=kR
 gc H ds K h:=cO kD (cO kD (cO kD (f9 h)))
 im:=kR
 ic H ds K h:=cO kD (cO kD (f9 h))
 om:=kR
 oc H ds K h:=cO kD (f9 h)
section
noncomputable def mB(k:Str)(r:List Pr):List Pr:=r.filter λp=>p.1==k
def vC{r:List Pr}{k:Str}{kk:Nat}{q1 q2 q3 q4 q5 q6 q7:Pos}{n1:Nat}{qq pp:Pos}(hk:PyData.strOk k=true)(hr:∀p∈r,PyData.strOk p.1=true)(hl:r.length≤1000)(h5:l i=some (bT r))(hy:((mB k r).map λp=>j9 p.2)=ys):
  Ev1 C H (.comp (.v 11 q1) (.two 10 11 q2 q3 n1 q4) (.v i q5) (.cons (.cmp .eq (.v 10 q6) (.c (.str k) kk q7) qq) .nil) [] sc pp) l (.lst ys):=by
 subst hy;exact Ev1.filter (f:=cn) (g:=λp=>j9 p.2) (c:=λp=>p.1==k) (as:=r) (Ev1.v h5) rfl (au (az hl)) λp hp=>aV _ rfl ((Ev1.cmp (x:=.str p.1) (y:=.str k) (r:=p.1==k) Ev1.v Ev1.c (sE (Dat.str (hr p hp)) (Dat.str hk) kD kD)).t rfl) (λ_=>Ev1.v rfl)
end
section
def dF(ns:List Int)(p:Nat):List Pr:=et ns.length p (ns.getD p 0)
def f8(ns:List Int)(p:Nat):PV:=.lst ((nd ns p).map aI)
def sB(ns:List Int)(p:Nat):PV:=aK (oct (ns.getD p 0))
def t9(ns:List Int):(rowsOf ns).map bT=(List.range ns.length).map λp=>bT (dF ns p):=by
 apply List.ext_getElem
 ·simp[rowsOf]
 ·intro i h1 h2;have hi:i<ns.length:=by simpa [rowsOf] using h1
  simp only[rowsOf,dF,List.getElem_map,List.getElem_zipIdx,List.getElem_range,OM];rw[OA,Oz hi];rfl
section
variable{ns:List Int}{p:Nat}
def vj:mB "needs" (dF ns p)=(nd ns p).map λk=>(("needs":Str),some (af k)):=by
 have k1:(("job":Str)==("needs":Str))=false:=kE;have k2:(("octets":Str)==("needs":Str))=false:=kE;have k3:(("shown":Str)==("needs":Str))=false:=kE;have k4:(("needs":Str)==("needs":Str))=true:=kE;unfold mB dF et nd;rw[List.filter_append,List.filter_append,List.filter_append];have e1:([(("job":Str),some (af p))]:List Pr).filter (λp=>p.1==("needs":Str))=[]:=by rw[Ov,k1];rfl
 have e2:([(("octets":Str),some (bw (oct (ns.getD p 0))))]:List Pr).filter (λp=>p.1==("needs":Str))=[]:=by rw[Ov,k2];rfl
 have e3:((if(ns.getD p 0).fmod 2=0 then[] else[(("shown":Str),none)]):List Pr).filter (λp=>p.1==("needs":Str))=[]:=by
  split
  ·rfl
  ·rw[Ov,k3];rfl
 have e4:((bJ (ns.getD p 0) ns.length).map λk=>((("needs":Str),some (af k)):Pr)).filter (λp=>p.1==("needs":Str))=(bJ (ns.getD p 0) ns.length).map λk=>(("needs":Str),some (af k)):=by
  refine List.filter_eq_self.mpr λa ha=>ay (Oj.mp ha) λk _ Pt=>?_;obtain rfl:=Pt;exact k4
 rw[e1,e2,e3,e4];simp
def CO:mB "octets" (dF ns p)=[(("octets":Str),some (bw (oct (ns.getD p 0))))]:=by
 have k1:(("job":Str)==("octets":Str))=false:=kE;have k2:(("octets":Str)==("octets":Str))=true:=kE;have k3:(("shown":Str)==("octets":Str))=false:=kE;have k4:(("needs":Str)==("octets":Str))=false:=kE;unfold mB dF et;rw[List.filter_append,List.filter_append,List.filter_append];have e1:([(("job":Str),some (af p))]:List Pr).filter (λp=>p.1==("octets":Str))=[]:=by rw[Ov,k1];rfl
 have e2:([(("octets":Str),some (bw (oct (ns.getD p 0))))]:List Pr).filter (λp=>p.1==("octets":Str))=[(("octets":Str),some (bw (oct (ns.getD p 0))))]:=by rw[Ov,k2];rfl
 have e3:((if(ns.getD p 0).fmod 2=0 then[] else[(("shown":Str),none)]):List Pr).filter (λp=>p.1==("octets":Str))=[]:=by
  split
  ·rfl
  ·rw[Ov,k3];rfl
 have e4:((bJ (ns.getD p 0) ns.length).map λk=>((("needs":Str),some (af k)):Pr)).filter (λp=>p.1==("octets":Str))=[]:=by
  refine List.filter_eq_nil_iff.mpr λa ha=>ay (Oj.mp ha) λk _ O8=>?_;obtain rfl:=O8;show ¬((("needs":Str)==("octets":Str))=true);rw[k4];exact N'
 rw[e1,e2,e3,e4];simp
def s6:∀q∈dF ns p,PyData.strOk q.1=true:=by
 intro q hq;unfold dF et at hq;have h1:PyData.strOk ("job":Str)=true:=kE;have h2:PyData.strOk ("needs":Str)=true:=kE;have h3:PyData.strOk ("octets":Str)=true:=kE;have h4:PyData.strOk ("shown":Str)=true:=kE;rcases Ot.mp hq with hq | hq
 ·rcases Ot.mp hq with hq | hq
  ·rcases Ot.mp hq with hq | hq
   ·rw[NX.mp hq];exact h1
   ·refine ay (Oj.mp hq) λk _ Pq=>?_;obtain rfl:=Pq;exact h2
  ·rw[NX.mp hq];exact h3
 ·split at hq
  ·cases hq
  ·rw[NX.mp hq];exact h4
theorem xd(hn:ns.length≤7):(dF ns p).length≤20:=by
 unfold dF et;have:=dA (x:=ns.getD p 0) (n:=ns.length);generalize ns.getD p 0=x at *
 simp only[NP,NR,List.length_nil,NO];split<;>simp<;>lia
def HM:∃rest,dF ns p=(("job":Str),some (af p))::rest:=⟨_,rfl⟩
structure Bs(ns:List Int)(m:Nat)(s:Sr):Prop where
 np:∀p,s.np p=if p<m then((nd ns p).length:Int) else 0
 su:∀q,s.su q=dI ns m q
 lt:∀q∈s.od,q<ns.length
 mem:∀p,p<m→p∈s.od
 od:Od s.od
 fr:n0 s
 rd:s.rd=.none
 po:s.po=0
 fi:s.fi=0
def MP(ep:Nat):Bs ns 0 (Jv ep):=⟨λp=>rfl,λq=>rfl,nofun,λp h=>absurd h (Nat.not_lt_zero _),⟨List.nodup_nil,nofun⟩,λp h=>⟨rfl,rfl⟩,rfl,rfl,rfl⟩
def Dw{m:Nat}{s s':Sr}(hm:m<ns.length)(B:Bs ns m s)(R:yc s m (nd ns m).length (nd ns m) s'):Bs ns (m+1) s':=by
 refine⟨λp=>?_,λq=>?_,λq hq=>?_,λp hp=>?_,R.od,R.fresh B.fr,R.rd.trans B.rd,R.po.trans B.po,R.fi.trans B.fi⟩
 ·rw[R.np];by_cases e:p=m
  ·subst e;rw[eR,B.np,NY (Nat.lt_irrefl _),N1 (Nat.lt_succ_self _),Int.zero_add]
  ·rw[dl e,B.np];by_cases h:p<m
   ·rw[N1 h,N1 (by exact a8 h)]
   ·rw[NY h,NY (λq=>(Nat.lt_or_eq_of_le (Nat.le_of_lt_succ q)).elim h e)]
 ·rw[R.su,B.su];unfold dI;rw[List.range_succ,List.filter_append];by_cases h:q∈nd ns m
  ·rw[N1 h];congr 1;rw[Ov,N0 h];rfl
  ·rw[NY h];rw[Ov,Os h];simp
 ·rcases(R.mem q).mp hq with h | h | h
  ·exact B.lt q h
  ·exact h▸hm
  ·exact vW h
 ·refine(R.mem p).mpr ?_;by_cases e:p=m
  ·exact .inr (.inl e)
  ·exact .inl (B.mem p (Nat.lt_of_le_of_ne (Nat.le_of_lt_succ hp) e))
end
end
section
section
variable{ns:List Int}{s:Sr}{e1 e2:Nat}
def bH(ns:List Int)(m:Nat)(s:Sr)(e1 e2:Nat):AH:=dD s (.dict (e9 m (f8 ns)) e1) (.dict (e9 m (sB ns)) e2) []
structure Lr(l:Loc):Prop where
 l1:l 1=some (.obj 0)
 l3:l 3=some (.obj 2)
 l4:l 4=some (.obj 3)
def yY(A:tC C)(hn:ns.length≤7){m:Nat}(hm:m<ns.length)(B:Bs ns m s){X:Fl→Loc→AH→Prop}(L:Lr l)(h5:l 5=some (bT (dF ns m)))(k:∀s' e1 e2 l',Bs ns (m+1) s'→Lr l'→l' 2=l 2→X .next l' (bH ns (m+1) s' e1 e2)):
  Xb C (lW (bW 1 uC.1)) l (bH ns m s e1 e2) X:=by
 have A':oo C:=CZ A.sl A.ia;have W1:m<7:=bu hm hn;have SD:(dF ns m).length≤20:=xd hn;refine a9 (HM (ns:=ns) (p:=m)) λrest hr=>?_;have OZ:(nd ns m).length≤7:=NT dA hn;refine aF (d:=aI m) (Ev1.idx (y:=.int 1) (x:=cn ("job",some (af m))) (Ev1.idx (y:=.int 0) (x:=bT (dF ns m)) (Ev1.v h5) Ev1.c ?_) Ev1.c rfl) rfl ?_
 ·show(if(cY 0&&aE ((dF ns m).map cn).length)=true then fZ ((dF ns m).map cn) 0 else none)=_;rw[au (by rw[NO];exact az SD),hr];rfl
 refine lA (d:=f8 ns m) (j:=2) (y:=af m) (m:=e9 m (f8 ns)) (ep:=e1) ?_ (by exact L.l3) rfl Ev1.v (au (by rw[pQ];exact bu hm hn)) λUb=>?_
 ·exact vC (r:=dF ns m) kE s6 (az SD) (by exact h5) (by rw[vj,List.map_map];rfl)
 rw[vD W1];have ZF:(bH ns m s e1 e2).set 2 (.dict (e9 (m+1) (f8 ns)) Ub)=dD s (.dict (e9 (m+1) (f8 ns)) Ub) (.dict (e9 m (sB ns)) e2) []:=rfl;rw[ZF];refine lA (d:=sB ns m) (j:=3) (y:=af m) (m:=e9 m (sB ns)) (ep:=e2) (Ev1.bi (.one (Ev1.call A.d (.one (Ev1.idx (x:=.lst [.str (bw (oct (ns.getD m 0)))]) (y:=.int 0) (vC (r:=dF ns m) kE s6 (az SD) (by exact h5) (by rw[CO];rfl)) Ev1.c ?_)) (A.dc (oct (ns.getD m 0)) rfl (kB _)))) ?_) (by exact L.l4) rfl Ev1.v (au (by rw[pQ];exact bu hm hn)) λe2'=>?_
 ·show(if(cY 0&&aE 1)=true then fZ [PV.str (bw (oct (ns.getD m 0)))] 0 else none)=_;rw[au ax];rfl
 ·have hb:=jF (l:=oct (ns.getD m 0)) (kB _);show(if aE (byteArr ((oct (ns.getD m 0)).map λ(n:Nat)=>(n:Int))).size=true then some (PV.lst (dT (byteArr ((oct (ns.getD m 0)).map λ(n:Nat)=>(n:Int))))) else none)=_;rw[hb,au (show(byteArr ((oct (ns.getD m 0)).map λ(n:Nat)=>(n:Int))).size≤_ from(by show 3≤1000000;decide))];rfl
 rw[vD W1];have ZG:(dD s (.dict (e9 (m+1) (f8 ns)) Ub) (.dict (e9 m (sB ns)) e2) []).set 3 (.dict (e9 (m+1) (sB ns)) e2')=bH ns (m+1) s Ub e2':=rfl;rw[ZG];have W0:aM (af m) (e9 (m+1) (f8 ns))=some (f8 ns m):=gW (bu hm hn) (Nat.lt_succ_self m);refine wN (A8 (d:=.obj 0) (c:=291) (ds:=[aI m]) (u:=f8 ns m) (us:=(nd ns m).map aI) (Ev1.v (by exact L.l1)) (l7 A.am kD) (.one Ev1.v) (Ev1.idx (x:=.obj 2) (y:=aI m) (Ev1.v (by exact L.l3)) Ev1.v W0) rfl (au (by rw[NO];exact az OZ))
  (A.ac _ _ _ (aG s _ (aH _ m (nd ns m) rfl rfl B.od (bY W1 (λq hq=>OC (vW hq) hn) rS B.fr ⟨B.rd,(λq=>?_),(λs' R=>aB (k s' Ub e2' _ (Dw hm B R) ⟨L.l1,L.l3,L.l4⟩ rfl))⟩)))))
 rw[B.su];exact NT (OK _ _) (by rw[OL];exact bu hm hn)
end
end
section
noncomputable def Nm:MB→MB
 |.cons (.xk _ b) _=>b
 |_=>.nil
def gC(ns:List Int)(D:List Nat)(p:Nat):PV:=aK (if p∈D then aZ ns p else oct (ns.getD p 0))
def yr(ns:List Int)(p:Nat):(aZ ns p).length=3:=(jR ns p).1
section
variable{ns:List Int}{D:List Nat}{s:Sr}{e1 e2:Nat}
def rH(ns:List Int)(s:Sr)(rdy:List Nat)(e1 e2:Nat)(g:Nat→PV)(tl:AH):AH:=bX s rdy (.dict (e9 ns.length (f8 ns)) e1) (.dict (e9 ns.length g) e2) tl
def AC(A:tC C)(hn:ns.length≤7){p:Nat}{g:Nat→PV}(hp:p<ns.length)(hq:∀q∈nd ns p,q≠p∧g q=aK (aZ ns q))(hg:g p=aK (oct (ns.getD p 0))){X:Fl→Loc→AH→Prop}(L:Lr l)(h6:l 6=some (aI p))(k:∀e2' l',Lr l'→l' 2=l 2→l' 7=l 7→l' 8=l 8→X .next l' (rH ns s rdy e1 e2' (bI g p (aK ((nd ns p).foldl (λa q=>cL a (aZ ns q)) (oct (ns.getD p 0))))) tl)):
  Xb C (lW (bW 1 (Nm (bW 4 uC.1)))) l (rH ns s rdy e1 e2 g tl) X:=by
 have OZ:(nd ns p).length≤7:=NT dA hn;have W0:aM (af p) (e9 ns.length (f8 ns))=some (f8 ns p):=gW hn hp;have Xs:∀(qs:List Nat)(a:List Nat),a.length=3→(qs.foldl (λa q=>cL a (aZ ns q)) a).length=3:=λqs=>by
  induction qs with
  |nil=>exact λa h=>h
  |cons q r ih=>exact λa _=>ih _ rfl
 refine da (ds:=(nd ns p).map aI) (x:=f8 ns p) (Ev1.idx (x:=.obj 2) (y:=aI p) (Ev1.v (by exact L.l3)) (Ev1.v (by exact h6)) W0) rfl (au (by rw[NO];exact az OZ)) (cK (λr l' H=>∃pre e2',nd ns p=pre++r∧Lr l'∧l' 6=some (aI p)∧l' 2=l 2∧l' 7=l 7∧l' 8=l 8∧H=rH ns s rdy e1 e2' (bI g p (aK (pre.foldl (λa q=>cL a (aZ ns q)) (oct (ns.getD p 0))))) tl) ?_ ?_ _ _ _ (aJ [] e2 rfl L h6 rfl ⟨rfl,rfl,?_⟩))
 ·rintro q r l' H ⟨pre,e2',e,L',h6',g2,g7,g8,rfl⟩ X' hX;have Y1:q∈nd ns p:=by rw[e];simp
  refine aU (hq q Y1) λPH ZZ=>?_;have Tt:=vW (p:=p) Y1;refine ak _ rfl ?_;refine lA (d:=aK (cL (pre.foldl (λa q=>cL a (aZ ns q)) (oct (ns.getD p 0))) (aZ ns q))) (j:=3) (y:=af p) (m:=e9 ns.length (bI g p (aK (pre.foldl (λa q=>cL a (aZ ns q)) (oct (ns.getD p 0)))))) (ep:=e2')
   (Ev1.call A.s (.cons (Ev1.idx (x:=.obj 3) (y:=aI p) (Ev1.v (by exact L'.l4)) (Ev1.v (by exact h6')) ?_) (.one (Ev1.idx (x:=.obj 3) (y:=aI q) (Ev1.v (by exact L'.l4)) Ev1.v ?_))) (A.sc _ _ (Xs pre _ rfl) (yr ns q))) (by exact L'.l4) rfl (Ev1.v (by exact h6')) (au (by rw[pQ];exact az hn)) λe3=>aB ?_
  ·exact(gW hn hp).trans (by rw[eR])
  ·exact(gW hn Tt).trans (by rw[dl PH,ZZ])
  ·rw[FZ hn hp];refine(hX (upd l' 9 (aI q)) _ (aJ (pre++[q]) e3 (by rw[e];simp) ⟨L'.l1,L'.l3,L'.l4⟩ (by exact h6') (by exact g2) ⟨(by exact g7),(by exact g8),?_⟩)).1;rw[List.foldl_append];have ef:∀v w:PV,bI (bI g p v) p w=bI g p w:=λv w=>by
    funext a;unfold bI;split<;>rfl
   rw[ef];rfl
 ·rintro l' H ⟨pre,e2',e,L',h6',g2,g7,g8,rfl⟩;rw[N6] at e;rw[e.symm];exact aA (aB (k e2' l' L' g2 g7 g8))
 ·have:bI g p (aK (oct (ns.getD p 0)))=g:=by
   funext a;unfold bI;split
   ·rename_i h;rw[h,hg]
   ·rfl
  rw[List.foldl_nil,this]
end
end
section
def Df:∀{p q:Nat},p<7→q<7→p≤q→yz (af p) (af q):=by
 have:∀p:Fin 7,∀q:Fin 7,p.val≤q.val→sortedS [af p,af q]=true:=kE;exact λ{p q} hp hq h=>qj.mp (this ⟨p,hp⟩ ⟨q,hq⟩ h)
def uS{F r:List Nat}(hF:F.Pairwise (· < ·))(Po:∀p∈F,p<7)(hp:F.Perm r):dh (r.map af)=F.map af:=by
 refine wG (hp.map _) ?_;rw[List.pairwise_map];exact hF.imp_of_mem λ{a b} ha hb h=>Df (Po a ha) (Po b hb) (Nat.le_of_lt h)
structure Bt(ns:List Int)(t:Nat)(D:List Nat)(s:Sr)(rdy:List Nat):Prop where
 I:jl ns D t
 le:t≤D.length
 K:Mm ns D s.np rdy
 su:s.su=dI ns ns.length
 od:∀p,p∈s.od↔p<ns.length
 R:tB s rdy
 fi:s.fi=s.po
section
variable{ns:List Int}{D:List Nat}{s:Sr}{e1 e2 t:Nat}
def Bt.perm(B:Bt ns t D s rdy):(freeOf ns D).Perm rdy:=(List.perm_ext_iff_of_nodup gj B.K.nu).mpr λp=>(B.K.mem p).symm
def sY:(freeOf ns D).Pairwise (· < ·):=List.Pairwise.filter _ List.pairwise_lt_range
theorem yS(A:tC C)(hn:ns.length≤7)(B:Bt ns t D s rdy)(PH:rdy≠[])(Xi:rs.length≤100){X:Fl→Loc→AH→Prop}(L:Lr l)(h7:l 7=some (.obj (cp s+1+junk.length)))(k:∀s' rdy' e2' l',Bt ns (t+1) (D++freeOf ns D) s' rdy'→Lr l'→l' 2=l 2→l' 7=l 7→cp s'=cp s→X .next l' (rH ns s' rdy' e1 e2' (gC ns (D++freeOf ns D)) (junk++[.lst ((rs++[a7 ns D]).map bK)]))):
  Xb C (Nm (bW 4 uC.1)) l (rH ns s rdy e1 e2 (gC ns D) (junk++[.lst (rs.map bK)])) X:=by
 have A':oo C:=CZ A.sl A.ia;have TM:=B.perm;have OV:(freeOf ns D).length=rdy.length:=TM.length_eq;have Vc:(freeOf ns D).length≤7:=NT (j2 ns D) hn;have To:∀p∈freeOf ns D,p<ns.length:=λp hp=>(bO.mp hp).1;have Xh:∀p∈rdy,p∈s.od:=λp hp=>(B.od p).mpr (To p ((B.K.mem p).mp hp));refine mT (Hw (d:=.obj 0) (c:=291) (Ev1.v (by exact L.l1)) (l7 A.gm kD) (A.gc _ _ _ (aG s rdy (aH _ _ _ rfl rfl B.R ⟨Xh,(aQ (d:=.lst ((freeOf ns D).map aI)) ?_ ?_)⟩))))
 ·show(dP (rdy.map aI)).bind (λts=>if decide (ts.length<64)=true then some (PV.lst ((dh ts).map .str)) else none)=_;rw[mn];show(if decide ((rdy.map af).length<64)=true then some (PV.lst ((dh (rdy.map af)).map .str)) else none)=_;rw[NO,N0 (by exact bu Vc (ap OV)),uS sY (λp hp=>OC (To p hp) hn) TM,List.map_map];rfl
 refine da (ds:=(freeOf ns D).map aI) Ev1.v rfl (au (by rw[NO];exact az Vc)) ?_;refine cK (λr l' H=>∃pre e2',freeOf ns D=pre++r∧Lr l'∧l' 2=l 2∧l' 7=l 7∧l' 8=some (.lst ((freeOf ns D).map aI))∧H=rH ns {s with np:=ck s.np rdy,po:=s.po+rdy.length} [] e1 e2' (gC ns (D++pre)) (junk++[.lst (rs.map bK)])) ?_ ?_ _ _ _
  (aJ [] e2 rfl ⟨L.l1,L.l3,L.l4⟩ rfl rfl ⟨rfl,(by rw[N6];rfl)⟩)
 ·rintro p r l' H ⟨pre,e2',e,L',g2,g7,g8,rfl⟩ X' hX;have hpF:p∈freeOf ns D:=by rw[e];simp
  refine bV (bO.mp hpF) λXc W9 P9=>?_;have YF:(freeOf ns D).Nodup:=gj;rw[e] at YF;have hpp:p∉pre:=λh=>(List.nodup_append.mp YF).2.2 p h p (.head _) rfl;have ZE:D.length+1≤ns.length:=by
   have h1:(p::D).Nodup:=OE.mpr ⟨W9,B.I.nu⟩;have h2:(p::D)⊆List.range ns.length:=λq hq=>by
    rcases NU.mp hq with rfl | hq
    ·exact OJ.mpr Xc
    ·exact OJ.mpr (B.I.dep q hq).lt
   simpa using h1.length_le_of_subset h2
  have ht:=B.le;have d7:∀q∈nd ns p,jx ns 7 q:=λq hq=>(B.I.dep q (P9 q hq)).le (ph ht ZE hn);refine ak _ rfl (AC A hn Xc (λq hq=>⟨λh=>W9 (h▸P9 q hq),?_⟩) ?_ (l:=upd l' 6 (aI p)) ⟨L'.l1,L'.l3,L'.l4⟩ rfl λe3 l3 L3 q2 q7 q8=>?_)
  ·unfold gC;rw[N1 (List.mem_append_left _ (P9 q hq))]
  ·unfold gC;rw[NY λh=>(Ot.mp h).elim W9 hpp]
  ·refine(hX l3 _ (aJ (pre++[p]) e3 (by rw[e];simp) L3 (q2.trans g2) (q7.trans g7) ⟨(q8.trans g8),?_⟩)).1;have ec:bI (gC ns (D++pre)) p (aK ((nd ns p).foldl (λa q=>cL a (aZ ns q)) (oct (ns.getD p 0))))=gC ns (D++(pre++[p])):=by
    funext a;unfold bI gC;by_cases h:a=p
    ·subst h;rw[N1 rfl,N1 (by simp),uB ⟨Xc,d7⟩ d7]
    ·rw[NY h];have:(a∈D++(pre++[p]))↔a∈D++pre:=by simp[h]
     by_cases h2:a∈D++pre
     ·rw[N1 h2,N1 (this.mpr h2)]
     ·rw[NY h2,NY λz=>h2 (this.mp z)]
   rw[ec]
 ·rintro l' H ⟨pre,e2',e,L',g2,g7,g8,rfl⟩;rw[N6] at e;rw[e.symm];refine aU (xh B.I B.K) λho K'=>?_;have Xk:∀p,(s.su p).length≤100:=λp=>by
   rw[B.su];exact NT (OK _ _) (by rw[OL];exact az hn)
  refine aA (wN (A8 (d:=.obj 0) (c:=291) (ds:=[]) (u:=.lst ((freeOf ns D).map aI)) (us:=(freeOf ns D).map aI) (Ev1.v (by exact L'.l1)) (l7 A.om kD) .nil (Ev1.v (by exact g8)) rfl (au (by rw[NO];exact az Vc))
   (A.oc _ _ _ (aG {s with np:=ck s.np rdy,po:=s.po+rdy.length} [] (aG _ _ (aJ _ (freeOf ns D) rfl rfl ⟨B.R.od,B.R.rd,Oc _⟩ Vc (aS (λp hp=>(B.od p).mpr (To p hp)) (λp hp=>⟨Xk p,λq hq=>?_⟩) (λa p b he=>?_) ?_)))))))
  ·have hq:q∈s.su p:=hq;rw[B.su] at hq;exact(B.od q).mpr (gG.mp hq).1
  ·show(a.foldl (bN s.su) (ck s.np rdy,[])).1 p=-1;rw[B.su];exact ho a p b he
  ·have hj:(rH ns {s with np:=((freeOf ns D).foldl (bN s.su) (ck s.np rdy,[])).1,po:=s.po+rdy.length,fi:=s.fi+(freeOf ns D).length} ((freeOf ns D).foldl (bN s.su) (ck s.np rdy,[])).2 e1 e2' (gC ns (D++freeOf ns D)) (junk++[.lst (rs.map bK)]))[cp s+1+junk.length]?=some (.lst (rs.map bK)):=
    (jd (s:={s with np:=((freeOf ns D).foldl (bN s.su) (ck s.np rdy,[])).1,po:=s.po+rdy.length,fi:=s.fi+(freeOf ns D).length}) junk.length).trans lS
   refine abi (j:=cp s+1+junk.length) (ys:=rs.map bK) (d:=bK (a7 ns D)) (by exact g7.trans h7) hj (au (by rw[NO];exact az Xi)) ?_ (aB ?_)
   ·have e0:bK (a7 ns D)=.lst ((freeOf ns D).map λp=>du (af p,aZ ns p)):=by
     unfold bK a7;rw[List.map_map];rfl
    rw[e0];refine Ev1.map (f:=aI) (g:=λp=>du (af p,aZ ns p)) (as:=freeOf ns D) (Ev1.v (d:=.lst ((freeOf ns D).map aI)) (by exact g8)) rfl (au (az Vc)) λp hp=>ak _ rfl (Ev1.tup (ds:=[aI p,aK (aZ ns p)]) (.cons Ev1.v (.one (Ev1.idx (x:=.obj 3) (y:=aI p) (Ev1.v (by exact L'.l4)) Ev1.v ((gW hn (To p hp)).trans ?_)))));unfold gC;rw[N1 (List.mem_append_right _ hp)]
   ·have Rm:(rH ns {s with np:=((freeOf ns D).foldl (bN s.su) (ck s.np rdy,[])).1,po:=s.po+rdy.length,fi:=s.fi+(freeOf ns D).length} ((freeOf ns D).foldl (bN s.su) (ck s.np rdy,[])).2 e1 e2' (gC ns (D++freeOf ns D)) (junk++[.lst (rs.map bK)])).set (cp s+1+junk.length) (.lst (rs.map bK++[bK (a7 ns D)])) =
      rH ns {s with np:=((freeOf ns D).foldl (bN s.su) (ck s.np rdy,[])).1,po:=s.po+rdy.length,fi:=s.fi+(freeOf ns D).length} ((freeOf ns D).foldl (bN s.su) (ck s.np rdy,[])).2 e1 e2' (gC ns (D++freeOf ns D)) (junk++[.lst ((rs++[a7 ns D]).map bK)]):=by
     refine(gw (s:={s with np:=((freeOf ns D).foldl (bN s.su) (ck s.np rdy,[])).1,po:=s.po+rdy.length,fi:=s.fi+(freeOf ns D).length}) junk.length _).trans ?_;rw[wJ,OI];rfl
    refine Rm.symm▸k _ _ e2' l' ⟨B.I.step,?_,?_,B.su,B.od,⟨B.R.od,B.R.rd,?_⟩,?_⟩ L' g2 g7 rfl
    ·have:1≤(freeOf ns D).length:=by
      rw[OV];cases rdy
      ·exact absurd rfl PH
      ·simp
     have:=B.le;rw[NP];exact Nat.add_le_add this (by assumption)
    ·rw[B.su];exact K'
    ·rw[B.su];have:=ed (od:=((freeOf ns D).foldl (bN (dI ns ns.length)) (ck s.np rdy,[])).2) ⟨K'.nu,λp hp=>OC (bO.mp ((K'.mem p).mp hp)).1 hn⟩;exact az this
    ·show s.fi+((freeOf ns D).length:Int)=s.po+(rdy.length:Int);rw[B.fi,OV]
end
end
section
def Ci(ns:List Int):PV:=.lst [.bool (decide ((cj ns).2.length<ns.length)),.lst ((cj ns).1.map bK)]
section
variable{ns:List Int}{D:List Nat}{s:Sr}{e1 e2 t:Nat}
def Jj(ns:List Int):∀t,(oD ns t).1.length≤t:=by
 intro t;induction t with
 |zero=>
  exact Oe _
 |succ t ihr=>
  have:=ihr;show(if a7 ns (oD ns t).2=[] then(oD ns t).1 else(oD ns t).1++[a7 ns (oD ns t).2]).length≤t+1;split
  ·exact a8 ihr
  ·rw[NP];simp;exact ihr
def IR(rs:List Rd):cQ (rs.map bK)=true:=b0 (f:=bK) (λr=>b0 (f:=du) rW r) rs
def Iy{b:Bool}(h:H[j]?=some (.lst (rs.map bK))):res H (.lst [.bool b,.obj j])=some (.lst [.bool b,.lst (rs.map bK)]):=by
 have h1:fg H 3 j=some (.lst (rs.map bK)):=by
  show(listItems H (.obj j)).bind (λl=>(cg (fg H 2) l).map PV.lst)=_;rw[show listItems H (.obj j)=some (rs.map bK) by simp only[listItems,h]];show(cg (fg H 2) (rs.map bK)).map PV.lst=_;rw[nB (IR rs)];rfl
 show(cg (fg H 3) [.bool b,.obj j]).map PV.lst=_;show((some (PV.bool b)).bind λe=>((fg H 3 j).bind λe=>(some ([]:List PV)).map λes=>e::es).map λes=>e::es).map PV.lst=_;rw[h1];rfl
def vn(A:tC C)(hn:ns.length≤7)(B:Bt ns 0 [] s rdy){b:Bool}(hb:(b=true∧Jy (dI ns ns.length) s.od)∨(b=false∧∃fin,pM (dI ns ns.length) fin∧∀p,p<ns.length→p∈fin))(L:Lr l)(h2:l 2=some (.bool b)):
  Xb C (bW 3 uC.1) l (rH ns s rdy e1 e2 (gC ns []) junk) (Hx λd H=>el (res H d) (·=Ci ns)):=by
 refine cW ?_;have e0:(rH ns s rdy e1 e2 (gC ns []) junk).length=cp s+1+junk.length:=qG;have ea:rH ns s rdy e1 e2 (gC ns []) junk++[.lst []]=rH ns s rdy e1 e2 (gC ns []) (junk++[.lst (([]:List Rd).map bK)]):=ul _;rw[e0,ea];have Sh:∀p∈s.od,p<ns.length:=λp hp=>(B.od p).mp hp;refine Aj (λm l H=>∃t D s' rdy e2 rs,m=ns.length-D.length∧Bt ns t D s' rdy∧Lr l∧l 2=some (.bool b)∧l 7=some (.obj (cp s'+1+junk.length))∧oD ns t=(rs,D)∧H=rH ns s' rdy e1 e2 (gC ns D) (junk++[.lst (rs.map bK)])) _
  (aG 0 [] (aG s rdy (aJ e2 [] rfl B ⟨L.l1,L.l3,L.l4⟩ h2 ⟨rfl,rfl,rfl⟩))) ?_
 rintro m l' H ⟨t,D,s',rdy',e2',rs,rfl,B',L',g2,g7,hit,rfl⟩;refine wS (d:=.obj 0) (c:=291) (ds:=[]) (Ev1.v (by exact L'.l1)) (l7 A.im kD) .nil (A.ic _ _ _ (aG s' rdy' (aH _ _ _ rfl rfl B'.R (aQ (d:=!rdy'.isEmpty) ?_ ?_))))
 ·show some (decide (s'.fi<s'.po)||!rdy'.isEmpty)=_;rw[B'.fi,Os (Int.lt_irrefl _)];rfl
 ·have SD:rs.length≤7:=by
   have h1:=Jj ns t;rw[hit] at h1;have h2:=B'.I.le;have h3:=B'.le;exact Hj (h1:rs.length≤t) h3 h2 hn
  by_cases he:rdy'=[]
  ·rw[he];show Xb C _ l' _ _;have hf:freeOf ns D=[]:=by
    refine List.eq_nil_iff_forall_not_mem.mpr λp hp=>?_;have:=(B'.K.mem p).mpr hp;rw[he] at this;cases this
   have WQ:cj ns=(rs,D):=by
    rw[hit.symm];exact Fs (by rw[hit];exact hf) (by rw[hit];exact B'.le)
   have Ug:b=decide (D.length<ns.length):=by
    rcases hb with ⟨rfl,hc⟩ | ⟨rfl,fin,h1,h2⟩
    ·exact(N0 (I3 B'.I Sh hc)).symm
    ·exact(Os (Nat.not_lt.mpr (Fk B'.I hf h1 h2))).symm
   refine ct (d:=.lst [.bool b,.obj (cp s'+1+junk.length)]) (Ev1.lst (.cons (Ev1.v g2) (.one (Ev1.v g7)))) (aQ (Iy (rs:=rs) ((jd junk.length).trans lS)) ?_);unfold Ci;rw[WQ,Ug]
  ·have:(!rdy'.isEmpty)=true:=by
    cases rdy'
    ·exact absurd rfl he
    ·rfl
   rw[this];show Xb C _ l' _ _;have Vp:freeOf ns D≠[]:=λq=>he (by
    have:=B'.perm;rw[q] at this;exact this.nil_eq.symm)
   have hr:a7 ns D≠[]:=λq=>Vp (by
    unfold a7 at q;exact List.map_eq_nil_iff.mp q)
   refine yS A hn B' he (az SD) L' g7 λs2 XA e3 l2 B2 L2 q2 q7 qt=>cP (ak _ ?_ (aG (t+1) (D++freeOf ns D) (aG s2 XA (aJ e3 (rs++[a7 ns D]) rfl B2 L2 (q2.trans g2) ⟨?_,?_,rfl⟩))))
   ·have h1:1≤(freeOf ns D).length:=by
     cases hq:freeOf ns D
     ·exact absurd hq Vp
     ·simp
    have h2:=B2.I.le;rw[NP] at h2 ⊢;exact Nat.sub_lt_sub_left (bu h1 h2) (a8 h1)
   ·rw[qt];exact q7.trans g7
   ·show bz ns (oD ns t)=_;rw[hit];unfold bz;rw[NY hr]
def JN(A:tC C)(hx0:∀l H K,Ib D9 l H K→C.xt (b7 (aL 43) [0]) ["TopologicalSorter"] [1,2,3,4] l H K)(Up:∀l H K,Iu qm l H K→C.xt (b7 (aL 43) [2]) ["CycleError"] [1,2] l H K)(hn:ns.length≤7):
  abF C uC.1 [bj (rowsOf ns)] [] λd H=>el (res H d) (·=Ci ns):=by
 refine fM (abd (hx0 _ _ _ ⟨kR,.inl (aS rfl rfl rfl (λep Yz V3=>?_))⟩));show Xb C _ _ (bH ns 0 (Jv ep) Yz V3) _;refine da (ds:=(List.range ns.length).map λp=>bT (dF ns p)) (x:=.lst ((rowsOf ns).map bT)) Ev1.v (by rw[t9];rfl) (au (by simp;exact az hn)) (cK (f:=λp=>bT (dF ns p)) (λr l H=>∃m s e1 e2,r=(List.range ns.length).drop m∧m≤ns.length∧Bs ns m s∧Lr l∧l 2=some (.bool false)∧H=bH ns m s e1 e2) ?_ ?_ _ _ _ (aG 0 (Jv ep) (aJ Yz V3 rfl (Oc _) (MP ep) ⟨rfl,rfl,rfl⟩ ⟨rfl,rfl⟩)))
 ·rintro a r l H ⟨m,s,e1,e2,e,hm,B,L,h2,rfl⟩ X hX;have Po:m<ns.length:=by
   have:=N2 List.length e;rw[List.length_drop,OL,NR] at this;exact bu (aq this) (aq (ac hm))
  have hd:(List.range ns.length).drop m=m::(List.range ns.length).drop (m+1):=by
   rw[List.drop_eq_getElem_cons (by rw[OL];exact Po),List.getElem_range]
  rw[hd] at e;refine aU (List.cons.inj e) λO8 Pq=>?_;obtain rfl:=O8;obtain rfl:=Pq;refine ak _ rfl (yY A hn Po B ⟨L.l1,L.l3,L.l4⟩ rfl λs' Ub e2' l' B' L' q2=>(hX l' _ (aG (a+1) s' (aJ Ub e2' rfl Po B' L' ⟨(q2.trans h2),rfl⟩))).1)
 ·rintro l H ⟨m,s,e1,e2,e,hm,B,L,h2,rfl⟩;have hmn:m=ns.length:=by
   have:=N2 List.length e;rw[List.length_drop,OL,List.length_nil] at this;exact yD this (ac hm)
  subst hmn;have RW:s.su=dI ns ns.length:=funext B.su;have Sh:∀p,p∈s.od↔p<ns.length:=λp=>⟨B.lt p,B.mem p⟩;have hB:Bt ns 0 [] {s with rd:=.obj (cp s)} (nS s):=⟨⟨List.nodup_nil,nofun,nofun⟩,Oe _,Mc (λp hp=>by rw[show({s with rd:=PV.obj (cp s)}:Sr).np p=s.np p from rfl,B.np,N1 hp]) Sh B.od.nd,RW,Sh,⟨B.od,rfl,NT (OK _ _) (NT (ed B.od) kD)⟩,B.fi.trans B.po.symm⟩;have UT:∀p∈s.od,(s.su p).length≤7∧∀q∈s.su p,q∈s.od:=λp _=>by
   rw[RW];exact⟨NT (OK _ _) (by rw[OL];exact hn),λq hq=>(Sh q).mpr (gG.mp hq).1⟩
  have Vj:sB ns=gC ns []:=by
   funext p;unfold sB gC;rw[NY Ou]
  refine aA (abd (Up _ _ _ (aH 0 (py s) [] L.l1 rfl kR (He B.od B.rd UT (λfin junk h1 ZD h3=>?_) λjunk hc=>?_))))
  ·rw[Vj];exact aA (vn A hn hB (.inr (dC rfl fin (by rw[RW.symm];exact h1) (λp hp=>ZD p ((Sh p).mpr hp)))) L h2)
  ·rw[Vj];exact aA (vn A hn hB (.inl ⟨rfl,by rw[RW.symm];exact hc⟩) ⟨L.l1,L.l3,L.l4⟩ rfl)
end
end
section
def JA:cu:={D9 with xt:=λst gs is l H K=>(st=b7 (aL 43) [0]∧gs=[("TopologicalSorter":Str)]∧is=[1,2,3,4]∧Ib D9 l H K)∨(st=b7 (aL 43) [2]∧gs=[("CycleError":Str)]∧is=[1,2]∧Iu qm l H K)}
def kX(L:Laid S):ah S 39 JA:={Cp L with}
def Ao:∃k1 k2 k3 p1 p2 p3 p4 p5 p6 p7 p8 p9 Qt QY p12,b7 (aL 43) [0]=Md jZ k1 k2 k3 p1 p2 p3 p4 p5 p6 p7 p8 p9 Qt QY p12:=aG _ _ (aG _ _ (aG _ _ (aG _ _ (aG _ _ (aG _ _ (aG _ _ ⟨_,rfl⟩))))))
def zT:∃k p1 p2 p3 p4 p5 p6 p7 p8 p9 Qt,b7 (aL 43) [2]=LK jZ k p1 p2 p3 p4 p5 p6 p7 p8 p9 Qt∧(p2.endLine==p3.line)=true:=aG _ _ (aG _ _ (aG _ _ (aG _ _ (aG _ _ (ak _ rfl rfl)))))
def vL(L:Laid S):bC S "CycleError" (.ref 209):=L.glob kR
def JF(L:Laid S)(st:Stmt)(gs:List Str)(is:List Nat):XS ⟨S,JA,39,jZ⟩ (.ext st gs is):=by
 intro X s K Q E i ok O hx hQ;have OZ:jZ.Nodup:=kE;rcases hx with ⟨rfl,rfl,rfl,hx⟩ | ⟨rfl,rfl,rfl,hx⟩
 ·refine bh Ao λk1 k2 k3 p1 QV=>bh QV λp2 p3 p4 p5 R3=>bh R3 λp6 p7 p8 p9 R5=>ce R5 λQt QY R6=>a9 R6 λp12 e=>?_;have ok:([("TopologicalSorter":Str)].all (o0 X.ns)&&[1,2,3,4].all λi=>decide (i<jZ.length)&&gE X.ns (nm jZ i))=true:=ok;have hg:=Ob.mp (ai ok) _ (.head _);show wpAny S.M X.A (exec (b7 (aL 43) [0]) X.env) Q E s;rw[e];exact xn (P:=⟨S,JA,39,jZ⟩) OZ (kX L) K Q E i hg (λj hj=>by
   have q:=Ob.mp (ae ok) j hj;exact⟨NV (ai q),ae q⟩) O hx hQ
 ·refine bh zT λk p1 p2 p3 QI=>bh QI λp4 p5 p6 p7 R7=>a5 R7 λp8 p9 Qt e e1=>?_;have ok:([("CycleError":Str)].all (o0 X.ns)&&[1,2].all λi=>decide (i<jZ.length)&&gE X.ns (nm jZ i))=true:=ok;have hg:=Ob.mp (ai ok) _ (.head _);have q1:=Ob.mp (ae ok) 1 (by simp);have q2:=Ob.mp (ae ok) 2 (by simp);show wpAny S.M X.A (exec (b7 (aL 43) [2]) X.env) Q E s;rw[e];exact xI (P:=⟨S,JA,39,jZ⟩) L OZ (kX L) rfl (vL L) (Pre:=qm) (λ{A E Q s g H v d Kn Ke} room fk w R r hp hn he=>CU (n:=38) (Br S.w) (BG S.w) L (rC L) (Go rfl) rfl kR (vL L) room fk w R r Kn Ke (Xb.run hp) hn he) e1 K Q E i hg (ae q1) (NV (ai q2)) (ae q2) O hx hQ
def Nk(H:AH)(ds:List PV)(K:PV→AH→Prop):Prop:=∃d,Nc ds d∧K d H
def BT:tC JA:={EZ with}
def I8(L:Laid S):ek S 40 346 Nk:=by
 intro A E Q s g H vs ds K room fk w R rs hr hQ;refine ay hr λd Yu hk=>?_;obtain⟨sc,rfl,rfl⟩:=Yu;have F:=J8 S.w;have OV:vs.length=1:=rs.length;have hb:Binds S.w 346 jZ 1:=bR;have W4:cQ [bj (rowsOf (numsOf sc))]=true:=by
  show(dW (bj (rowsOf (numsOf sc)))&&true)=true;rw[show dW (bj (rowsOf (numsOf sc)))=true from gy _];rfl
 have RV:=JN BT (λl H K h=>.inl (aS rfl rfl rfl h)) (λl H K h=>.inr (aS rfl rfl rfl h)) (sf sc);refine fT (P:=⟨S,JA,39,jZ⟩) (A:=A) (s:=s) (g:=g.bare) (H:=[]) (us:=vs) (F.ok _ rfl) (kX L) (JF L) room ⟨λ_=>fk.imp λl q=>⟨q.1,λenv he=>(q.2 env he).imp id λq=>q.imp λb=>.imp λo q=>bY q.1 q.2.1 q.2.2.1 q.2.2.2.1 (λh=>h)⟩,λh=>nomatch h⟩ w.bare.W w.bare .bare (L.abe F.nt) (L.at F.look) rfl
  (F.qual.elim λt q=>aG 345 _ (aJ _ t F.code (L.abe F.ntc) (L.at F.abD) rfl q)) ⟨L.abe rfl,L.nolimit⟩ OV F.len (BindsTo.of_eq (hb vs OV)) (il (g:=g) (g':=g.bare) (λ_ _ z e=>⟨z,e⟩) rs W4) RV λv s' g' d' H' hd ev w' R' r=>?_
 have fz:∀b,gR A b→g.Z b∧¬g.W b:=λb ⟨l,hl,env,he,hf⟩=>by
  refine ay fk λl' RG q=>?_;rw[hl] at RG;cases RG;refine aU (q env he) λ_ VX=>cA VX λb' o h1 _ Q7=>bV Q7 λ_ h4 h5=>?_;rw[hf] at h1;cases h1;exact⟨h4,h5⟩
 have ov:aC g g s.heap s'.heap:=⟨λb o z e=>⟨z,ev.abc b o (λq=>q) (λt=>z (w.tz b t).1) (λf=>z (fz b f).1) e⟩,λ_ _ e=>e⟩;have mv:mA S A g s g s':=⟨ev.same,λb o _ t f e=>ev.abc b o (λq=>q) t f e,λb o _ t f e=>ev.slot b o (λq=>q) t f e,λ_ q=>q,λ_ _ q=>q,λ_ _ q=>q,λ_ _ q=>q,ev.ex⟩;have w2:Wl S g s':=⟨λb z=>ev.ex b (w.T b z),w.W.over ov,w'.I.over (λb o z e=>⟨λq=>z (ev.z b q),e⟩) λb o t e=>e,w'.tp,w.tz⟩;have R2:bG S g H s'.heap:=R.over ov rfl (λ_ q=>q) λc o wc e=>ev.abc c o (λq=>q) (λt=>(w.tz c t).2 wc) (λf=>(fz c f).2 wc) e;have own:∀(i:Nat)(p:Addr×Addr),g'.ad[i]?=some p→¬g.Z p.1:=λi p hp q=>ev.wn p.1 (w.T _ q) (R'.w hp).1;have nz:∀b o,¬g'.Z b→s'.heap.get? b=some o→¬g.Z b:=λb o z _ q=>z (ev.z b q);refine a6 hd λe he Ts=>hQ v s' g e H ?_ mv w2 R2 (jh nz (ny R' nz own 3) r he);rw[Ts];exact hk
def CY:cu:=D0.cls "_law_run" Nk
def xO(L:Laid S):ah S 40 CY:=(kj L).cls kD (L.glob kR) (L.ab5 kR) (I8 L) rfl
end
def l8(h:C8.fa x=true):H5.fa x=true:=by
 show(x=="_law_due"||(CE 8).fa x)=true;rw[Gp h 8,Bool.or_true]
def sI(hx:x≠"_law_due")(hy:x≠"_law_ends")(h:C8.f x ds d):H5.f x ds d:=aj hx (Li hy h 8)
def Im:LC H5:=(BF 8).fn kD
def Iz:LC CY:={Im with}
def Jo:GC H5 where
 e:=l8 kR
 ec ds d h:=sI kD kD (aj kD (aj kD (aj kD (aj kD (aj kD (aj kD (aj kD (aj kD (aj kD (aj kD (aj kD (show C3.f _ _ _ from aj kD (bq h)))))))))))))
 j:=l8 kR
 jc ds d h:=sI kD kD (aj kD (aj kD (aj kD (aj kD (aj kD (aj kD (aj kD (aj kD (aj kD (bq h))))))))))
 s:=l8 kR
 sc ds d h:=sI kD kD (aj kD (aj kD (aj kD (aj kD (aj kD (aj kD (aj kD (aj kD (bq h)))))))))
 r:=l8 kR
 rc ds d h:=sI kD kD (aj kD (bq h))
 t:=l8 kR
 tc ds d h:=sI kD kD (bq h)
 d:=qu
 dc ds d h:=bq h
def H9:GC CY:={Jo with}
section
def yx(OZ:P.T.Nodup)(hC:ah P.toCx P.n P.C){n:Int}{k:Nat}{q p1 p2 pos pt:Pos}{rest:hV}{op:tI}{e2:ME}(X:Rt)(s:Shared)(K:Fl→Loc→AH→Prop)(Q:Flow→Shared→Prop)(E:Value→Shared→Prop)(i:In P.n X)(Pu:MT P.T (.asg (.one j pt) (.bin op (.lst (.cons (.c (.int n) k q) rest) p1) e2 p2) pos) X.ns X.cd=true)(O:Ok P X {s with toks:=s.toks+1})(hx:xs P.C (.asg (.one j pt) (.bin op (.lst (.cons (.c (.int n) k q) rest) p1) e2 p2) pos) X.l X.H K)(hQ:∀f fl s' g' l' H',K fl l' H'→Ok P {X with g:=g',l:=l',H:=H'} s'→Ev P X {s with toks:=s.toks+1} g' s'→fE g' s'.heap fl f→Q f s'):
  wpAny P.M X.A (exec (IW P.T (.asg (.one j pt) (.bin op (.lst (.cons (.c (.int n) k q) rest) p1) e2 p2) pos)) X.env) Q E s:=by
 have hm:=ai Pu;have Ty:cZ P.T (.bin op (.lst (.cons (.c (.int n) k q) rest) p1) e2 p2) X.ns X.cd=true:=ae (ae Pu);have okr:fR P.T rest X.ns X.cd=true:=ae (show fR P.T (.cons (.c (.int n) k q) rest) X.ns X.cd=true from ai Ty);have h:At P X {s with toks:=s.toks+1}:=O.toAt;refine c5 (jq P.T (.one j pt)) (k8 P.T (by rfl)) (oL i (ai (ae Pu))) (wpAny_BinOp (wpAny_List_spliced ?_));show wpAny P.M X.A (spliced (cm X.env p1 (aX P.T (.c (.int n) k q)::b8 P.T rest))) _ E s;rw[bM];refine spliced_cons (wpAny_Constant_int ?_);have hx:el (IX (.int n)) (λx=>pg P.C X.H rest X.l λxs=>cG (aE (x::xs).length) (pe P.C X.H e2 X.l λy=>fo op (.lst (x::xs)) y λd=>el (gP (.one j pt) X.l d) λl'=>K .next l' X.H)):=hx;refine a6 hx λd0 Lp hx=>?_;cases Lp;refine(eA OZ hC rest).1 X p1 _ _ _ E i okr h hx λvs OP ds hd OQ OT=>?_;have rr:aD X.g OP.heap (.int n::ds) (.int n s.toks::vs):=aN _ _ rfl ⟨_,rfl⟩ OT;refine⟨by rw[rr.length];exact aO (bk hd),?_⟩;have Q1:=aY hd;refine(aR OZ hC e2).1 X _ _ _ E i (ae Ty) (h.k (OQ.to Kp0.abu OQ.tp)) Q1 λQl OR y hy OU OY=>(h.k ((OQ.to Kp0.abu OQ.tp).trans OU)).run (nj (h.k ((OQ.to Kp0.abu OQ.tp).trans OU)).T hy ((abb.newList (h.k OQ).T rr).over ((h.k (OQ.to Kp0.abu OQ.tp)).over OU)) OY λQc OX d hd O3 Pf tp=>?_);have K3:=((OQ.to Kp0.abu OQ.tp).trans OU).to O3 tp;exact a6 hd λl' ht hk=>abo i hm OZ (O.kp K3) ht Pf λO0 Pe Pg=>hQ _ .next O0 X.g l' X.H hk Pe ((Ev.kp K3).trans (l:=X.l) (H:=X.H) Pg) rfl
def xQ(OZ:P.T.Nodup)(hC:ah P.toCx P.n P.C)(hX:∀st gs is,XS P (.ext st gs is)){n:Int}{k:Nat}{q p1 p2 pos pt:Pos}{rest:hV}{op:tI}{e2:ME}{B:MB}(X:Rt)(s:Shared)(K:Fl→Loc→AH→Prop)(Q:Flow→Shared→Prop)(E:Value→Shared→Prop)(i:In P.n X)(ok:sS P.T (.cons (.asg (.one j pt) (.bin op (.lst (.cons (.c (.int n) k q) rest) p1) e2 p2) pos) B) X.ns X.cd=true)(O:Ok P X {s with toks:=s.toks+1})(hx:xb P.C (.cons (.asg (.one j pt) (.bin op (.lst (.cons (.c (.int n) k q) rest) p1) e2 p2) pos) B) X.l X.H K)(hQ:∀f fl s' g' l' H',K fl l' H'→Ok P {X with g:=g',l:=l',H:=H'} s'→Ev P X {s with toks:=s.toks+1} g' s'→fE g' s'.heap fl f→Q f s'):
  wpAny P.M X.A (execs (iY P.T (.cons (.asg (.one j pt) (.bin op (.lst (.cons (.c (.int n) k q) rest) p1) e2 p2) pos) B)) X.env) Q E s:=by
 refine wpAny_execs_cons (yx OZ hC X s _ _ E i (ai ok) O hx λf fl OP Pw l₁ O1 hk OS Pb OT=>?_);cases fl with
 |next=>
  cases OT;exact qS OZ hC hX B {X with g:=Pw,l:=l₁,H:=O1} OP K Q E i.to (ae ok) OS hk λf fl OR Pp l₂ Pd hk OW O2 OY=>hQ f fl OR Pp l₂ Pd hk OW (Pb.trans O2) OY
 |brk=>cases OT;exact hQ _ .brk _ _ _ _ hk OS Pb rfl
 |cont=>cases OT;exact hQ _ .cont _ _ _ _ hk OS Pb rfl
 |ret d=>
  refine ay OT λv O8 r=>?_;obtain rfl:=O8;exact hQ _ (.ret d) _ _ _ _ hk OS Pb (ak v rfl r)
end
set_option backward.match.sparseCases true in
def Bo{w:World}{A:Around}{o:Obj}{fd:FuncData}{body:List Stmt}(hroom:A.depth<recursionLimit)(ho:O5.heap.get? a=some o)(hdata:o.data=.func fd)(P4:s.heap.NoLimit)(Q0:O5.heap.CodeRec fd.code fd.qualname)(hbody:fd.body=.stmts body)(hbind:lD O5 s fd ⟨QD,kw⟩ binds)(hclo:fd.closure=[])(hkind:∀x∈binds,fd.scope.names.lookup x.1=some .local∨(fd.scope.names.lookup x.1=some .cell∧((cellsFrom (s.heap.objs.size+1) fd.scope.names []).lookup x.1).isSome=true))(hco:fd.scope.isCoroutine=false)(hgen:fd.scope.isGenerator=false)(hk:fd.scope.kind=.function)(h:∀OP E',kQ fd s a binds OP→wpAny (model prog w) (A.deeper (callEnvC fd s.heap.objs.size a)) (execs body (callEnvC fd s.heap.objs.size a)) (λf s'=>Q (match f with | .ret v=>v | _=>.none) s') E' OP):
  codeAny (model prog w) A (.call (.ref a) ⟨QD,kw⟩) (wants Q E) O5:=by
 refine codeAny_call_function hroom ho hdata hco hgen hbody Q0 (hbind _ _ _ _ ?_);rw[hclo];refine wpAny_newFunctionEnv_cells hk hkind λenv he s' x=>?_;subst he;exact⟨P4.keeps x.toInCall.keep,codeAny_func (h s' _ x)⟩
section
def g0(S:Cx):Gh:=Gh.bare ⟨λb=>S.T b,λ_=>False,[],λ_ h=>h.elim⟩
theorem NG(L:Laid S)(hb:s.heap=S.base)(hp:0<s.toks):Wl S (g0 S) s:=by
 refine⟨λb t=>?_,λb o t e=>⟨by rw[hb];exact e,t⟩,λt ht=>?_,hp,λb t=>⟨t,λh=>h⟩⟩
 ·refine ay (show S.T b from t) λt m Pq=>?_;obtain rfl:=Pq;rw[L.tabs] at m;rw[hb];simp only[NU,Ou,or_false] at m;rcases m with rfl | rfl
  ·exact⟨_,L.t1⟩
  ·exact⟨_,L.t2⟩
 ·rw[L.tabs] at ht;rw[hb];simp only[NU,Ou,or_false] at ht;rcases ht with rfl | rfl
  ·exact aV (#[]) L.t1 trivial (.inl rfl)
  ·exact aV (#[]) L.t2 trivial (.inl rfl)
def ve{b:Addr}(h:gR callerA b):False:=by
 refine ay h λl hl R6=>ay R6 λenv he _=>?_;cases hl;cases he
def Mp:GK g callerA h:=ak [] rfl (λ_ h=>absurd h Ou)
def CG:∃(q1 p1 p2 pos pt:Pos)(rest:hV)(e2:ME)(B:MB),qR.1=.cons (.asg (.one 1 pt) (.bin .add (.lst (.cons (.c (.int 2495) 0 q1) rest) p1) e2 p2) pos) B:=aG _ _ (aG _ _ (aG _ _ (aG _ _ rfl)))
def AT{a:Addr}(F:FnAt S.w a ca jJ qR.1 none 1)(Ug:Binds S.w a jJ 1)(L:Laid S){s:Shared}(hb:s.heap=S.base){sc:List Int}(hs:sc.length≤63){v:Value}(r:abb (g0 S) s.heap (bn sc) v)(hQ:∀s' g',(∃h tk,s'={s with heap:=h,toks:=tk})→(∀b o,¬S.T b→s.heap.get? b=some o→s'.heap.get? b=some o)→S.TI g' s'.heap→Q (.bool true) s'):wpAny S.M callerA (call (.ref a) [v]) Q E s:=by
 have FB:=F.ok ⟨S,CY,40,jJ⟩ rfl;have hC:=xO L;have P4:¬S.T cStatics∧S.base.NoLimit:=⟨L.abe rfl,L.nolimit⟩;have lW:∀x∈(jJ.take 1).zip [v],x.1∈jJ.take 1:=λx hx=>(List.of_mem_zip hx).1;have room:fF callerA (40+1):=⟨rfl,kD,kD⟩;refine wpAny_call (Bo (O5:=s) (s:=s) (o:={cls:=.type "function",data:=.func (bv S.w a)}) (fd:=bv S.w a) (binds:=(jJ.take 1).zip [v]) kD (by rw[hb];exact L.at F.look) rfl (by rw[hb];exact L.nolimit) ?_ FB.body (BindsTo.of_eq (Ug [v] rfl)) FB.closure (λx hx=>(mQ FB.toFnBase _ (lW x hx)).imp id λq=>⟨q,c7 q⟩) FB.co FB.gen FB.kind λOP E' ic=>?_)
 ·exact a9 F.qual λt q=>aG ca _ (bL _ t F.code (by rw[hb];exact L.at F.abD) rfl q)
 have wT:Wl S (g0 S) {s with toks:=s.toks+1}:=NG L hb (Nat.succ_pos _);have Y7:kQ (bv S.w a) {s with toks:=s.toks+1} a ((jJ.take [v].length).zip [v]) {OP with toks:=OP.toks+1}:=by
  obtain⟨⟨⟨h,t,e⟩,i1,i2,i3⟩,i4,i5,i6⟩:=ic;exact⟨⟨aG h (OP.toks+1) (by rw[e]),i1,i2,i3⟩,i4,i5,i6⟩
 have OS:=j3 (P:=⟨S,CY,40,jJ⟩) (H:=[]) (ds:=[bn sc]) (A:=callerA) (us:=[v]) FB.toFnBase wT .bare rfl F.len (aD.one r) ⟨λ_=>Mp,λh=>absurd (Eq.trans (show true=CY.fr from rfl) h) Bool.noConfusion⟩ (Nat.succ_pos _) Y7;have Tk:=vX (P:=⟨S,CY,40,jJ⟩) (H:=[]) (ds:=[bn sc]) (A:=callerA) (g:=g0 S) (s:=s) (a:=a) FB.toFnBase room;have RV:=J6 Iz H9 kR (λH ds K h=>.inl ⟨rfl,h⟩) hs;have hX:∀st gs is,XS ⟨S,CY,40,jJ⟩ (.ext st gs is):=λst gs is X s K Q E i ok O hx hQ=>hx.elim;refine bh CG λq1 p1 p2 pos QI=>bh QI λpt rest e2 B hB=>?_;have ok:=FB.ok;have RV:xb CY qR.1 (λi=>[bn sc][i]?) [] _:=RV;rw[hB] at ok RV ⊢;refine xQ (P:=⟨S,CY,40,jJ⟩) FB.nodup hC hX (gk (g0 S) [] (bv S.w a) none s.heap.objs.size a [bn sc] callerA) OP _ _ E' Tk ok OS RV λf fl s' g' l' H' hk O' ev fr=>?_;have fin:fl=.ret (.bool true):=by
  cases fl with
  |ret d=>exact N2 _ hk
  |next=>cases hk
  |brk=>exact hk.elim
  |cont=>exact hk.elim
 subst fin;refine ay fr λv' Qd r'=>?_;obtain rfl:=Qd;cases r';have mv:=fS Y7 ev;exact ce mv.same λh tk e=>hQ s' g' (aG h tk e) (λb o t e=>mv.abc b o (λq=>q) t ve e) O'.toAt.wl.I
def DH(w:World):Binds w 361 jJ 1:=bR
end
end Internal
end
section
open PySem PySem.Calls PySem.Spec PySem.W PyProof.Rows
noncomputable section
namespace Internal
def El{h:Heap}{a:Addr}{m m':Str→Option Value}(x:h.Ns a m)(y:h.Ns a m')(n:Str):m n=m' n:=
 x.elim λo h=>h.elim λes h=>h.elim λep h=>y.elim λo' k=>k.elim λes' k=>k.elim λPW k=>by
  have e:o=o':=NW (h.1.symm.trans k.1);have e2:=h.2.1.symm.trans ((N2 _ e).trans k.2.1);have e3:es=es':=(Data.dict.inj e2).1;exact(h.2.2.2 n).symm.trans (e3▸k.2.2.2 n)
def Bn{R:WRecords}:∀{xs:List WData},WShape.hasItems R xs .int=true→∃sc:List Int,xs=sc.map WData.int:=by
 intro xs;induction xs with
 |nil=>exact λ_=>⟨[],rfl⟩
 |cons x xs ihr=>
  intro h;have h:(WShape.has R x .int&&WShape.hasItems R xs .int)=true:=h;exact(hasW_int (ai h)).elim λi e=>(ihr (ae h)).elim λsc e'=>⟨i::sc,congr (N2 _ e) e'⟩
def WI(P:Params)(h:Heap)(v:Value):WData→Prop
 |.int i=>∃t,v=.int i t
 |.list xs=>∃b vs,v=.ref b∧h.get? b=some (cE vs 0)∧WellAll P h vs xs
 |_=>True
theorem wi{P:Params}{h:Heap}{v:Value}{d:WData}(x:Well P h v d):WI P h v d:=by
 cases x with
 |int i t=>exact⟨t,rfl⟩
 |list e w=>exact⟨_,_,rfl,e,w⟩
 |_=>trivial
def Au{P:Params}{g:Gh}{h:Heap}{sc:List Int}:∀{vs:List Value},WellAll P h vs (sc.map WData.int)→aD g h (sc.map .int) vs:=by
 induction sc with
 |nil=>intro vs w;cases w;rfl
 |cons i sc ih=>exact λw=>(wellAll_cons_inv w).elim λv h=>h.elim λr h=>⟨v,r,h.1,wi h.2.1,ih h.2.2⟩
def Ex{sc:List Int}(h:PySem.Challenge.rw_oy0417_01.row.toRowW.pre.holds [] {args:=[.list (sc.map WData.int)]}=true):sc.length≤63:=
 Nat.le_of_not_lt λq=>by
  have h:WTm.holds [] (.and (.not (.lit (.bool (decide ((63:Int)<((sc.map WData.int).length:Int)))))) (.lit (.bool true))) {args:=[.list (sc.map WData.int)]}=true:=h;have e:decide ((63:Int)<((sc.map WData.int).length:Int))=true:=N0 (Int.ofNat_lt.mpr ((NO ..).symm▸q));exact N' ((e▸h:WTm.holds [] (.and (.not (.lit (.bool true))) (.lit (.bool true))) {args:=[.list (sc.map WData.int)]}=true))
def acp{S:Cx}(L:Laid S){M:Addr→Prop}(h1:M 72)(h2:M 89)(h3:∀b,¬S.T b→M b)(b:Addr):M b:=
 if h:b=72 then h▸h1 else if h':b=89 then h'▸h2 else h3 b (L.abe (by rw[OG h,OG h'];rfl))
def KI{S:Cx}(L:Laid S){s s':Shared}(hb:s.heap=S.base){g':Gh}(k:∀b o,¬S.T b→s.heap.get? b=some o→s'.heap.get? b=some o)(hI:S.TI g' s'.heap):OldK s.heap s'.heap:=by
 have tab:∀t∈S.tabs,s.heap.get? t.P=some (tabObj #[])→isCodeTable s.heap t.P→∀o,s.heap.get? t.P=some o→asItWas s.heap s'.heap t.P o:=λt ht e hc o eo=>
  (hI t ht).elim λps h=>NW (e.symm.trans eo)▸.inr (.inl ⟨hc,rfl,#[],ps,rfl,by rw[h.1,Array.empty_append]⟩)
 have m9:gM∈S.tabs:=by rw[L.tabs];exact .head _
 have Y8:eL∈S.tabs:=by rw[L.tabs];exact .tail _ (.head _)
 have ZA:s.heap.get? 72=some (tabObj #[]):=by rw[hb];exact L.t1
 have ZB:s.heap.get? 89=some (tabObj #[]):=by rw[hb];exact L.t2
 have Zs:isCodeTable s.heap 72:=⟨76,_,oz S.w 76,by rw[hb];exact L.at (Kj S.w).abD,rfl,rfl,kR⟩;have Zt:isCodeTable s.heap 89:=⟨93,_,oz S.w 93,by rw[hb];exact L.at (GN S.w).abD,rfl,rfl,kR⟩;exact⟨acp L (tab gM m9 ZA Zs) (tab eL Y8 ZB Zt) λb n o e=>.inl (k b o n e),acp L (λ_ _=>(hI _ m9).elim λps h=>⟨_,h.1⟩) (λ_ _=>(hI _ Y8).elim λps h=>⟨_,h.1⟩) λb n o e=>⟨o,k b o n e⟩⟩
def xJ{w:World}{Ut:ExcName→Option Value}{cl:Str→Option Addr}{args:List WData}{s s':Shared}(hp:PySem.Challenge.rw_oy0417_01.row.toRowW.claim.post args (.bool true) args=true)(k:OldK s.heap s'.heap)(ho:s'.os=s.os)(hg:s'.gens=#[]):
  GoodWG PySem.Challenge.rw_oy0417_01.row.toRowW.claim cl Ut args s (.ok (.ret (.bool true))) s':=
 ⟨.inl ⟨_,.bool true,[],rfl,λcls=>rfl,.bool true,hp,λ_=>⟨List.nodup_nil,λa h=>nomatch h⟩⟩,k,ho,.of_eq hg⟩
def yn{args:List WData}:PySem.Challenge.rw_oy0417_01.row.toRowW.claim.post args (.bool true) args=true:=by
 show(true&&WTm.holds [] (.lit (.bool (W.same (.bool true) (.bool true)))) {args:=args,res:=some (.bool true),after:=args})=true;rw[show W.same (WData.bool true) (WData.bool true)=true by decide +kernel];rfl
def FM{w:World}{O5:Shared}{h:Heap}{mg mb:Str→Option Value}{R:WRecords}{XP:(Str→Option Value)→Heap→Prop}(G:Ground q loose R XP w O5 mg mb h)(hK:(KX w).In h)(ht:∀P∈[89,72],h.get? P=some (tabObj #[])):
  Laid ⟨PySem.Challenge.pw_oy0417_01,w,h,[gM,eL]⟩∧∀n,mg n=nsFind (nC w) n:=by
 have hT:=G.T;have Q8:∀n,mg n=nsFind (nC w) n:=El hT.g ⟨_,nC w,Mu w,hK _ _ (rO w),rfl,v0 w,λ_=>rfl⟩;exact⟨{
  prog:=rfl
  tabs:=rfl
  K:=hK
  t1:=ht 72 (.tail _ (.head _))
  t2:=ht 89 (.head _)
  b:=⟨mb,hT.b,hT.builtins⟩
  nolimit:=hT.nolimit
  bm:=hT.bmain.imp λbm h=>h.imp λob h=>⟨(Q8 _).symm.trans h.1,h.2⟩},Q8⟩
def IM{w:World}:nsFind (nC w) ("law":Str)=some (.ref 361):=kR
def Bd{vs:List Value}(e:some (tabObj #[])=some (cE vs 0)):False:=by cases e
def Cq{w:World}{s:Shared}{QD:List Value}{args:List WData}{cl:Str→Option Addr}{Ut:ExcName→Option Value}{E:Value→Shared→Prop}{P:Params}(L:Laid ⟨PySem.Challenge.pw_oy0417_01,w,s.heap,[gM,eL]⟩)(hg:s.gens=#[])(hw:WellAll P s.heap QD args)(hp:WShape.hasAll [] args [.list .int]=true∧PySem.Challenge.rw_oy0417_01.row.toRowW.pre.holds [] {args:=args}=true):
  wpAny (model PySem.Challenge.pw_oy0417_01 w) callerA (call (.ref 361) QD) (λv s'=>GoodWG PySem.Challenge.rw_oy0417_01.row.toRowW.claim cl Ut args s (.ok (.ret v)) s') E s:=by
 obtain⟨d,r,rfl,RP,hr⟩:=hasAllW_cons hp.1;obtain rfl:=hasAllW_nil hr;obtain⟨xs,rfl,hit⟩:=hasW_list RP;obtain⟨sc,rfl⟩:=Bn hit;obtain⟨v,r,rfl,h1,h2⟩:=wellAll_cons_inv hw;cases h2;obtain⟨b,vs,rfl,Vr,hr⟩:=wi h1;have nT:¬(⟨PySem.Challenge.pw_oy0417_01,w,s.heap,[gM,eL]⟩:Cx).T b:=
  acp L (M:=λb=>s.heap.get? b=some (cE vs 0)→¬(⟨PySem.Challenge.pw_oy0417_01,w,s.heap,[gM,eL]⟩:Cx).T b) (λe=>(Bd (L.t1.symm.trans e)).elim) (λe=>(Bd (L.t2.symm.trans e)).elim) (λ_ n _=>n) b Vr
 exact AT (S:=⟨PySem.Challenge.pw_oy0417_01,w,s.heap,[gM,eL]⟩) (Lk w) (DH w) L rfl (Ex hp.2) (v:=.ref b) ⟨b,vs,0,rfl,nT,Vr,Au hr⟩ λs' g' P3 hk hI=>P3.elim λh e=>e.elim λtk e=>by
  have k:=KI L rfl hk hI;subst e;exact xJ (w:=w) yn k rfl hg
end Internal
end
end
theorem PySem.Challenge.cw_oy0417_01_holds : PySem.Challenge.rw_oy0417_01.Holds := by
 refine Internal.hd λw O5 OP mg mb G Y a o pm cd doc dV kV ho Sh V6 hdf Z' Vq args QD as Pj Z7 Tu VJ Z8=>?_;have L:=Internal.FM G (PySem.W.km_in_of Y) (PySem.W.km_tabs_of Y);have e:mg ("law":PySem.Str)=some (.ref a):=Z';have ea:361=a:=PySem.Value.ref.inj (Option.some.inj (Internal.IM.symm.trans ((L.2 _).symm.trans e)));exact ea▸Internal.Cq L.1 Vq VJ (PySem.W.pre_splitW Pj)
