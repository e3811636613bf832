import PyProof.Rows.All
import Wide.All
import OpenK.AllK
import Wide.FinOn
import KE.KLam
import KE.KPairTest
import PyProof.ZipIter
import KE.KSortTup
import PyProof.ToksMono
import Lean
import PySem.Challenge.RW_uk0019_01
open PySem PySem.W PyProof.Rows
set_option Elab.async false
set_option maxRecDepth 100000
set_option maxHeartbeats 4000000
set_option linter.all false
set_option bootstrap.genMatcherCode false
namespace Mine.Internal
@[elab_as_elim] theorem gen{α:Sort _}{P:α→Prop}(e:α)(k:∀x,P x):P e:=k e
@[elab_as_elim] theorem genh{α:Sort _}{P:α→Prop}(e:α)(k:∀x,e=x→P x):P e:=k e rfl
theorem nn{α:Type _}{x:α}{G:Prop}(h:none=some x):G:=nomatch h
theorem oi1{α:Type _}{a b:α}{G:Prop}(q:some a=some b)(k:b=a→G):G:=k (Option.some.inj q).symm
theorem oi2{α:Type _}{β:Type _}{a c:α}{b d:β}{G:Prop}(q:some (a,b)=some (c,d))(k:c=a→d=b→G):G:=oi1 q fun h=>k (congrArg Prod.fst h) (congrArg Prod.snd h)
theorem oi3{α:Type _}{β:Type _}{γ:Type _}{a c:α}{b d:β}{e f:γ}{G:Prop}(q:some (a,b,e)=some (c,d,f))(k:c=a→d=b→f=e→G):G:=oi2 q fun h1 h2=>k h1 (congrArg Prod.fst h2) (congrArg Prod.snd h2)
theorem len0{α:Type _}{P:List α→Prop}{l:List α}(h:l.length=0)(k:P []):P l:=by
 cases l with
 | nil=>exact k
 | cons a r=>exact Nat.noConfusion h
theorem lenS{α:Type _}{P:List α→Prop}{l:List α}{n:Nat}(h:l.length=n+1)(k:∀a r,r.length=n→P (a::r)):P l:=by
 cases l with
 | nil=>exact Nat.noConfusion h
 | cons a r=>exact k a r (Nat.succ.inj h)
theorem ZoG{α:Type _}{P:List α→Prop}{l:List α}(h:l.length=1)(k:∀a0,P [a0]):P l:=lenS h fun a r hr=>len0 (P:=fun r=>P (a::r)) hr (k a)
theorem len2{α:Type _}{P:List α→Prop}{l:List α}(h:l.length=2)(k:∀a0 a1,P [a0,a1]):P l:=lenS h fun a r hr=>ZoG (P:=fun r=>P (a::r)) hr (k a)
theorem len3{α:Type _}{P:List α→Prop}{l:List α}(h:l.length=3)(k:∀a0 a1 a2,P [a0,a1,a2]):P l:=lenS h fun a r hr=>len2 (P:=fun r=>P (a::r)) hr (k a)
theorem len4{α:Type _}{P:List α→Prop}{l:List α}(h:l.length=4)(k:∀a0 a1 a2 a3,P [a0,a1,a2,a3]):P l:=lenS h fun a r hr=>len3 (P:=fun r=>P (a::r)) hr (k a)
theorem len5{α:Type _}{P:List α→Prop}{l:List α}(h:l.length=5)(k:∀a0 a1 a2 a3 a4,P [a0,a1,a2,a3,a4]):P l:=lenS h fun a r hr=>len4 (P:=fun r=>P (a::r)) hr (k a)
theorem len6{α:Type _}{P:List α→Prop}{l:List α}(h:l.length=6)(k:∀a0 a1 a2 a3 a4 a5,P [a0,a1,a2,a3,a4,a5]):P l:=lenS h fun a r hr=>len5 (P:=fun r=>P (a::r)) hr (k a)
theorem len7{α:Type _}{P:List α→Prop}{l:List α}(h:l.length=7)(k:∀a0 a1 a2 a3 a4 a5 a6,P [a0,a1,a2,a3,a4,a5,a6]):P l:=lenS h fun a r hr=>len6 (P:=fun r=>P (a::r)) hr (k a)
theorem len8{α:Type _}{P:List α→Prop}{l:List α}(h:l.length=8)(k:∀a0 a1 a2 a3 a4 a5 a6 a7,P [a0,a1,a2,a3,a4,a5,a6,a7]):P l:=lenS h fun a r hr=>len7 (P:=fun r=>P (a::r)) hr (k a)
theorem len9{α:Type _}{P:List α→Prop}{l:List α}(h:l.length=9)(k:∀a0 a1 a2 a3 a4 a5 a6 a7 a8,P [a0,a1,a2,a3,a4,a5,a6,a7,a8]):P l:=lenS h fun a r hr=>len8 (P:=fun r=>P (a::r)) hr (k a)
theorem lt0{P:Nat→Prop}{i:Nat}(h:i < 0):P i:=absurd h (Nat.not_lt_zero i)
theorem ltS{P:Nat→Prop}{n i:Nat}(h:i < n+1)(a:P n)(k:i < n→P i):P i:=(Nat.lt_succ_iff_lt_or_eq.mp h).elim k fun e=>e▸a
theorem lt1{P:Nat→Prop}{i:Nat}(h:i < 1)(p0:P 0):P i:=ltS h p0 fun h=>lt0 h 
theorem lt2{P:Nat→Prop}{i:Nat}(h:i < 2)(p0:P 0)(p1:P 1):P i:=ltS h p1 fun h=>lt1 h p0
theorem lt3{P:Nat→Prop}{i:Nat}(h:i < 3)(p0:P 0)(p1:P 1)(p2:P 2):P i:=ltS h p2 fun h=>lt2 h p0 p1
theorem lt4{P:Nat→Prop}{i:Nat}(h:i < 4)(p0:P 0)(p1:P 1)(p2:P 2)(p3:P 3):P i:=ltS h p3 fun h=>lt3 h p0 p1 p2
theorem lt5{P:Nat→Prop}{i:Nat}(h:i < 5)(p0:P 0)(p1:P 1)(p2:P 2)(p3:P 3)(p4:P 4):P i:=ltS h p4 fun h=>lt4 h p0 p1 p2 p3
theorem lt6{P:Nat→Prop}{i:Nat}(h:i < 6)(p0:P 0)(p1:P 1)(p2:P 2)(p3:P 3)(p4:P 4)(p5:P 5):P i:=ltS h p5 fun h=>lt5 h p0 p1 p2 p3 p4
theorem lt7{P:Nat→Prop}{i:Nat}(h:i < 7)(p0:P 0)(p1:P 1)(p2:P 2)(p3:P 3)(p4:P 4)(p5:P 5)(p6:P 6):P i:=ltS h p6 fun h=>lt6 h p0 p1 p2 p3 p4 p5
theorem lt8{P:Nat→Prop}{i:Nat}(h:i < 8)(p0:P 0)(p1:P 1)(p2:P 2)(p3:P 3)(p4:P 4)(p5:P 5)(p6:P 6)(p7:P 7):P i:=ltS h p7 fun h=>lt7 h p0 p1 p2 p3 p4 p5 p6
theorem lt9{P:Nat→Prop}{i:Nat}(h:i < 9)(p0:P 0)(p1:P 1)(p2:P 2)(p3:P 3)(p4:P 4)(p5:P 5)(p6:P 6)(p7:P 7)(p8:P 8):P i:=ltS h p8 fun h=>lt8 h p0 p1 p2 p3 p4 p5 p6 p7
theorem le1{α:Type _}{l:List α}(h:l.length=1):∃a0,l=[a0]:=by apply ZoG h;intro a0;exact ⟨a0,rfl⟩
theorem le3{α:Type _}{l:List α}(h:l.length=3):∃a0 a1 a2,l=[a0,a1,a2]:=by apply len3 h;intro a0 a1 a2;exact ⟨a0,a1,a2,rfl⟩
theorem le5{α:Type _}{l:List α}(h:l.length=5):∃a0 a1 a2 a3 a4,l=[a0,a1,a2,a3,a4]:=by apply len5 h;intro a0 a1 a2 a3 a4;exact ⟨a0,a1,a2,a3,a4,rfl⟩
theorem le9{α:Type _}{l:List α}(h:l.length=9):∃a0 a1 a2 a3 a4 a5 a6 a7 a8,l=[a0,a1,a2,a3,a4,a5,a6,a7,a8]:=by apply len9 h;intro a0 a1 a2 a3 a4 a5 a6 a7 a8;exact ⟨a0,a1,a2,a3,a4,a5,a6,a7,a8,rfl⟩
theorem cp{P:Prop}(f:∀G:Prop,(P→G)→G):P:=f P id
section
variable {α:Sort _} {β:Sort _} {γ:Sort _} {δ:Sort _} {ε:Sort _} {ζ:Sort _} {η:Sort _} {θ:Sort _} {ι:Sort _} {κ:Sort _} {G:Prop}
theorem lms{α:Type _}{a b:α}(h:a∈[b]):a=b:=List.mem_singleton.mp h
theorem lmc{α:Type _}{a b:α}{l:List α}(h:a∈b::l):a=b∨a∈l:=List.mem_cons.mp h
theorem lae{α:Type _}{p:α→Bool}{l:List α}(h:l.all p=true):∀x∈l,p x=true:=List.all_eq_true.mp h
theorem lge{α:Type _}{l:List α}{i:Nat}{a:α}(h:l[i]?=some a):∃h:i < l.length,l[i]=a:=List.getElem?_eq_some_iff.mp h
theorem Qe{A B:Prop}(e:A∧B)(k:A→B→G):G:=k e.1 e.2
theorem ZjW{A B C:Prop}(e:A∧B∧C)(k:A→B→C→G):G:=k e.1 e.2.1 e.2.2
theorem x0_4{A B C D:Prop}(e:A∧B∧C∧D)(k:A→B→C→D→G):G:=k e.1 e.2.1 e.2.2.1 e.2.2.2
theorem x0_5{A B C D F:Prop}(e:A∧B∧C∧D∧F)(k:A→B→C→D→F→G):G:=k e.1 e.2.1 e.2.2.1 e.2.2.2.1 e.2.2.2.2
theorem x0_6{A B C D F H:Prop}(e:A∧B∧C∧D∧F∧H)(k:A→B→C→D→F→H→G):G:=k e.1 e.2.1 e.2.2.1 e.2.2.2.1 e.2.2.2.2.1 e.2.2.2.2.2
theorem x0_7{A B C D F H I:Prop}(e:A∧B∧C∧D∧F∧H∧I)(k:A→B→C→D→F→H→I→G):G:=k e.1 e.2.1 e.2.2.1 e.2.2.2.1 e.2.2.2.2.1 e.2.2.2.2.2.1 e.2.2.2.2.2.2
theorem x0_9{A B C D F H I J K:Prop}(e:A∧B∧C∧D∧F∧H∧I∧J∧K)(k:A→B→C→D→F→H→I→J→K→G):G:=k e.1 e.2.1 e.2.2.1 e.2.2.2.1 e.2.2.2.2.1 e.2.2.2.2.2.1 e.2.2.2.2.2.2.1 e.2.2.2.2.2.2.2.1 e.2.2.2.2.2.2.2.2
theorem ZW{A:α→Prop}(e:∃a,A a)(k:∀a,A a→G):G:=Exists.elim e fun a h=>k a h
theorem ZJ{A B:α→Prop}(e:∃a,A a∧B a)(k:∀a,A a→B a→G):G:=Exists.elim e fun a h=>k a h.1 h.2
theorem ZgO{A B C:α→Prop}(e:∃a,A a∧B a∧C a)(k:∀a,A a→B a→C a→G):G:=Exists.elim e fun a h=>k a h.1 h.2.1 h.2.2
theorem Zgv{A B C D:α→Prop}(e:∃a,A a∧B a∧C a∧D a)(k:∀a,A a→B a→C a→D a→G):G:=Exists.elim e fun a h=>k a h.1 h.2.1 h.2.2.1 h.2.2.2
theorem x1_5{A B C D F:α→Prop}(e:∃a,A a∧B a∧C a∧D a∧F a)(k:∀a,A a→B a→C a→D a→F a→G):G:=Exists.elim e fun a h=>k a h.1 h.2.1 h.2.2.1 h.2.2.2.1 h.2.2.2.2
theorem x2_1{A:α→β→Prop}(e:∃a b,A a b)(k:∀a b,A a b→G):G:=Exists.elim e fun a h=>Exists.elim h fun b h=>k a b h
theorem ZeF{A B:α→β→Prop}(e:∃a b,A a b∧B a b)(k:∀a b,A a b→B a b→G):G:=Exists.elim e fun a h=>Exists.elim h fun b h=>k a b h.1 h.2
theorem ZiK{A B C:α→β→Prop}(e:∃a b,A a b∧B a b∧C a b)(k:∀a b,A a b→B a b→C a b→G):G:=Exists.elim e fun a h=>Exists.elim h fun b h=>k a b h.1 h.2.1 h.2.2
theorem Qs{A B C D:α→β→Prop}(e:∃a b,A a b∧B a b∧C a b∧D a b)(k:∀a b,A a b→B a b→C a b→D a b→G):G:=Exists.elim e fun a h=>Exists.elim h fun b h=>k a b h.1 h.2.1 h.2.2.1 h.2.2.2
theorem x2_5{A B C D F:α→β→Prop}(e:∃a b,A a b∧B a b∧C a b∧D a b∧F a b)(k:∀a b,A a b→B a b→C a b→D a b→F a b→G):G:=Exists.elim e fun a h=>Exists.elim h fun b h=>k a b h.1 h.2.1 h.2.2.1 h.2.2.2.1 h.2.2.2.2
theorem x2_6{A B C D F H:α→β→Prop}(e:∃a b,A a b∧B a b∧C a b∧D a b∧F a b∧H a b)(k:∀a b,A a b→B a b→C a b→D a b→F a b→H a b→G):G:=Exists.elim e fun a h=>Exists.elim h fun b h=>k a b h.1 h.2.1 h.2.2.1 h.2.2.2.1 h.2.2.2.2.1 h.2.2.2.2.2
theorem x2_7{A B C D F H I:α→β→Prop}(e:∃a b,A a b∧B a b∧C a b∧D a b∧F a b∧H a b∧I a b)(k:∀a b,A a b→B a b→C a b→D a b→F a b→H a b→I a b→G):G:=Exists.elim e fun a h=>Exists.elim h fun b h=>k a b h.1 h.2.1 h.2.2.1 h.2.2.2.1 h.2.2.2.2.1 h.2.2.2.2.2.1 h.2.2.2.2.2.2
theorem x2_8{A B C D F H I J:α→β→Prop}(e:∃a b,A a b∧B a b∧C a b∧D a b∧F a b∧H a b∧I a b∧J a b)(k:∀a b,A a b→B a b→C a b→D a b→F a b→H a b→I a b→J a b→G):G:=Exists.elim e fun a h=>Exists.elim h fun b h=>k a b h.1 h.2.1 h.2.2.1 h.2.2.2.1 h.2.2.2.2.1 h.2.2.2.2.2.1 h.2.2.2.2.2.2.1 h.2.2.2.2.2.2.2
theorem x2_10{A B C D F H I J K L:α→β→Prop}(e:∃a b,A a b∧B a b∧C a b∧D a b∧F a b∧H a b∧I a b∧J a b∧K a b∧L a b)(k:∀a b,A a b→B a b→C a b→D a b→F a b→H a b→I a b→J a b→K a b→L a b→G):G:=Exists.elim e fun a h=>Exists.elim h fun b h=>k a b h.1 h.2.1 h.2.2.1 h.2.2.2.1 h.2.2.2.2.1 h.2.2.2.2.2.1 h.2.2.2.2.2.2.1 h.2.2.2.2.2.2.2.1 h.2.2.2.2.2.2.2.2.1 h.2.2.2.2.2.2.2.2.2
theorem x3_1{A:α→β→γ→Prop}(e:∃a b c,A a b c)(k:∀a b c,A a b c→G):G:=Exists.elim e fun a h=>Exists.elim h fun b h=>Exists.elim h fun c h=>k a b c h
theorem x3_2{A B:α→β→γ→Prop}(e:∃a b c,A a b c∧B a b c)(k:∀a b c,A a b c→B a b c→G):G:=Exists.elim e fun a h=>Exists.elim h fun b h=>Exists.elim h fun c h=>k a b c h.1 h.2
theorem x3_3{A B C:α→β→γ→Prop}(e:∃a b c,A a b c∧B a b c∧C a b c)(k:∀a b c,A a b c→B a b c→C a b c→G):G:=Exists.elim e fun a h=>Exists.elim h fun b h=>Exists.elim h fun c h=>k a b c h.1 h.2.1 h.2.2
theorem x3_4{A B C D:α→β→γ→Prop}(e:∃a b c,A a b c∧B a b c∧C a b c∧D a b c)(k:∀a b c,A a b c→B a b c→C a b c→D a b c→G):G:=Exists.elim e fun a h=>Exists.elim h fun b h=>Exists.elim h fun c h=>k a b c h.1 h.2.1 h.2.2.1 h.2.2.2
theorem x3_6{A B C D F H:α→β→γ→Prop}(e:∃a b c,A a b c∧B a b c∧C a b c∧D a b c∧F a b c∧H a b c)(k:∀a b c,A a b c→B a b c→C a b c→D a b c→F a b c→H a b c→G):G:=Exists.elim e fun a h=>Exists.elim h fun b h=>Exists.elim h fun c h=>k a b c h.1 h.2.1 h.2.2.1 h.2.2.2.1 h.2.2.2.2.1 h.2.2.2.2.2
theorem x4_1{A:α→β→γ→δ→Prop}(e:∃a b c d,A a b c d)(k:∀a b c d,A a b c d→G):G:=Exists.elim e fun a h=>Exists.elim h fun b h=>Exists.elim h fun c h=>Exists.elim h fun d h=>k a b c d h
theorem x4_2{A B:α→β→γ→δ→Prop}(e:∃a b c d,A a b c d∧B a b c d)(k:∀a b c d,A a b c d→B a b c d→G):G:=Exists.elim e fun a h=>Exists.elim h fun b h=>Exists.elim h fun c h=>Exists.elim h fun d h=>k a b c d h.1 h.2
theorem x4_3{A B C:α→β→γ→δ→Prop}(e:∃a b c d,A a b c d∧B a b c d∧C a b c d)(k:∀a b c d,A a b c d→B a b c d→C a b c d→G):G:=Exists.elim e fun a h=>Exists.elim h fun b h=>Exists.elim h fun c h=>Exists.elim h fun d h=>k a b c d h.1 h.2.1 h.2.2
theorem x4_6{A B C D F H:α→β→γ→δ→Prop}(e:∃a b c d,A a b c d∧B a b c d∧C a b c d∧D a b c d∧F a b c d∧H a b c d)(k:∀a b c d,A a b c d→B a b c d→C a b c d→D a b c d→F a b c d→H a b c d→G):G:=Exists.elim e fun a h=>Exists.elim h fun b h=>Exists.elim h fun c h=>Exists.elim h fun d h=>k a b c d h.1 h.2.1 h.2.2.1 h.2.2.2.1 h.2.2.2.2.1 h.2.2.2.2.2
theorem x5_1{A:α→β→γ→δ→ε→Prop}(e:∃a b c d f,A a b c d f)(k:∀a b c d f,A a b c d f→G):G:=Exists.elim e fun a h=>Exists.elim h fun b h=>Exists.elim h fun c h=>Exists.elim h fun d h=>Exists.elim h fun f h=>k a b c d f h
theorem x5_5{A B C D F:α→β→γ→δ→ε→Prop}(e:∃a b c d f,A a b c d f∧B a b c d f∧C a b c d f∧D a b c d f∧F a b c d f)(k:∀a b c d f,A a b c d f→B a b c d f→C a b c d f→D a b c d f→F a b c d f→G):G:=Exists.elim e fun a h=>Exists.elim h fun b h=>Exists.elim h fun c h=>Exists.elim h fun d h=>Exists.elim h fun f h=>k a b c d f h.1 h.2.1 h.2.2.1 h.2.2.2.1 h.2.2.2.2
theorem x6_1{A:α→β→γ→δ→ε→ζ→Prop}(e:∃a b c d f m,A a b c d f m)(k:∀a b c d f m,A a b c d f m→G):G:=Exists.elim e fun a h=>Exists.elim h fun b h=>Exists.elim h fun c h=>Exists.elim h fun d h=>Exists.elim h fun f h=>Exists.elim h fun m h=>k a b c d f m h
theorem x9_1{A:α→β→γ→δ→ε→ζ→η→θ→ι→Prop}(e:∃a b c d f m n o s,A a b c d f m n o s)(k:∀a b c d f m n o s,A a b c d f m n o s→G):G:=Exists.elim e fun a h=>Exists.elim h fun b h=>Exists.elim h fun c h=>Exists.elim h fun d h=>Exists.elim h fun f h=>Exists.elim h fun m h=>Exists.elim h fun n h=>Exists.elim h fun o h=>Exists.elim h fun s h=>k a b c d f m n o s h
end
section
variable {α:Sort _} {β:Sort _} {γ:Sort _} {δ:Sort _} {ε:Sort _} {ζ:Sort _} {η:Sort _} {θ:Sort _} {ι:Sort _} {κ:Sort _} {G:Prop}
theorem ZnZ{A B C:Prop}(h0:A)(h1:B)(h2:C):A∧B∧C:=⟨h0,h1,h2⟩
theorem p0_4{A B C D:Prop}(h0:A)(h1:B)(h2:C)(h3:D):A∧B∧C∧D:=⟨h0,h1,h2,h3⟩
theorem Qd{A B:α→Prop}(a:α)(h0:A a)(h1:B a):∃a,A a∧B a:=⟨a,h0,h1⟩
theorem ZnY{A B C:α→Prop}(a:α)(h0:A a)(h1:B a)(h2:C a):∃a,A a∧B a∧C a:=⟨a,h0,h1,h2⟩
theorem p1_4{A B C D:α→Prop}(a:α)(h0:A a)(h1:B a)(h2:C a)(h3:D a):∃a,A a∧B a∧C a∧D a:=⟨a,h0,h1,h2,h3⟩
theorem p1_5{A B C D F:α→Prop}(a:α)(h0:A a)(h1:B a)(h2:C a)(h3:D a)(h4:F a):∃a,A a∧B a∧C a∧D a∧F a:=⟨a,h0,h1,h2,h3,h4⟩
theorem p2_1{A:α→β→Prop}(a:α)(b:β)(h0:A a b):∃a b,A a b:=⟨a,b,h0⟩
theorem ZeN{A B:α→β→Prop}(a:α)(b:β)(h0:A a b)(h1:B a b):∃a b,A a b∧B a b:=⟨a,b,h0,h1⟩
theorem p2_3{A B C:α→β→Prop}(a:α)(b:β)(h0:A a b)(h1:B a b)(h2:C a b):∃a b,A a b∧B a b∧C a b:=⟨a,b,h0,h1,h2⟩
theorem p2_4{A B C D:α→β→Prop}(a:α)(b:β)(h0:A a b)(h1:B a b)(h2:C a b)(h3:D a b):∃a b,A a b∧B a b∧C a b∧D a b:=⟨a,b,h0,h1,h2,h3⟩
theorem p2_5{A B C D F:α→β→Prop}(a:α)(b:β)(h0:A a b)(h1:B a b)(h2:C a b)(h3:D a b)(h4:F a b):∃a b,A a b∧B a b∧C a b∧D a b∧F a b:=⟨a,b,h0,h1,h2,h3,h4⟩
theorem p2_6{A B C D F H:α→β→Prop}(a:α)(b:β)(h0:A a b)(h1:B a b)(h2:C a b)(h3:D a b)(h4:F a b)(h5:H a b):∃a b,A a b∧B a b∧C a b∧D a b∧F a b∧H a b:=⟨a,b,h0,h1,h2,h3,h4,h5⟩
theorem p2_7{A B C D F H I:α→β→Prop}(a:α)(b:β)(h0:A a b)(h1:B a b)(h2:C a b)(h3:D a b)(h4:F a b)(h5:H a b)(h6:I a b):∃a b,A a b∧B a b∧C a b∧D a b∧F a b∧H a b∧I a b:=⟨a,b,h0,h1,h2,h3,h4,h5,h6⟩
theorem p2_8{A B C D F H I J:α→β→Prop}(a:α)(b:β)(h0:A a b)(h1:B a b)(h2:C a b)(h3:D a b)(h4:F a b)(h5:H a b)(h6:I a b)(h7:J a b):∃a b,A a b∧B a b∧C a b∧D a b∧F a b∧H a b∧I a b∧J a b:=⟨a,b,h0,h1,h2,h3,h4,h5,h6,h7⟩
theorem p3_2{A B:α→β→γ→Prop}(a:α)(b:β)(c:γ)(h0:A a b c)(h1:B a b c):∃a b c,A a b c∧B a b c:=⟨a,b,c,h0,h1⟩
theorem p3_3{A B C:α→β→γ→Prop}(a:α)(b:β)(c:γ)(h0:A a b c)(h1:B a b c)(h2:C a b c):∃a b c,A a b c∧B a b c∧C a b c:=⟨a,b,c,h0,h1,h2⟩
theorem p3_4{A B C D:α→β→γ→Prop}(a:α)(b:β)(c:γ)(h0:A a b c)(h1:B a b c)(h2:C a b c)(h3:D a b c):∃a b c,A a b c∧B a b c∧C a b c∧D a b c:=⟨a,b,c,h0,h1,h2,h3⟩
theorem p3_6{A B C D F H:α→β→γ→Prop}(a:α)(b:β)(c:γ)(h0:A a b c)(h1:B a b c)(h2:C a b c)(h3:D a b c)(h4:F a b c)(h5:H a b c):∃a b c,A a b c∧B a b c∧C a b c∧D a b c∧F a b c∧H a b c:=⟨a,b,c,h0,h1,h2,h3,h4,h5⟩
theorem p4_1{A:α→β→γ→δ→Prop}(a:α)(b:β)(c:γ)(d:δ)(h0:A a b c d):∃a b c d,A a b c d:=⟨a,b,c,d,h0⟩
theorem p4_2{A B:α→β→γ→δ→Prop}(a:α)(b:β)(c:γ)(d:δ)(h0:A a b c d)(h1:B a b c d):∃a b c d,A a b c d∧B a b c d:=⟨a,b,c,d,h0,h1⟩
theorem p4_3{A B C:α→β→γ→δ→Prop}(a:α)(b:β)(c:γ)(d:δ)(h0:A a b c d)(h1:B a b c d)(h2:C a b c d):∃a b c d,A a b c d∧B a b c d∧C a b c d:=⟨a,b,c,d,h0,h1,h2⟩
theorem p4_4{A B C D:α→β→γ→δ→Prop}(a:α)(b:β)(c:γ)(d:δ)(h0:A a b c d)(h1:B a b c d)(h2:C a b c d)(h3:D a b c d):∃a b c d,A a b c d∧B a b c d∧C a b c d∧D a b c d:=⟨a,b,c,d,h0,h1,h2,h3⟩
theorem p4_5{A B C D F:α→β→γ→δ→Prop}(a:α)(b:β)(c:γ)(d:δ)(h0:A a b c d)(h1:B a b c d)(h2:C a b c d)(h3:D a b c d)(h4:F a b c d):∃a b c d,A a b c d∧B a b c d∧C a b c d∧D a b c d∧F a b c d:=⟨a,b,c,d,h0,h1,h2,h3,h4⟩
theorem p4_6{A B C D F H:α→β→γ→δ→Prop}(a:α)(b:β)(c:γ)(d:δ)(h0:A a b c d)(h1:B a b c d)(h2:C a b c d)(h3:D a b c d)(h4:F a b c d)(h5:H a b c d):∃a b c d,A a b c d∧B a b c d∧C a b c d∧D a b c d∧F a b c d∧H a b c d:=⟨a,b,c,d,h0,h1,h2,h3,h4,h5⟩
theorem p4_7{A B C D F H I:α→β→γ→δ→Prop}(a:α)(b:β)(c:γ)(d:δ)(h0:A a b c d)(h1:B a b c d)(h2:C a b c d)(h3:D a b c d)(h4:F a b c d)(h5:H a b c d)(h6:I a b c d):∃a b c d,A a b c d∧B a b c d∧C a b c d∧D a b c d∧F a b c d∧H a b c d∧I a b c d:=⟨a,b,c,d,h0,h1,h2,h3,h4,h5,h6⟩
theorem p5_4{A B C D:α→β→γ→δ→ε→Prop}(a:α)(b:β)(c:γ)(d:δ)(f:ε)(h0:A a b c d f)(h1:B a b c d f)(h2:C a b c d f)(h3:D a b c d f):∃a b c d f,A a b c d f∧B a b c d f∧C a b c d f∧D a b c d f:=⟨a,b,c,d,f,h0,h1,h2,h3⟩
theorem p5_6{A B C D F H:α→β→γ→δ→ε→Prop}(a:α)(b:β)(c:γ)(d:δ)(f:ε)(h0:A a b c d f)(h1:B a b c d f)(h2:C a b c d f)(h3:D a b c d f)(h4:F a b c d f)(h5:H a b c d f):∃a b c d f,A a b c d f∧B a b c d f∧C a b c d f∧D a b c d f∧F a b c d f∧H a b c d f:=⟨a,b,c,d,f,h0,h1,h2,h3,h4,h5⟩
theorem p5_11{A B C D F H I J K L M:α→β→γ→δ→ε→Prop}(a:α)(b:β)(c:γ)(d:δ)(f:ε)(h0:A a b c d f)(h1:B a b c d f)(h2:C a b c d f)(h3:D a b c d f)(h4:F a b c d f)(h5:H a b c d f)(h6:I a b c d f)(h7:J a b c d f)(h8:K a b c d f)(h9:L a b c d f)(h10:M a b c d f):∃a b c d f,A a b c d f∧B a b c d f∧C a b c d f∧D a b c d f∧F a b c d f∧H a b c d f∧I a b c d f∧J a b c d f∧K a b c d f∧L a b c d f∧M a b c d f:=⟨a,b,c,d,f,h0,h1,h2,h3,h4,h5,h6,h7,h8,h9,h10⟩
theorem p6_6{A B C D F H:α→β→γ→δ→ε→ζ→Prop}(a:α)(b:β)(c:γ)(d:δ)(f:ε)(m:ζ)(h0:A a b c d f m)(h1:B a b c d f m)(h2:C a b c d f m)(h3:D a b c d f m)(h4:F a b c d f m)(h5:H a b c d f m):∃a b c d f m,A a b c d f m∧B a b c d f m∧C a b c d f m∧D a b c d f m∧F a b c d f m∧H a b c d f m:=⟨a,b,c,d,f,m,h0,h1,h2,h3,h4,h5⟩
theorem p6_7{A B C D F H I:α→β→γ→δ→ε→ζ→Prop}(a:α)(b:β)(c:γ)(d:δ)(f:ε)(m:ζ)(h0:A a b c d f m)(h1:B a b c d f m)(h2:C a b c d f m)(h3:D a b c d f m)(h4:F a b c d f m)(h5:H a b c d f m)(h6:I a b c d f m):∃a b c d f m,A a b c d f m∧B a b c d f m∧C a b c d f m∧D a b c d f m∧F a b c d f m∧H a b c d f m∧I a b c d f m:=⟨a,b,c,d,f,m,h0,h1,h2,h3,h4,h5,h6⟩
theorem p6_8{A B C D F H I J:α→β→γ→δ→ε→ζ→Prop}(a:α)(b:β)(c:γ)(d:δ)(f:ε)(m:ζ)(h0:A a b c d f m)(h1:B a b c d f m)(h2:C a b c d f m)(h3:D a b c d f m)(h4:F a b c d f m)(h5:H a b c d f m)(h6:I a b c d f m)(h7:J a b c d f m):∃a b c d f m,A a b c d f m∧B a b c d f m∧C a b c d f m∧D a b c d f m∧F a b c d f m∧H a b c d f m∧I a b c d f m∧J a b c d f m:=⟨a,b,c,d,f,m,h0,h1,h2,h3,h4,h5,h6,h7⟩
theorem x5_4{A B C D:α→β→γ→δ→ε→Prop}(e:∃a b c d f,A a b c d f∧B a b c d f∧C a b c d f∧D a b c d f)(k:∀a b c d f,A a b c d f→B a b c d f→C a b c d f→D a b c d f→G):G:=Exists.elim e fun a h=>Exists.elim h fun b h=>Exists.elim h fun c h=>Exists.elim h fun d h=>Exists.elim h fun f h=>k a b c d f h.1 h.2.1 h.2.2.1 h.2.2.2
theorem x5_6{A B C D F H:α→β→γ→δ→ε→Prop}(e:∃a b c d f,A a b c d f∧B a b c d f∧C a b c d f∧D a b c d f∧F a b c d f∧H a b c d f)(k:∀a b c d f,A a b c d f→B a b c d f→C a b c d f→D a b c d f→F a b c d f→H a b c d f→G):G:=Exists.elim e fun a h=>Exists.elim h fun b h=>Exists.elim h fun c h=>Exists.elim h fun d h=>Exists.elim h fun f h=>k a b c d f h.1 h.2.1 h.2.2.1 h.2.2.2.1 h.2.2.2.2.1 h.2.2.2.2.2
theorem x6_6{A B C D F H:α→β→γ→δ→ε→ζ→Prop}(e:∃a b c d f m,A a b c d f m∧B a b c d f m∧C a b c d f m∧D a b c d f m∧F a b c d f m∧H a b c d f m)(k:∀a b c d f m,A a b c d f m→B a b c d f m→C a b c d f m→D a b c d f m→F a b c d f m→H a b c d f m→G):G:=Exists.elim e fun a h=>Exists.elim h fun b h=>Exists.elim h fun c h=>Exists.elim h fun d h=>Exists.elim h fun f h=>Exists.elim h fun m h=>k a b c d f m h.1 h.2.1 h.2.2.1 h.2.2.2.1 h.2.2.2.2.1 h.2.2.2.2.2
theorem x6_7{A B C D F H I:α→β→γ→δ→ε→ζ→Prop}(e:∃a b c d f m,A a b c d f m∧B a b c d f m∧C a b c d f m∧D a b c d f m∧F a b c d f m∧H a b c d f m∧I a b c d f m)(k:∀a b c d f m,A a b c d f m→B a b c d f m→C a b c d f m→D a b c d f m→F a b c d f m→H a b c d f m→I a b c d f m→G):G:=Exists.elim e fun a h=>Exists.elim h fun b h=>Exists.elim h fun c h=>Exists.elim h fun d h=>Exists.elim h fun f h=>Exists.elim h fun m h=>k a b c d f m h.1 h.2.1 h.2.2.1 h.2.2.2.1 h.2.2.2.2.1 h.2.2.2.2.2.1 h.2.2.2.2.2.2
theorem x6_8{A B C D F H I J:α→β→γ→δ→ε→ζ→Prop}(e:∃a b c d f m,A a b c d f m∧B a b c d f m∧C a b c d f m∧D a b c d f m∧F a b c d f m∧H a b c d f m∧I a b c d f m∧J a b c d f m)(k:∀a b c d f m,A a b c d f m→B a b c d f m→C a b c d f m→D a b c d f m→F a b c d f m→H a b c d f m→I a b c d f m→J a b c d f m→G):G:=Exists.elim e fun a h=>Exists.elim h fun b h=>Exists.elim h fun c h=>Exists.elim h fun d h=>Exists.elim h fun f h=>Exists.elim h fun m h=>k a b c d f m h.1 h.2.1 h.2.2.1 h.2.2.2.1 h.2.2.2.2.1 h.2.2.2.2.2.1 h.2.2.2.2.2.2.1 h.2.2.2.2.2.2.2
end
set_option tactic.hygienic false
section
noncomputable abbrev pE:Program:=PySem.Challenge.pw_uk0019_01
noncomputable def fnp(i:Nat):Arguments×List Stmt×Scope:=match pE.main.body[i]? with
 | some (.FunctionDef _ a b _ _ _ s _ _ _)=>(a,b,s)
 | _=>default
noncomputable def Zgx:Life:={}
noncomputable def p0:Pos:=⟨0,0,0,0⟩
noncomputable def Qu:Env:={scope:=pE.main.scope,locals:=mainNs,globals:=mainNs,cells:=[],code:=.ref 13,frame:=some 14}
noncomputable def cE:Code:=.body (behindTheImports pE) Qu
noncomputable def B0:List Frame:=[topFrame p0]
noncomputable def Qx:Option Value:=some (.ref 6)
noncomputable abbrev sg(w:World):=segGo treeTable pE w 11 Qx 1
theorem Zol(w:World)(n:Nat)(s:Shared)(t:Thread):sg w (n+1) s t=match endAt 1 t with
 | some _=>none
 | none=>match stepOk 11 Qx t with
  | false=>none
  | true=>match step (denote treeTable) pE w s t with
   | .go s' t'=>sg w n s' t'
   | .halt _ _=>none:=rfl
theorem sg_add(w:World)(k:Nat):∀(n:Nat) (s:Shared) (t:Thread),sg w (n+k) s t=(sg w n s t).bind fun x=>sg w k x.1 x.2:=by
 intro n;induction n with
 | zero=>
  intro s t;rw[Nat.zero_add];rfl
 | succ n ih=>
  intro s t;rw[show n+1+k=(n+k)+1 by lia,Zol,Zol];cases endAt 1 t with
  | some f=>rfl
  | none=>
   cases stepOk 11 Qx t with
   | false=>rfl
   | true=>
    cases step (denote treeTable) pE w s t with
    | halt o s'=>rfl
    | go s' t'=>exact ih s' t'
noncomputable def R(w:World){α:Type}(n:Nat)(s:Shared)(p:Pos)(m:Sem α)(s':Shared)(p':Pos)(a:α):Prop:=
 ∀(K:α→Sem PySem.Fin) (H:Value→Sem PySem.Fin) (gd:Bool→Bool) (lv:List Value→List Value),sg w n s ⟨m.wrap K H gd lv,cE,p,B0⟩=some (s',⟨K a,cE,p',B0⟩)
section
variable {w:World} {α β:Type} {n k:Nat} {s s' s₁ s₂:Shared} {p p' p₁ p₂:Pos} {a:α} {b:β}
theorem ZQ:R w 0 s p (pure a:Sem α) s p a:=fun υ υ υ υ=>rfl
theorem Zu{m:Sem α}{f:α→Sem β}(h:R w n s p m s₁ p₁ a)(h':R w k s₁ p₁ (f a) s₂ p₂ b):R w (n+k) s p (m>>=f) s₂ p₂ b:=fun K H gd lv=>by
 show sg w (n+k) s ⟨(m.bind f).wrap K H gd lv,cE,p,B0⟩=_
 rw[Sem.bind_eq_wrap,Sem.wrap_wrap,sg_add,h];exact h' K H gd lv
theorem R_keep{m:Sem α}{vs:List Value}(h:R w n s p m s' p' a):R w n s p (m.keep vs) s' p' a:=fun K H gd lv=>by
 rw[Sem.keep_eq_wrap,Sem.wrap_wrap];exact h _ _ _ _
theorem Zbp{m:Sem α}{vs:List Value}(h:R w n s p m s' p' a):R w n s p (holding vs m) s' p' a:=by
 unfold holding;split
 · exact h
 · exact R_keep h
theorem ZjQ{m:Sem α}{f:Value→Sem Unit}(h:R w n s p m s' p' a):R w n s p (m.onRaise f) s' p' a:=fun K H gd lv=>by
 rw[Sem.onRaise_eq_wrap,Sem.wrap_wrap];exact h _ _ _ _
theorem R_rule{t:String}:R w 1 s p (rule t) s p ():=fun υ υ υ υ=>rfl
theorem Zdv{q:Pos}:R w 1 s p (standAt q) s q ():=fun υ υ υ υ=>rfl
theorem ZpJ:R w 1 s p fresh {s with toks:=s.toks+1} p s.toks:=fun υ υ υ υ=>rfl
theorem R_ask:R w 1 s p ask s p ⟨pE,w.params⟩:=fun υ υ υ υ=>rfl
theorem ZhC{a:Addr}{q:Option Value}{o:Obj}(h:s.heap.get? a=some o):R w 1 s p (loadPart a q) s p o:=fun K H gd lv=>by
 show (match (match s.heap.get? a with | some o=>Step.go s ⟨_,_,_,_⟩ | none=>_) with | .go s' t'=>sg w 0 s' t' | .halt _ _=>none)=_
 rw[h];rfl
theorem R_update{a:Addr}{q:Option Value}{f:Obj→Obj}{o:Obj}(h:s.heap.get? a=some o)(hb:Nat.ble 11 a=true):R w 1 s p (updatePart a q f) {s with heap:=s.heap.update a f} p ():=fun K H gd lv=>by
 show (match (true&&(Nat.ble 11 a || a==mainNs || a==cStatics || Qx==some (.ref a))) with | false=>none | true=>(match (if (s.heap.get? a).isSome then Step.go _ ⟨_,_,_,_⟩ else _) with | .go s' t'=>sg w 0 s' t' | .halt _ _=>none))=_
 rw[hb,h];rfl
theorem R_alloc{o:Obj}:R w 1 s p (alloc o) {s with heap:=s.heap.push o} p s.heap.objs.size:=fun K H gd lv=>rfl
end
theorem hash_run(w:World){s:Shared}{p:Pos}(i:Int)(t:Tok):R w 4 s p (call (.builtin "int.__hash__") [.int i t]) {s with toks:=s.toks+1} p (.int (rawHash i) s.toks):=fun K H gd lv=>by
 obtain ⟨heap,gens,drawn,toks,os⟩:=s;kernel_rfl!
end
set_option tactic.hygienic true
set_option tactic.hygienic false
section
section
variable {w:World} {α β:Type} {n k:Nat} {s s' s₁ s₂:Shared} {p p' p₁ p₂:Pos} {a:α} {b:β}
theorem Zs{m:Sem α}(h:R w n s p m s' p' a)(e:n=k):R w k s p m s' p' a:=e▸h
theorem ZiP(i:Int)(t:Tok):specialOf (.int i t) "__hash__" = pure (some (.builtin "int.__hash__")):=by kernel_rfl!
theorem Zpx(i:Int)(t:Tok):bindSpecial (.builtin "int.__hash__") (.int i t)=pure (.builtin "int.__hash__", [.int i t]):=by kernel_rfl!
theorem R_hash(i:Int)(t:Tok):R w 5 s p (pyHash (.int i t)) {s with toks:=s.toks+1} p (hashInt i):=by
 have hr:=rawHash_range i;show R w 5 s p (pyHashByItsType (.int i t)) _ _ _
 unfold pyHashByItsType;refine Zs (Zu (n:=0) ZQ ?_) (Nat.zero_add 5);rw[ZiP];refine Zs (Zu (n:=0) ZQ ?_) (Nat.zero_add 5);refine Zs (Zu (n:=0) ZQ ?_) (Nat.zero_add 5);refine Zs (Zu (n:=5) (a:=some (.int (rawHash i) s.toks)) (s₁:={s with toks:=s.toks+1}) (p₁:=p) ?_ ?_) (Nat.add_zero 5)
 · unfold callSpecialIfBoundUnlessNone?;refine Zbp ?_;refine Zs (Zu (n:=1) (k:=4) (a:=some (.builtin "int.__hash__", [.int i t])) (s₁:=s) (p₁:=p) ?_ ?_) rfl
   · unfold bindSpecialIfBound?;rw[ZiP];refine Zs (Zu (n:=0) ZQ ?_) (Nat.zero_add 1);dsimp only;refine Zs (Zu (n:=1) R_ask ?_) (Nat.add_zero 1);rw[Zpx];dsimp only;split
     · exact ZQ
     · exact ZQ
   · dsimp only;exact Zs (Zu (hash_run w i t) ZQ) rfl
 · show R w 0 _ _ (if (decide (-(2:Int) ^ 63≤rawHash i)&&decide (rawHash i < 2 ^ 63))=true then _ else _) _ _ _
   rw[if_pos (by rw[decide_eq_true hr.1,decide_eq_true hr.2];rfl)];exact ZQ
noncomputable def hp(l:List Obj):Heap:=⟨l.toArray,Zgx⟩
theorem Zhq(l l':List Obj)(o:Obj)(hf:o.isFreed=false):(hp (l++o::l')).get? l.length=some o:=by
 unfold hp Heap.get?;have:(l++o::l').toArray[l.length]?=some o:=by simp
 simp only[this];obtain ⟨c,d,dt,sl⟩:=o;cases dt<;>first | rfl | (exact absurd hf (by simp[Obj.isFreed]))
theorem ZoC(l':List Obj)(o:Obj)(f:Obj→Obj):∀l:List Obj,(l++o::l').modify l.length f=l++f o::l':=by
 intro l;induction l with
 | nil=>
  simp
 | cons x l ih=>
  have:=ih;simp only[List.cons_append,List.length_cons,List.modify_succ_cons,this]
theorem ZoV(l l':List Obj)(o:Obj)(f:Obj→Obj):(hp (l++o::l')).update l.length f=hp (l++f o::l'):=by
 unfold hp Heap.update;show Heap.mk _ _=Heap.mk _ _
 congr 1
 simp[ZoC]
theorem hp_push(l:List Obj)(o:Obj):(hp l).push o=hp (l++[o]):=by
 unfold hp Heap.push;show Heap.mk _ _=Heap.mk _ _
 congr 1
 simp
theorem hp_size(l:List Obj):(hp l).objs.size=l.length:=by simp[hp]
noncomputable def dOb(es:List DictEntry):Obj:={cls:=.type "dict", data:=.dict es.toArray es.length}
theorem dOb_push(es:List DictEntry)(e:DictEntry):Obj.mapDictKeys (·.push e) (dOb es)=dOb (es++[e]):=by
 unfold dOb Obj.mapDictKeys;simp
noncomputable def ZfQ(es:List DictEntry)(h:Int):Prop:=∀e∈es,e.hash≠h
theorem Zoz(es:List DictEntry)(h:Int)(hf:ZfQ es h):placesWithHash es.toArray.size (fun i=>es.toArray[i]?.map (·.hash)) h=[]:=by
 unfold placesWithHash;rw[List.filter_eq_nil_iff];intro i hi;rw[List.mem_range] at hi;have:es.toArray[i]?=some es.toArray[i]:=Array.getElem?_eq_getElem hi;show ¬((es.toArray[i]?.map (·.hash))==some h)=true
 rw[this];simp only[Option.map_some,beq_iff_eq,Option.some.injEq];exact hf _ (by simp)
variable {gens:Array GenState} {drawn:Drawn} {toks:Nat} {os:OsState}
theorem R_find(l l':List Obj)(es:List DictEntry)(i:Int)(t:Tok)(h:Int)(hf:ZfQ es h):
 R w 1 ⟨hp (l++dOb es::l'),gens,drawn,toks,os⟩ p (dictFind l.length (.int i t) h) ⟨hp (l++dOb es::l'),gens,drawn,toks,os⟩ p none:=by
 unfold dictFind;refine Zbp ?_;unfold dictEntries;refine Zs (Zu (n:=1) (k:=0) (a:=es.toArray) (Zs (Zu (n:=1) (ZhC (Zhq l l' (dOb es) rfl)) ZQ) rfl) ?_) rfl;dsimp only;rw[Zoz es h hf];rw[if_pos (by rfl)];unfold dictWalkPlain;exact Zs (Zu (n:=0) (k:=0) ZQ ZQ) rfl
end
end
set_option tactic.hygienic true
set_option tactic.hygienic false
section
section
variable {w:World} {α β:Type} {n k:Nat} {p p' p₁ p₂:Pos} {gens:Array GenState} {drawn:Drawn} {toks:Nat} {os:OsState}
theorem Zpn(es:List DictEntry)(h:es.length≤1000):(dOb es).data.pastItsLine=none:=by
 refine pastItsLine_dict ?_;show es.toArray.size≤sizeLine+1
 rw[List.size_toArray,sizeLine_eq];lia
theorem ZjO(l l':List Obj)(es:List DictEntry)(e:DictEntry)(q:Option Value)(hb:Nat.ble 11 l.length=true)(hz:es.length≤900):
 R w 3 ⟨hp (l++dOb es::l'),gens,drawn,toks,os⟩ p (updateDictKeys l.length (·.push e) q) ⟨hp (l++dOb (es++[e])::l'),gens,drawn,toks,os⟩ p ():=by
 unfold updateDictKeys;refine Zs (Zu (n:=1) (k:=2) (ZhC (Zhq l l' (dOb es) rfl)) ?_) rfl;show R w 2 _ _ (updatePart l.length q (Obj.mapDictKeys (·.push e))>>=fun υ=>lookBehind l.length q) _ _ _
 refine Zs (Zu (n:=1) (k:=1) (R_update (Zhq l l' (dOb es) rfl) hb) ?_) rfl;dsimp only;rw[ZoV,dOb_push];unfold lookBehind;refine Zs (Zu (n:=1) (k:=0) (ZhC (Zhq l l' (dOb (es++[e])) rfl)) ?_) rfl;rw[Zpn (es++[e]) (by simp;lia)];exact ZQ
theorem R_setH(l l':List Obj)(es:List DictEntry)(i:Int)(t:Tok)(h:Int)(v:Value)(hf:ZfQ es h)(hb:Nat.ble 11 l.length=true)(hz:es.length≤900):
 R w 5 ⟨hp (l++dOb es::l'),gens,drawn,toks,os⟩ p (dictSetHashed l.length (.int i t) h v) ⟨hp (l++dOb (es++[⟨h,.int i t,v⟩])::l'),gens,drawn,toks,os⟩ p ():=by
 unfold dictSetHashed;refine Zbp ?_;refine Zs (Zu (n:=1) (k:=4) (R_find l l' es i t h hf) ?_) rfl;dsimp only;exact Zs (Zu (n:=1) (k:=3) R_rule (ZjO l l' es _ _ hb hz)) rfl
theorem R_set(l l':List Obj)(es:List DictEntry)(i:Int)(t:Tok)(v:Value)(hf:ZfQ es (hashInt i))(hb:Nat.ble 11 l.length=true)(hz:es.length≤900):
 R w 10 ⟨hp (l++dOb es::l'),gens,drawn,toks,os⟩ p (dictSet l.length (.int i t) v) ⟨hp (l++dOb (es++[⟨hashInt i,.int i t,v⟩])::l'),gens,drawn,toks+1,os⟩ p ():=by
 unfold dictSet;refine Zbp ?_;exact Zs (Zu (n:=5) (k:=5) (R_hash i t) (R_setH l l' es i t (hashInt i) v hf hb hz)) rfl
theorem R_put(l l':List Obj)(es:List DictEntry)(i:Int)(t:Tok)(h:Int)(v:Value)(hf:ZfQ es h)(hb:Nat.ble 11 l.length=true)(hz:es.length≤900):
 R w 4 ⟨hp (l++dOb es::l'),gens,drawn,toks,os⟩ p (dictPut l.length h (.int i t) v) ⟨hp (l++dOb (es++[⟨h,.int i t,v⟩])::l'),gens,drawn,toks,os⟩ p ():=by
 unfold dictPut;refine Zs (Zu (n:=1) (k:=3) (R_find l l' es i t h hf) ?_) rfl;dsimp only;exact ZjO l l' es _ _ hb hz
theorem ZpH{s:Shared}{i:Int}:R w 1 s p (mkInt i) {s with toks:=s.toks+1} p (.int i s.toks):=Zs (Zu (n:=1) (k:=0) ZpJ ZQ) rfl
theorem Znr{s:Shared}{x:Str}:R w 1 s p (mkText x) {s with toks:=s.toks+1} p (.str x s.toks):=Zs (Zu (n:=1) (k:=0) ZpJ ZQ) rfl
theorem ZeE{γ σ:Type}{f:γ→σ→Sem (ForInStep σ)}{b:σ}{s:Shared}:R w 0 s p (forIn ([]:List γ) b f) s p b:=by
 rw[List.forIn_nil];exact ZQ
theorem Zdw{γ σ:Type}{f:γ→σ→Sem (ForInStep σ)}{x:γ}{l:List γ}{b b' c:σ}{s s₁ s₂:Shared}(h:R w n s p (f x b) s₁ p₁ (.yield b'))(h':R w k s₁ p₁ (forIn l b' f) s₂ p₂ c):
 R w (n+k) s p (forIn (x::l) b f) s₂ p₂ c:=by
 rw[List.forIn_cons];exact Zu h h'
noncomputable abbrev Tbl:=List (Int×Str)
noncomputable def Zbz(q:Pos)(x:Int×Str):Sem Value×Sem Value:=(mkInt x.1,do let y ← mkText x.2;standAt q;pure y)
noncomputable def ent3:Nat→Tbl→List DictEntry
 | _,[]=>[]
 | t,(i,x)::r=>⟨hashInt i,.int i t,.str x (t+1)⟩::ent3 (t+3) r
theorem ZbW:∀(t:Nat) (l:Tbl),(ent3 t l).map (·.hash)=l.map (fun x=>hashInt x.1)
 | _,[]=>rfl
 | t,(i,x)::r=>by simp[ent3,ZbW]
theorem Zbs:∀(t:Nat) (l:Tbl),(ent3 t l).length=l.length
 | _,[]=>rfl
 | t,(i,x)::r=>by simp[ent3,Zbs]
theorem Znd{es:List DictEntry}{h:Int}{r:List Int}(nd:(es.map (·.hash)++h::r).Nodup):ZfQ es h:=fun e he q=>by
 rw[List.nodup_append] at nd;exact nd.2.2 e.hash (List.mem_map_of_mem he) h (.head _) q
theorem R_long(q:Pos)(l:List Obj)(hb:Nat.ble 11 l.length=true):∀(tb:Tbl) (es:List DictEntry) (t:Nat) (p:Pos),(es.map (·.hash)++tb.map (fun x=>hashInt x.1)).Nodup→es.length+tb.length≤900→
 R w (13 * tb.length) ⟨hp (l++[dOb es]),gens,drawn,t,os⟩ p (forIn (tb.map (Zbz q)) PUnit.unit fun (x:Sem Value×Sem Value) (_:PUnit)=>do
  let kv ← x.1
  let vv ← holding [kv] x.2
  holding [kv,vv] (dictSet l.length kv vv)
  pure (ForInStep.yield PUnit.unit)) ⟨hp (l++[dOb (es++ent3 t tb)]),gens,drawn,t+3 * tb.length,os⟩ (if tb.isEmpty then p else q) PUnit.unit:=by
 intro r;induction r with
 | nil=>
  intro es t p nd hz;rw[show ent3 t []=[] from rfl,List.append_nil];exact ZeE
 | cons z' r ih=>
  obtain ⟨i,x⟩:=z';intro es t p nd hz;rw[List.map_cons] at nd;have nd2:((es++[(⟨hashInt i,.int i t,.str x (t+1)⟩:DictEntry)]).map (·.hash)++r.map (fun x=>hashInt x.1)).Nodup:=by
   rw[List.map_append,List.append_assoc];exact nd
  have step:=ih (es++[⟨hashInt i,.int i t,.str x (t+1)⟩]) (t+3) q nd2 (by simp at hz ⊢;lia);rw[List.append_assoc] at step;rw[show (if ((i,x)::r).isEmpty=true then p else q)=(if r.isEmpty=true then q else q) by simp];rw[show t+3 * ((i,x)::r).length=t+3+3 * r.length by simp;lia];refine Zs (Zdw (n:=13) (b':=PUnit.unit) (p₁:=q) ?_ step) (by simp;lia);refine Zs (Zu (n:=1) (k:=12) ZpH ?_) rfl;dsimp only;refine Zs (Zu (n:=2) (k:=10) (p₁:=q) (Zbp (Zs (Zu (n:=1) (k:=1) Znr (Zs (Zu (n:=1) (k:=0) Zdv ZQ) rfl)) rfl)) ?_) rfl;dsimp only;exact Zs (Zu (n:=10) (k:=0) (Zbp (R_set l [] es i t (.str x (t+1)) (Znd nd) hb (by simp at hz;lia))) ZQ) rfl
end
end
set_option tactic.hygienic true
set_option tactic.hygienic false
section
section
variable {w:World} {α β:Type} {n k:Nat} {p p' p₁ p₂:Pos} {gens:Array GenState} {drawn:Drawn} {toks:Nat} {os:OsState}
theorem R_al(l:List Obj)(o:Obj):R w 1 ⟨hp l,gens,drawn,toks,os⟩ p (alloc o) ⟨hp (l++[o]),gens,drawn,toks,os⟩ p l.length:=by
 have:=R_alloc (w:=w) (s:=⟨hp l,gens,drawn,toks,os⟩) (p:=p) (o:=o);rw[hp_push,hp_size] at this;exact this
theorem ZjP(q:Pos)(l:List Obj)(hb:Nat.ble 11 l.length=true)(tb:Tbl)(t:Nat)(nd:(tb.map (fun x=>hashInt x.1)).Nodup)(h1:15 < tb.length)(h2:tb.length≤900):
 R w (13 * tb.length+2) ⟨hp l,gens,drawn,t,os⟩ p (subDict (tb.map (Zbz q))) ⟨hp (l++[dOb (ent3 t tb)]),gens,drawn,t+3 * tb.length,os⟩ q l.length:=by
 unfold subDict;refine Zs (Zu (n:=1) (k:=13 * tb.length+1) (R_al l _) ?_) (by lia);refine Zs (Zu (n:=13 * tb.length+1) (k:=0) (p₁:=q) (a:=PUnit.unit) (Zbp ?_) ZQ) (by lia);rw[List.length_map,if_neg (by lia)];refine Zs (Zu (n:=1) (k:=13 * tb.length) R_rule ?_) (by lia);have:=R_long (w:=w) (gens:=gens) (drawn:=drawn) (os:=os) q l hb tb [] t p (by simpa using nd) (by simpa using h2);rw[if_neg (by cases tb<;>simp at h1 ⊢)] at this;exact Zs (Zu (k:=0) this ZQ) rfl
noncomputable def ent2:Nat→Tbl→List DictEntry
 | _,[]=>[]
 | t,(i,x)::r=>⟨hashInt i,.int i t,.str x (t+1)⟩::ent2 (t+2) r
theorem Zjo:∀(t:Nat) (l:Tbl),(ent2 t l).map (·.hash)=l.map (fun x=>hashInt x.1)
 | _,[]=>rfl
 | t,(i,x)::r=>by simp[ent2,Zjo]
theorem Zih:∀(t:Nat) (l:Tbl),(ent2 t l).length=l.length
 | _,[]=>rfl
 | t,(i,x)::r=>by simp[ent2,Zih]
noncomputable def kv2:Nat→Tbl→List (Value×Value)
 | _,[]=>[]
 | t,(i,x)::r=>(.int i t,.str x (t+1))::kv2 (t+2) r
theorem Zgo(q:Pos){h:Heap}:∀(tb:Tbl) (t:Nat) (p:Pos),R w (3 * tb.length) ⟨h,gens,drawn,t,os⟩ p (evalPairs (tb.map (Zbz q))) ⟨h,gens,drawn,t+2 * tb.length,os⟩ (if tb.isEmpty then p else q) (kv2 t tb)
 | [],t,p=>ZQ
 | (i,x)::r,t,p=>by
  have ih:=Zgo q (h:=h) r (t+2) q;rw[show (if ((i,x)::r).isEmpty=true then p else q)=(if r.isEmpty=true then q else q) by simp];rw[show t+2 * ((i,x)::r).length=t+2+2 * r.length by simp;lia];show R w _ _ _ (evalPairs (Zbz q (i,x)::r.map (Zbz q))) _ _ _
  unfold evalPairs;refine Zs (Zu (n:=1) (k:=2+3 * r.length) ZpH ?_) (by simp;lia);dsimp only;refine Zs (Zu (n:=2) (k:=3 * r.length) (p₁:=q) (Zbp (Zs (Zu (n:=1) (k:=1) Znr (Zs (Zu (n:=1) (k:=0) Zdv ZQ) rfl)) rfl)) ?_) rfl;dsimp only;exact Zs (Zu (k:=0) (Zbp ih) ZQ) rfl
theorem R_short(l:List Obj)(hb:Nat.ble 11 l.length=true):∀(tb:Tbl) (es:List DictEntry) (u t:Nat),(es.map (·.hash)++tb.map (fun x=>hashInt x.1)).Nodup→es.length+tb.length≤900→
 R w (10 * tb.length) ⟨hp (l++[dOb es]),gens,drawn,t,os⟩ p (forIn (kv2 u tb) PUnit.unit fun (x:Value×Value) (_:PUnit)=>do
  dictSet l.length x.1 x.2
  pure (ForInStep.yield PUnit.unit)) ⟨hp (l++[dOb (es++ent2 u tb)]),gens,drawn,t+tb.length,os⟩ p PUnit.unit:=by
 intro r;induction r with
 | nil=>
  intro es u t nd hz;rw[show ent2 u []=[] from rfl,List.append_nil];exact ZeE
 | cons z' r ih=>
  obtain ⟨i,x⟩:=z';intro es u t nd hz;rw[List.map_cons] at nd;have nd2:((es++[(⟨hashInt i,.int i u,.str x (u+1)⟩:DictEntry)]).map (·.hash)++r.map (fun x=>hashInt x.1)).Nodup:=by
   rw[List.map_append,List.append_assoc];exact nd
  have step:=ih (es++[⟨hashInt i,.int i u,.str x (u+1)⟩]) (u+2) (t+1) nd2 (by simp at hz ⊢;lia);rw[List.append_assoc] at step;rw[show t+((i,x)::r).length=t+1+r.length by simp;lia];refine Zs (Zdw (n:=10) (b':=PUnit.unit) (p₁:=p) ?_ step) (by simp;lia);exact Zs (Zu (n:=10) (k:=0) (R_set l [] es i u (.str x (u+1)) (Znd nd) hb (by simp at hz;lia)) ZQ) rfl
theorem ZnW(q:Pos)(l:List Obj)(hb:Nat.ble 11 l.length=true)(tb:Tbl)(t:Nat)(nd:(tb.map (fun x=>hashInt x.1)).Nodup)(h1:tb.length≤15)(h0:tb≠[]):
 R w (13 * tb.length+1) ⟨hp l,gens,drawn,t,os⟩ p (subDict (tb.map (Zbz q))) ⟨hp (l++[dOb (ent2 t tb)]),gens,drawn,t+3 * tb.length,os⟩ q l.length:=by
 unfold subDict;refine Zs (Zu (n:=1) (k:=13 * tb.length) (R_al l _) ?_) (by lia);refine Zs (Zu (n:=13 * tb.length) (k:=0) (p₁:=q) (a:=PUnit.unit) (Zbp ?_) ZQ) (by lia);rw[List.length_map,if_pos (by lia)];have e:=Zgo (w:=w) (gens:=gens) (drawn:=drawn) (os:=os) q (h:=hp (l++[dOb []])) tb t p;rw[if_neg (by cases tb<;>simp at h0 ⊢)] at e;refine Zs (Zu (n:=3 * tb.length) (k:=10 * tb.length) e ?_) (by lia);have:=R_short (w:=w) (gens:=gens) (drawn:=drawn) (os:=os) (p:=q) l hb tb [] t (t+2 * tb.length) (by simpa using nd) (by simp;lia);rw[show t+2 * tb.length+tb.length=t+3 * tb.length by lia] at this;exact Zbp (Zs (Zu (k:=0) this ZQ) rfl)
end
end
set_option tactic.hygienic true
set_option tactic.hygienic false
section
section
variable {w:World} {α β:Type} {n k:Nat} {p p' p₁ p₂:Pos} {gens:Array GenState} {drawn:Drawn} {toks:Nat} {os:OsState}
theorem sub_dict:isSubtype (.type "dict") (.type "dict")=pure true:=by kernel_rfl!
theorem ZoF:typeLookup (.type "dict") "__iter__" = pure (some (.builtin "dict.__iter__")):=by kernel_rfl!
noncomputable def IntK(es:List DictEntry):Prop:=∀e∈es,∃i t,e.key=.int i t
theorem Zgp{s:Shared}{a:Addr}{q:Option Value}{es:List DictEntry}(h:s.heap.get? a=some (dOb es)):R w 1 s p (dictEntries a q) s p es.toArray:=
 Zs (Zu (n:=1) (k:=0) (ZhC h) ZQ) rfl
theorem ZpK{s:Shared}{a:Addr}{q:Option Value}{es:List DictEntry}(h:s.heap.get? a=some (dOb es)):R w 1 s p (dictEpoch a q) s p es.length:=
 Zs (Zu (n:=1) (k:=0) (ZhC h) ZQ) rfl
theorem R_type{s:Shared}{a:Addr}{o:Obj}(h:s.heap.get? a=some o):R w 1 s p (typeOf (.ref a)) s p o.cls:=
 Zs (Zu (n:=1) (k:=0) (ZhC h) ZQ) rfl
theorem R_isDict{s:Shared}{a:Addr}{es:List DictEntry}(h:s.heap.get? a=some (dOb es)):R w 1 s p (isInstance (.ref a) (.type "dict")) s p true:=by
 unfold isInstance;refine Zs (Zu (n:=1) (k:=0) (R_type h) ?_) rfl;rw[show (dOb es).cls=.type "dict" from rfl,sub_dict];exact ZQ
theorem ZnX{s:Shared}{a:Addr}{es:List DictEntry}(h:s.heap.get? a=some (dOb es)):R w 1 s p (specialOf (.ref a) "__iter__") s p (some (.builtin "dict.__iter__")):=by
 unfold specialOf;refine Zs (Zu (n:=1) (k:=0) (R_type h) ?_) rfl;rw[show (dOb es).cls=.type "dict" from rfl,ZoF];exact ZQ
noncomputable def mbody(d a ep:Nat):Nat→PUnit→Sem (ForInStep PUnit):=fun i υ=>do
 let x ← dictEntries a
 match x[i]? with
 | some e=>do
  holding [e.key,e.val] (dictPut d e.hash e.key e.val)
  let y ← dictEpoch a
  if (y != ep)=true then do
   unsupported "dict.changed-during-merge"
   pure (ForInStep.yield PUnit.unit)
  else pure (ForInStep.yield PUnit.unit)
 | _=>do
  unsupported "dict.changed-during-merge"
  pure (ForInStep.yield PUnit.unit)
theorem Zoh(l mid:List Obj)(es sub:List DictEntry):(hp (l++dOb es::(mid++[dOb sub]))).get? (l.length+1+mid.length)=some (dOb sub):=by
 have:=Zhq (l++dOb es::mid) [] (dOb sub) rfl;rw[show (l++dOb es::mid)++[dOb sub]=l++dOb es::(mid++[dOb sub]) by simp,show (l++dOb es::mid).length=l.length+1+mid.length by simp;lia] at this;exact this
theorem R_mloop(l mid:List Obj)(sub:List DictEntry)(hb:Nat.ble 11 l.length=true)(hk:IntK sub):∀(rest done:List DictEntry) (es:List DictEntry),sub=done++rest→((es++rest).map (·.hash)).Nodup→es.length+rest.length≤900→
 R w (6 * rest.length) ⟨hp (l++dOb es::(mid++[dOb sub])),gens,drawn,toks,os⟩ p (forIn (List.range' done.length rest.length) PUnit.unit (mbody l.length (l.length+1+mid.length) sub.length))
  ⟨hp (l++dOb (es++rest)::(mid++[dOb sub])),gens,drawn,toks,os⟩ p PUnit.unit:=by
 intro r;induction r with
 | nil=>
  intro done es e nd hz;rw[List.append_nil];exact ZeE
 | cons x r ih=>
  intro done es e nd hz;have ih:=ih (done++[x]) (es++[x]) (by rw[e];simp) (by simpa using nd) (by simp at hz ⊢;lia);rw[List.append_assoc] at ih;rw[List.length_append,List.length_singleton] at ih;rw[List.length_cons,List.range'_succ];refine x2_1 (hk x (by rw[e];simp)) fun i t hkey=>?_;refine Zs (Zdw (n:=6) (b':=PUnit.unit) (p₁:=p) ?_ ih) (by lia);unfold mbody;refine Zs (Zu (n:=1) (k:=5) (Zgp (Zoh l mid es sub)) ?_) rfl;have hx:sub.toArray[done.length]?=some x:=by rw[e];simp
  simp only[hx];obtain ⟨hh,hkk,hv⟩:=x;dsimp only at hkey;subst hkey;have hf:ZfQ es hh:=fun y hy q=>by
   rw[List.map_append,List.nodup_append] at nd;exact nd.2.2 y.hash (List.mem_map_of_mem hy) hh (by simp) q
  refine Zs (Zu (n:=4) (k:=1) (a:=()) (Zbp (R_put l (mid++[dOb sub]) es i t hh hv hf hb (by simp at hz;lia))) ?_) rfl;refine Zs (Zu (n:=1) (k:=0) (ZpK (Zoh l mid _ sub)) ?_) rfl;rw[if_neg (by simp)];exact ZQ
theorem ZpI(l mid:List Obj)(es sub:List DictEntry)(hb:Nat.ble 11 l.length=true)(nd:((es++sub).map (·.hash)).Nodup)(hk:IntK sub)(h0:es≠[])(hz:es.length+sub.length≤900):
 R w (5+6 * sub.length) ⟨hp (l++dOb es::(mid++[dOb sub])),gens,drawn,toks,os⟩ p (mergeMapping l.length (.ref (l.length+1+mid.length)) false)
  ⟨hp (l++dOb (es++sub)::(mid++[dOb sub])),gens,drawn,toks,os⟩ p ():=by
 have hs:=Zoh l mid es sub;have hlen:11≤l.length:=Nat.le_of_ble_eq_true hb;unfold mergeMapping;refine Zs (Zu (n:=1) (k:=4+6 * sub.length) (R_isDict hs) ?_) (by lia);dsimp only;rw[if_pos rfl];refine Zs (Zu (n:=1) (k:=3+6 * sub.length) (ZnX hs) ?_) (by lia);refine Zs (Zu (n:=0) (k:=3+6 * sub.length) (a:=true) ZQ ?_) (by lia);dsimp only;rw[if_neg (by show ¬((l.length+1+mid.length==1)=true);simp;lia)];refine Zs (Zu (n:=1) (k:=2+6 * sub.length) (Zgp (Zhq l _ (dOb es) rfl)) ?_) (by lia);rw[if_neg (by cases es<;>simp at h0 ⊢)];refine Zs (Zu (n:=1) (k:=1+6 * sub.length) (Zgp hs) ?_) (by lia);refine Zs (Zu (n:=1) (k:=6 * sub.length) (ZpK hs) ?_) (by lia);rw[show sub.toArray.size=sub.length by simp,List.range_eq_range'];exact Zs (Zu (k:=0) (R_mloop l mid sub hb hk sub [] es rfl nd hz) ZQ) rfl
end
end
set_option tactic.hygienic true
set_option tactic.hygienic false
section
section
variable {w:World} {α β:Type} {n k:Nat} {p p' p₁ p₂:Pos} {gens:Array GenState} {drawn:Drawn} {toks:Nat} {os:OsState}
noncomputable abbrev Pr:=Sem Value×Sem Value
noncomputable def ZdR(run:List Pr)(main:Option Addr):Sem (Option Addr):=
 if run.isEmpty=true then pure main
 else match main with
  | none=>do
   let x ← subDict run
   pure (some x)
  | some d=>do
   let sub ← holding [Value.ref d] (subDict run)
   (holding [Value.ref d,Value.ref sub] (mergeMapping d (Value.ref sub) false)).onRaise fun (x:Value)=>do
    let _ ← holding [Value.ref d,x] (runValue (Code.builtin "proto.let_go" {}))
    pure ()
   pure (some d)
noncomputable def itm(q:Pos)(x:Int×Str):Option (Sem Value)×Sem Value:=(some (Zbz q x).1,(Zbz q x).2)
noncomputable abbrev ZpN:=Option (Sem Value)×Sem Value→Option Addr×List Pr→Sem (ForInStep (Option Addr×List Pr))
noncomputable def FOk(f:ZpN):Prop:=∀(k v:Sem Value) (main:Option Addr) (run:List Pr),f (some k,v) (main,run) =
 if ((run++[(k,v)]).length==17)=true then ZdR (run++[(k,v)]) main>>=fun main=>pure (ForInStep.yield (main,[])) else pure (ForInStep.yield (main,run++[(k,v)]))
theorem acc_eq{f:ZpN}(hf:FOk f)(q:Pos)(rest:List (Option (Sem Value)×Sem Value))(main:Option Addr):∀(tb:Tbl) (run:List Pr),run.length+tb.length≤16→
 forIn (tb.map (itm q)++rest) (main,run) f=forIn rest (main,run++tb.map (Zbz q)) f:=by
 intro r;induction r with
 | nil=>
  intro run υ;simp
 | cons x r ih=>
  intro run h;have ih:=ih (run++[Zbz q x]) (by simp at h ⊢;lia);rw[List.map_cons,List.cons_append,List.forIn_cons];show (f (some (Zbz q x).1,(Zbz q x).2) (main,run)>>=_)=_
  rw[hf,if_neg (by simp at h ⊢;lia)];rw[List.map_cons,show run++Zbz q x::r.map (Zbz q)=run++[Zbz q x]++r.map (Zbz q) by simp];exact ih
theorem ZpM{f:ZpN}(hf:FOk f)(q:Pos)(rest:List (Option (Sem Value)×Sem Value)){main main':Option Addr}{tb:Tbl}{s s₁ s₂:Shared}{c:Option Addr×List Pr}(h17:tb.length=17)(h:R w n s p (ZdR (tb.map (Zbz q)) main) s₁ p₁ main')
 (h':R w k s₁ p₁ (forIn rest (main',[]) f) s₂ p₂ c):R w (n+k) s p (forIn (tb.map (itm q)++rest) (main,[]) f) s₂ p₂ c:=by
 have e:tb=tb.take 16++[tb[16]]:=by
  have:=List.take_append_drop 16 tb;conv=>lhs;rw[← this]
  congr 1
  rw[List.drop_eq_getElem_cons (by lia),List.drop_eq_nil_of_le (by lia)]
 generalize tb.take 16=a at e;generalize tb[16]=b at e;subst e;have ha:a.length=16:=by simp at h17;lia
 rw[List.map_append,List.map_singleton,List.append_assoc,acc_eq hf q _ main a [] (by simp;lia),List.nil_append,List.singleton_append];refine Zdw (b':=(main',[])) ?_ h';show R w n s p (f (some (Zbz q b).1,(Zbz q b).2) (main,_)) _ _ _
 rw[hf,if_pos (by simp;lia)];rw[List.map_append,List.map_singleton] at h;exact Zs (Zu (k:=0) h ZQ) rfl
theorem ZkS:∀(a b:Tbl) (t:Nat),ent3 t (a++b)=ent3 t a++ent3 (t+3 * a.length) b:=by
 intro r;induction r with
 | nil=>
  intro b t;simp[ent3]
 | cons z' r ih=>
  obtain ⟨i,x⟩:=z';intro b t;simp only[List.cons_append,ent3,ih b,List.length_cons];rw[show t+3+3 * r.length=t+3 * (r.length+1) by lia]
theorem Zpi:∀(t:Nat) (l:Tbl),IntK (ent3 t l):=by
 intro t r;induction r generalizing t with
 | nil=>
  exact fun υ h=>nomatch h
 | cons z' r ih=>
  obtain ⟨i,x⟩:=z';exact fun e he=>by
   rcases lmc he with rfl | he
   · exact p2_1 _ _ rfl
   · exact ih _ e he
theorem Zpj:∀(t:Nat) (l:Tbl),IntK (ent2 t l):=by
 intro t r;induction r generalizing t with
 | nil=>
  exact fun υ h=>nomatch h
 | cons z' r ih=>
  obtain ⟨i,x⟩:=z';exact fun e he=>by
   rcases lmc he with rfl | he
   · exact p2_1 _ _ rfl
   · exact ih _ e he
noncomputable def Zdc:Nat→Nat→Tbl→List Obj
 | 0,_,_=>[]
 | m+1,t,tb=>dOb (ent3 t (tb.take 17))::Zdc m (t+51) (tb.drop 17)
noncomputable abbrev hs(l:Tbl):List Int:=l.map (fun x=>hashInt x.1)
theorem R_flush1(q:Pos)(l mid:List Obj)(es:List DictEntry)(tb:Tbl)(t:Nat)(hb:Nat.ble 11 l.length=true)(h17:tb.length=17)(nd:(es.map (·.hash)++hs tb).Nodup)(h0:es≠[])(hz:es.length+tb.length≤900):
 R w 330 ⟨hp (l++dOb es::mid),gens,drawn,t,os⟩ p (ZdR (tb.map (Zbz q)) (some l.length)) ⟨hp (l++dOb (es++ent3 t tb)::(mid++[dOb (ent3 t tb)])),gens,drawn,t+51,os⟩ q (some l.length):=by
 unfold ZdR;rw[if_neg (by cases tb<;>simp at h17 ⊢)];dsimp only;have hb':Nat.ble 11 (l++dOb es::mid).length=true:=Nat.ble_eq_true_of_le (by have:=Nat.le_of_ble_eq_true hb;simp;lia);have s1:=ZjP (w:=w) (gens:=gens) (drawn:=drawn) (os:=os) (p:=p) q (l++dOb es::mid) hb' tb t (List.nodup_append.mp nd).2.1 (by lia) (by lia);rw[h17,show (l++dOb es::mid).length=l.length+1+mid.length by simp;lia,show (l++dOb es::mid)++[dOb (ent3 t tb)]=l++dOb es::(mid++[dOb (ent3 t tb)]) by simp] at s1;refine Zs (Zu (n:=13 * 17+2) (k:=107) (Zbp s1) ?_) rfl;have s2:=ZpI (w:=w) (gens:=gens) (drawn:=drawn) (toks:=t+51) (os:=os) (p:=q) l mid es (ent3 t tb) hb (by rw[List.map_append,ZbW];exact nd) (Zpi t tb) h0 (by rw[Zbs];exact hz);rw[Zbs,h17] at s2;exact Zs (Zu (n:=107) (k:=0) (ZjQ (Zbp s2)) ZQ) rfl
theorem R_chunks{f:ZpN}(hf:FOk f)(q:Pos)(l:List Obj)(hb:Nat.ble 11 l.length=true)(rest:List (Option (Sem Value)×Sem Value))(c:Option Addr×List Pr):∀(m:Nat) (tb:Tbl) (es:List DictEntry) (mid:List Obj) (t:Nat) (p:Pos) (s₂:Shared),tb.length=17 * m→(es.map (·.hash)++hs tb).Nodup→es≠[]→es.length+tb.length≤900→
 R w k ⟨hp (l++dOb (es++ent3 t tb)::(mid++Zdc m t tb)),gens,drawn,t+51 * m,os⟩ (if m=0 then p else q) (forIn rest (some l.length,[]) f) s₂ p₂ c→
 R w (330 * m+k) ⟨hp (l++dOb es::mid),gens,drawn,t,os⟩ p (forIn (tb.map (itm q)++rest) (some l.length,[]) f) s₂ p₂ c:=by
 intro m;induction m with
 | zero=>
  intro tb es mid t p s₂ hl nd h0 hz h;have:tb=[]:=List.eq_nil_of_length_eq_zero (by lia);subst this;have:=h;simp only[ent3,Zdc,List.append_nil,Nat.mul_zero,Nat.add_zero,if_pos] at this;exact Zs this (by lia)
 | succ m ih=>
  intro tb es mid t p s₂ hl nd h0 hz h;have e:=List.take_append_drop 17 tb;have l1:(tb.take 17).length=17:=by rw[List.length_take];lia
  have l2:(tb.drop 17).length=17 * m:=by rw[List.length_drop];lia
  have nd1:(es.map (·.hash)++(hs (tb.take 17)++hs (tb.drop 17))).Nodup:=by rw[← List.map_append,e];exact nd
  rw[← e,List.map_append,List.append_assoc];refine Zs (ZpM hf q _ (n:=330) (k:=330 * m+k) l1 (R_flush1 q l mid es (tb.take 17) t hb l1 (by rw[← List.append_assoc] at nd1;exact (List.nodup_append.mp nd1).1) h0 (by lia)) ?_) (by lia);refine ih (tb.drop 17) (es++ent3 t (tb.take 17)) (mid++[dOb (ent3 t (tb.take 17))]) (t+51) q s₂ l2 (by rw[List.map_append,ZbW,List.append_assoc];exact nd1) (by simp[h0]) (by rw[List.length_append,Zbs];lia) ?_;rw[if_neg (by lia)] at h;rw[show (if m=0 then q else q)=q by split<;>rfl];rw[show es++ent3 t (tb.take 17)++ent3 (t+51) (tb.drop 17)=es++ent3 t tb by
   rw[List.append_assoc];congr 1;have:=ZkS (tb.take 17) (tb.drop 17) t;rw[e,l1] at this;exact this.symm]
  rw[show mid++[dOb (ent3 t (tb.take 17))]++Zdc m (t+51) (tb.drop 17)=mid++Zdc (m+1) t tb by simp[Zdc],show t+51+51 * m=t+51 * (m+1) by lia];exact h
end
end
set_option tactic.hygienic true
set_option tactic.hygienic false
section
section
variable {w:World} {α β:Type} {n k:Nat} {p p' p₁ p₂:Pos} {gens:Array GenState} {drawn:Drawn} {toks:Nat} {os:OsState}
noncomputable def ZdY(t m:Nat)(a b c:Tbl):List DictEntry:=ent3 t a++ent3 (t+51) b++ent2 (t+51+51 * m) c
theorem R_dloop{f:ZpN}(hf:FOk f)(q:Pos)(l:List Obj)(hb:Nat.ble 11 l.length=true)(m:Nat)(a b c:Tbl)(t:Nat)(ha:a.length=17)(hbm:b.length=17 * m)(hc:c.length≤15)(nda:(hs a).Nodup)(ndab:(hs a++hs b).Nodup)(hz:a.length+b.length≤900):
 R w (223+330 * m) ⟨hp l,gens,drawn,t,os⟩ p (forIn (a.map (itm q)++(b.map (itm q)++c.map (itm q))) (none,[]) f)
  ⟨hp (l++dOb (ent3 t a++ent3 (t+51) b)::Zdc m (t+51) b),gens,drawn,t+51+51 * m,os⟩ q (some l.length,c.map (Zbz q)):=by
 have s1:=ZjP (w:=w) (gens:=gens) (drawn:=drawn) (os:=os) (p:=p) q l hb a t nda (by lia) (by lia);rw[ha] at s1;have e:=acc_eq hf q [] (some l.length) c [] (by simp;lia);rw[List.append_nil,List.nil_append] at e;have s0:R w 223 ⟨hp l,gens,drawn,t,os⟩ p (ZdR (a.map (Zbz q)) none) ⟨hp (l++[dOb (ent3 t a)]),gens,drawn,t+51,os⟩ q (some l.length):=by
  unfold ZdR;rw[if_neg (by cases a<;>simp at ha ⊢)];exact Zs (Zu (n:=223) (k:=0) s1 ZQ) rfl
 refine Zs (ZpM hf q _ (n:=223) (k:=330 * m) ha s0 (Zs (R_chunks hf q l hb (c.map (itm q)) _ (k:=0) m b (ent3 t a) [] (t+51) q _ hbm (by rw[ZbW];exact ndab) ?_ (by rw[Zbs];lia) ?_) (by lia))) (by lia)
 · intro e;have:=congrArg List.length e;rw[Zbs,ha] at this;simp at this
 · rw[e];rw[show (if m=0 then q else q)=q by split<;>rfl,List.nil_append];exact ZeE
theorem R_flush2(q:Pos)(l mid:List Obj)(es:List DictEntry)(tb:Tbl)(t:Nat)(hb:Nat.ble 11 l.length=true)(h15:tb.length≤15)(ht:tb≠[])(nd:(es.map (·.hash)++hs tb).Nodup)(h0:es≠[])(hz:es.length+tb.length≤900):
 R w (19 * tb.length+6) ⟨hp (l++dOb es::mid),gens,drawn,t,os⟩ p (ZdR (tb.map (Zbz q)) (some l.length)) ⟨hp (l++dOb (es++ent2 t tb)::(mid++[dOb (ent2 t tb)])),gens,drawn,t+3 * tb.length,os⟩ q (some l.length):=by
 unfold ZdR;rw[if_neg (by cases tb<;>simp at ht ⊢)];dsimp only;have hb':Nat.ble 11 (l++dOb es::mid).length=true:=Nat.ble_eq_true_of_le (by have:=Nat.le_of_ble_eq_true hb;simp;lia);have s1:=ZnW (w:=w) (gens:=gens) (drawn:=drawn) (os:=os) (p:=p) q (l++dOb es::mid) hb' tb t (List.nodup_append.mp nd).2.1 h15 ht;rw[show (l++dOb es::mid).length=l.length+1+mid.length by simp;lia,show (l++dOb es::mid)++[dOb (ent2 t tb)]=l++dOb es::(mid++[dOb (ent2 t tb)]) by simp] at s1;refine Zs (Zu (n:=13 * tb.length+1) (k:=6 * tb.length+5) (Zbp s1) ?_) (by lia);have s2:=ZpI (w:=w) (gens:=gens) (drawn:=drawn) (toks:=t+3 * tb.length) (os:=os) (p:=q) l mid es (ent2 t tb) hb (by rw[List.map_append,Zjo];exact nd) (Zpj t tb) h0 (by rw[Zih];exact hz);rw[Zih] at s2;exact Zs (Zu (k:=0) (ZjQ (Zbp s2)) ZQ) (by lia)
theorem ZpL(q:Pos)(l:List Obj)(hb:Nat.ble 11 l.length=true)(m:Nat)(a b c:Tbl)(t:Nat)(ha:a.length=17)(hbm:b.length=17 * m)(hc:c.length≤15)(hc0:c≠[])(nd:(hs (a++b++c)).Nodup)(hz:a.length+b.length+c.length≤900):
 R w (223+330 * m+(19 * c.length+6)) ⟨hp l,gens,drawn,t,os⟩ p (dictDisplay ((a++b++c).map (itm q)))
  ⟨hp (l++dOb (ZdY t m a b c)::(Zdc m (t+51) b++[dOb (ent2 (t+51+51 * m) c)])),gens,drawn,t+51+51 * m+3 * c.length,os⟩ q (.ref l.length):=by
 have nd':(hs a++(hs b++hs c)).Nodup:=by
  have:=nd;simp only[hs,List.map_append,List.append_assoc] at this ⊢;exact this
 have nda:=(List.nodup_append.mp nd').1;have ndab:(hs a++hs b).Nodup:=by rw[← List.append_assoc] at nd';exact (List.nodup_append.mp nd').1
 unfold dictDisplay;rw[List.map_append,List.map_append,List.append_assoc];refine Zu (R_dloop (w:=w) (fun k v main run=>rfl) q l hb m a b c t ha hbm hc nda ndab (by lia)) ?_;dsimp only;refine Zs (Zu (n:=19 * c.length+6) (k:=0) (R_flush2 q l _ _ c _ hb hc hc0 ?_ ?_ ?_) ZQ) (by lia)
 · rw[List.map_append,ZbW,ZbW,List.append_assoc];exact nd'
 · intro e;have:=congrArg List.length e;rw[List.length_append,Zbs,ha] at this;simp at this
 · rw[List.length_append,Zbs,Zbs];exact hz
end
end
set_option tactic.hygienic true
set_option tactic.hygienic false
section
noncomputable def Qf:List (Option Expr)×List Expr×Pos:=match pE.main.body[(11:Nat)]? with
 | some (.Assign _ (.Dict ks vs q) _)=>(ks,vs,q)
 | _=>default
noncomputable def tblOf:List (Option Expr)→List Expr→Tbl
 | some (.Constant (.int i) _ _)::ks,.Constant (.str x) _ _::vs=>(i,x)::tblOf ks vs
 | _,_=>[]
noncomputable def b3Tbl:Tbl:=tblOf Qf.1 Qf.2.1
noncomputable def b3A:Tbl:=b3Tbl.take 17
noncomputable def b3B:Tbl:=(b3Tbl.drop 17).take 629
noncomputable def b3C:Tbl:=b3Tbl.drop 646
noncomputable def b3Obj:Obj:=dOb (ZdY 328 37 b3A b3B b3C)
noncomputable def b3Subs:List Obj:=Zdc 37 379 b3B++[dOb (ent2 2266 b3C)]
noncomputable def Qc(j:Nat):Obj:=b3Subs.getD (j - 1) default
noncomputable def tO(l:List Value):Obj:=⟨(.type "tuple"),none,(.seq (List.toArray l) 0),List.toArray []⟩
noncomputable def fO(l:List Value):Obj:=⟨.none,none,(.fields (List.toArray l)),List.toArray []⟩
noncomputable def cO(l:List Value):Obj:=⟨(.type "code"),none,(.fields (List.toArray l)),List.toArray []⟩
noncomputable def gO(s:Str)(i:Nat):Obj:=⟨.none,none,(.func ⟨s,s,(fnp i).1,.stmts (fnp i).2.1,(fnp i).2.2,0,[],.none,.none,.none,.none,none,.none,.none,0⟩),List.toArray []⟩
noncomputable def hO(s:Str)(i:Nat)(a b:Value)(m:Str)(k c:Nat):Obj:=⟨(.type "function"),none,(.func ⟨s,s,(fnp i).1,.stmts (fnp i).2.1,(fnp i).2.2,3,[],a,b,.none,(.str m k),none,(.ref c),.none,0⟩),List.toArray []⟩
noncomputable def lf(o:Obj):BT:=.node o .nil .nil
noncomputable def en(P:Params)(s:Str)(n:Nat)(v:Value):DictEntry:=⟨PyData.keyHash P s,.str s n,v⟩
noncomputable def ZhN(_:Params):Obj:=tO []
noncomputable def o12_a(_:Params):Obj:=fO []
noncomputable def ZhM(_:Params):Obj:=cO [.str "<module>" 182,.str "<module>" 183,.str "/claim/cut.py" 184,.int 1 0,.int 0 0,.int 0 0,.int 0 0,.int 0 0,.ref 11,.bool false,.int 181 0,.ref 12,.none,.none,.none,.none,.int 185 0,.int 1 0,.str "/claim/cut.py" 186]
noncomputable def ZhL(_:Params):Obj:=⟨(.type "frame"),none,.plain,List.toArray [(some (.ref 13)),(some (.ref 3)),(some (.ref 3)),none,(some (.str "__main__" 164)),none,(some (.ref 0))]⟩
noncomputable def heap_a(P:Params):Heap:=⟨⟨[boot_o_0 P,boot_o_1 P,boot_o_2 P,boot_o_3 P,boot_o_4 P,boot_o_5 P,boot_o_6 P,boot_o_7 P,boot_o_8 P,boot_o_9 P,boot_o_10 P,ZhN P,o12_a P,ZhM P,ZhL P]⟩,Zgx⟩
noncomputable def tree_b(P:Params):BT:=(.node (boot_o_0 P) (.node (boot_o_1 P) (.node (boot_o_3 P) (lf (boot_o_7 P)) (lf (ZhN P))) (.node (boot_o_5 P) (lf (boot_o_9 P)) (lf (ZhM P)))) (.node (boot_o_2 P) (.node (boot_o_4 P) (lf (boot_o_8 P)) (lf (o12_a P))) (.node (boot_o_6 P) (lf (boot_o_10 P)) (lf (ZhL P)))))
noncomputable def o3_p8(P:Params):Obj:=⟨(.type "dict"),none,(.dict (List.toArray [en P "__name__" 165 (.str "cpy313.stringprep" 259),en P "__doc__" 166 .none,en P "__package__" 167 .none,en P "__loader__" 168 (.builtin "__main__.__loader__#opaque"),en P "__spec__" 169 .none,en P "__annotations__" 170 (.ref 6),en P "__builtins__" 171 (.ref 4),en P "__file__" 173 (.str "/claim/cut.py" 172),en P "__cached__" 174 .none,en P "insort_right" 201 (.ref 23),en P "bisect_right" 215 (.ref 32),en P "insort_left" 228 (.ref 41),en P "bisect_left" 242 (.ref 50),en P "ELLIPSIS_MARKER" 246 (.str "..." 245),en P "_ellipsis_match" 258 (.ref 57)]) 15),List.toArray []⟩
noncomputable def o12_p8(_:Params):Obj:=fO [.int 2 0,.int 0 0,.ref 22,.int 8 0,.int 0 0,.ref 31,.int 28 0,.int 0 0,.ref 40,.int 34 0,.int 0 0,.ref 49,.int 56 0,.int 0 0,.ref 56]
noncomputable def ZdP(_:Params):Obj:=tO [.int 0 189,.none]
noncomputable def ZfD(P:Params):Obj:=⟨(.type "dict"),none,(.dict (List.toArray [en P "key" 190 .none]) 1),List.toArray []⟩
noncomputable def ZfC(_:Params):Obj:=tO []
noncomputable def ZfB(_:Params):Obj:=fO []
noncomputable def ZfA(_:Params):Obj:=tO [.str "a" 194,.str "x" 195,.str "lo" 196,.str "hi" 197,.str "key" 198]
noncomputable def Zfz(_:Params):Obj:=tO []
noncomputable def Zfy(_:Params):Obj:=gO "insort_right" 1
noncomputable def Zfx(_:Params):Obj:=cO [.str "insort_right" 191,.str "insort_right" 192,.str "/claim/cut.py" 193,.int 2 0,.int 4 0,.int 0 0,.int 1 0,.int 3 0,.ref 17,.bool true,.int 181 0,.ref 18,.none,.ref 19,.ref 20,.ref 21,.int 199 0,.int 2 0,.str "/claim/cut.py" 200]
noncomputable def ZcP(_:Params):Obj:=hO "insort_right" 1 (.ref 15) (.ref 16) "cpy313.bisect" 187 22
noncomputable def ZdO(_:Params):Obj:=tO [.int 0 202,.none]
noncomputable def Zfw(P:Params):Obj:=⟨(.type "dict"),none,(.dict (List.toArray [en P "key" 203 .none]) 1),List.toArray []⟩
noncomputable def Zfv(_:Params):Obj:=tO []
noncomputable def Zfu(_:Params):Obj:=fO []
noncomputable def Zft(_:Params):Obj:=tO [.str "a" 207,.str "x" 208,.str "lo" 209,.str "hi" 210,.str "key" 211,.str "mid" 212]
noncomputable def Zfs(_:Params):Obj:=tO []
noncomputable def Zfr(_:Params):Obj:=gO "bisect_right" 2
noncomputable def Zfq(_:Params):Obj:=cO [.str "bisect_right" 204,.str "bisect_right" 205,.str "/claim/cut.py" 206,.int 8 0,.int 4 0,.int 0 0,.int 1 0,.int 3 0,.ref 26,.bool true,.int 181 0,.ref 27,.none,.ref 28,.ref 29,.ref 30,.int 213 0,.int 8 0,.str "/claim/cut.py" 214]
noncomputable def Zdg(_:Params):Obj:=hO "bisect_right" 2 (.ref 24) (.ref 25) "cpy313.bisect" 187 31
noncomputable def ZdN(_:Params):Obj:=tO [.int 0 216,.none]
noncomputable def Zfp(P:Params):Obj:=⟨(.type "dict"),none,(.dict (List.toArray [en P "key" 217 .none]) 1),List.toArray []⟩
noncomputable def Zfo(_:Params):Obj:=tO []
noncomputable def Zfn(_:Params):Obj:=fO []
noncomputable def Zfm(_:Params):Obj:=tO [.str "a" 221,.str "x" 222,.str "lo" 223,.str "hi" 224,.str "key" 225]
noncomputable def Zfl(_:Params):Obj:=tO []
noncomputable def Zfk(_:Params):Obj:=gO "insort_left" 3
noncomputable def Zfj(_:Params):Obj:=cO [.str "insort_left" 218,.str "insort_left" 219,.str "/claim/cut.py" 220,.int 28 0,.int 4 0,.int 0 0,.int 1 0,.int 3 0,.ref 35,.bool true,.int 181 0,.ref 36,.none,.ref 37,.ref 38,.ref 39,.int 226 0,.int 28 0,.str "/claim/cut.py" 227]
noncomputable def ZcO(_:Params):Obj:=hO "insort_left" 3 (.ref 33) (.ref 34) "cpy313.bisect" 187 40
noncomputable def ZdM(_:Params):Obj:=tO [.int 0 229,.none]
noncomputable def Zfi(P:Params):Obj:=⟨(.type "dict"),none,(.dict (List.toArray [en P "key" 230 .none]) 1),List.toArray []⟩
noncomputable def Zfh(_:Params):Obj:=tO []
noncomputable def Zfg(_:Params):Obj:=fO []
noncomputable def Zff(_:Params):Obj:=tO [.str "a" 234,.str "x" 235,.str "lo" 236,.str "hi" 237,.str "key" 238,.str "mid" 239]
noncomputable def Zfe(_:Params):Obj:=tO []
noncomputable def Zfd(_:Params):Obj:=gO "bisect_left" 4
noncomputable def Zfc(_:Params):Obj:=cO [.str "bisect_left" 231,.str "bisect_left" 232,.str "/claim/cut.py" 233,.int 34 0,.int 4 0,.int 0 0,.int 1 0,.int 3 0,.ref 44,.bool true,.int 181 0,.ref 45,.none,.ref 46,.ref 47,.ref 48,.int 240 0,.int 34 0,.str "/claim/cut.py" 241]
noncomputable def Zdf(_:Params):Obj:=hO "bisect_left" 4 (.ref 42) (.ref 43) "cpy313.bisect" 187 49
noncomputable def Zfb(_:Params):Obj:=tO []
noncomputable def Zfa(_:Params):Obj:=fO []
noncomputable def ZeZ(_:Params):Obj:=tO [.str "want" 250,.str "got" 251,.str "ws" 252,.str "startpos" 253,.str "endpos" 254,.str "w" 255]
noncomputable def ZeY(_:Params):Obj:=tO []
noncomputable def ZeX(_:Params):Obj:=gO "_ellipsis_match" 7
noncomputable def ZeW(_:Params):Obj:=cO [.str "_ellipsis_match" 247,.str "_ellipsis_match" 248,.str "/claim/cut.py" 249,.int 56 0,.int 2 0,.int 0 0,.int 0 0,.int 3 0,.ref 51,.bool true,.int 181 0,.ref 52,.none,.ref 53,.ref 54,.ref 55,.int 256 0,.int 56 0,.str "/claim/cut.py" 257]
noncomputable def Zde(_:Params):Obj:=hO "_ellipsis_match" 7 .none .none "cpy313.doctest" 243 56
noncomputable def tree_p8(P:Params):BT:=(.node (boot_o_0 P) (.node (boot_o_1 P) (.node (o3_p8 P) (.node (boot_o_7 P) (.node (ZdP P) (lf (Zfq P)) (lf (Zfe P))) (.node (ZcP P) (lf (Zfk P)) (lf (ZeX P)))) (.node (ZhN P) (.node (ZfA P) (lf (Zfo P)) (lf (Zfb P))) (.node (Zfu P) (lf (Zfi P)) .nil))) (.node (boot_o_5 P) (.node (boot_o_9 P) (.node (ZfC P) (lf (ZdN P)) (lf (Zfc P))) (.node (Zfw P) (lf (ZcO P)) (lf (Zde P)))) (.node (ZhM P) (.node (Zfy P) (lf (Zfm P)) (lf (ZeZ P))) (.node (Zfs P) (lf (Zfg P)) .nil)))) (.node (boot_o_2 P) (.node (boot_o_4 P) (.node (boot_o_8 P) (.node (ZfD P) (lf (Zdg P)) (lf (Zfd P))) (.node (ZdO P) (lf (Zfj P)) (lf (ZeW P)))) (.node (o12_p8 P) (.node (Zfz P) (lf (Zfn P)) (lf (Zfa P))) (.node (Zft P) (lf (Zfh P)) .nil))) (.node (boot_o_6 P) (.node (boot_o_10 P) (.node (ZfB P) (lf (Zfp P)) (lf (Zdf P))) (.node (Zfv P) (lf (ZdM P)) .nil)) (.node (ZhL P) (.node (Zfx P) (lf (Zfl P)) (lf (ZeY P))) (.node (Zfr P) (lf (Zff P)) .nil)))))
noncomputable def o3_p9(P:Params):Obj:=⟨(.type "dict"),none,(.dict (List.toArray [en P "__name__" 165 (.str "cpy313.stringprep" 259),en P "__doc__" 166 .none,en P "__package__" 167 .none,en P "__loader__" 168 (.builtin "__main__.__loader__#opaque"),en P "__spec__" 169 .none,en P "__annotations__" 170 (.ref 6),en P "__builtins__" 171 (.ref 4),en P "__file__" 173 (.str "/claim/cut.py" 172),en P "__cached__" 174 .none,en P "insort_right" 201 (.ref 23),en P "bisect_right" 215 (.ref 32),en P "insort_left" 228 (.ref 41),en P "bisect_left" 242 (.ref 50),en P "ELLIPSIS_MARKER" 246 (.str "..." 245),en P "_ellipsis_match" 258 (.ref 57),en P "b1_set" 320 (.ref 65)]) 16),List.toArray []⟩
noncomputable def Zhi(_:Params):Obj:=⟨(.type "list"),none,(.seq (List.toArray [.int 173 261,.int 847 262,.int 6150 263,.int 6155 264,.int 6156 265,.int 6157 266,.int 8203 267,.int 8204 268,.int 8205 269,.int 8288 270,.int 65279 271]) 0),List.toArray []⟩
noncomputable def Zhh(_:Params):Obj:=⟨(.type "range"),none,(.fields (List.toArray [.int 65024 272,.int 65040 273,.int 1 274])),List.toArray []⟩
noncomputable def Zhg(_:Params):Obj:=⟨(.type "list"),none,(.seq (List.toArray [.int 65024 277,.int 65025 278,.int 65026 279,.int 65027 280,.int 65028 281,.int 65029 282,.int 65030 283,.int 65031 284,.int 65032 285,.int 65033 286,.int 65034 287,.int 65035 288,.int 65036 289,.int 65037 290,.int 65038 291,.int 65039 292]) 18),List.toArray []⟩
noncomputable def Zhf(_:Params):Obj:=⟨(.type "range_iterator"),none,(.fields (List.toArray [.int 65040 0,.int 0 0,.int 1 0])),List.toArray []⟩
noncomputable def Zhe(_:Params):Obj:=tO []
noncomputable def Zhd(_:Params):Obj:=⟨(.type "StopIteration"),none,(.fields (List.toArray [.ref 62,.none,.none,.none,.bool false,.none])),List.toArray []⟩
noncomputable def Zhc(_:Params):Obj:=⟨(.type "list"),none,(.seq (List.toArray [.int 173 261,.int 847 262,.int 6150 263,.int 6155 264,.int 6156 265,.int 6157 266,.int 8203 267,.int 8204 268,.int 8205 269,.int 8288 270,.int 65279 271,.int 65024 277,.int 65025 278,.int 65026 279,.int 65027 280,.int 65028 281,.int 65029 282,.int 65030 283,.int 65031 284,.int 65032 285,.int 65033 286,.int 65034 287,.int 65035 288,.int 65036 289,.int 65037 290,.int 65038 291,.int 65039 292]) 0),List.toArray []⟩
noncomputable def ZeV(P:Params):Obj:=⟨(.type "set"),none,(.set (List.toArray [(65024,(.int 65024 277)),(65025,(.int 65025 278)),(65026,(.int 65026 279)),(65027,(.int 65027 280)),(65028,(.int 65028 281)),(65029,(.int 65029 282)),(6150,(.int 6150 263)),(65030,(.int 65030 283)),(65031,(.int 65031 284)),(65032,(.int 65032 285)),(65033,(.int 65033 286)),(6155,(.int 6155 264)),(6156,(.int 6156 265)),(6157,(.int 6157 266)),(8203,(.int 8203 267)),(8204,(.int 8204 268)),(8205,(.int 8205 269)),(65034,(.int 65034 287)),(65035,(.int 65035 288)),(65036,(.int 65036 289)),(65037,(.int 65037 290)),(65038,(.int 65038 291)),(65039,(.int 65039 292)),(173,(.int 173 261)),(847,(.int 847 262)),(8288,(.int 8288 270)),(65279,(.int 65279 271))]) 29 ⟨127,List.toArray [0,1,2,3,4,5,6,7,8,9,10,11,12,13,14,15,16,17,18,19,20,21,22,45,79,96,127],List.toArray [],0,!P.followText "set-order", 2,true⟩),List.toArray []⟩
noncomputable def Zhb(_:Params):Obj:=⟨(.type "list_iterator"),none,(.fields (List.toArray [.none,.int 27 0])),List.toArray []⟩
noncomputable def Zha(_:Params):Obj:=tO []
noncomputable def ZgZ(_:Params):Obj:=⟨(.type "StopIteration"),none,(.fields (List.toArray [.ref 67,.none,.none,.none,.bool false,.none])),List.toArray []⟩
noncomputable def tree_p9(P:Params):BT:=(.node (boot_o_0 P) (.node (boot_o_1 P) (.node (o3_p9 P) (.node (boot_o_7 P) (.node (ZdP P) (.node (Zfq P) (lf (Zhd P)) .nil) (lf (Zfe P))) (.node (ZcP P) (lf (Zfk P)) (lf (ZeX P)))) (.node (ZhN P) (.node (ZfA P) (.node (Zfo P) (lf (Zha P)) .nil) (lf (Zfb P))) (.node (Zfu P) (lf (Zfi P)) (lf (Zhh P))))) (.node (boot_o_5 P) (.node (boot_o_9 P) (.node (ZfC P) (.node (ZdN P) (lf (ZeV P)) .nil) (lf (Zfc P))) (.node (Zfw P) (lf (ZcO P)) (lf (Zde P)))) (.node (ZhM P) (.node (Zfy P) (lf (Zfm P)) (lf (ZeZ P))) (.node (Zfs P) (lf (Zfg P)) (lf (Zhf P)))))) (.node (boot_o_2 P) (.node (boot_o_4 P) (.node (boot_o_8 P) (.node (ZfD P) (.node (Zdg P) (lf (Zhc P)) .nil) (lf (Zfd P))) (.node (ZdO P) (lf (Zfj P)) (lf (ZeW P)))) (.node (o12_p8 P) (.node (Zfz P) (.node (Zfn P) (lf (ZgZ P)) .nil) (lf (Zfa P))) (.node (Zft P) (lf (Zfh P)) (lf (Zhg P))))) (.node (boot_o_6 P) (.node (boot_o_10 P) (.node (ZfB P) (.node (Zfp P) (lf (Zhb P)) .nil) (lf (Zdf P))) (.node (Zfv P) (lf (ZdM P)) (lf (Zhi P)))) (.node (ZhL P) (.node (Zfx P) (lf (Zfl P)) (lf (ZeY P))) (.node (Zfr P) (lf (Zff P)) (lf (Zhe P)))))))
noncomputable def o3_p10(P:Params):Obj:=⟨(.type "dict"),none,(.dict (List.toArray [en P "__name__" 165 (.str "cpy313.stringprep" 259),en P "__doc__" 166 .none,en P "__package__" 167 .none,en P "__loader__" 168 (.builtin "__main__.__loader__#opaque"),en P "__spec__" 169 .none,en P "__annotations__" 170 (.ref 6),en P "__builtins__" 171 (.ref 4),en P "__file__" 173 (.str "/claim/cut.py" 172),en P "__cached__" 174 .none,en P "insort_right" 201 (.ref 23),en P "bisect_right" 215 (.ref 32),en P "insort_left" 228 (.ref 41),en P "bisect_left" 242 (.ref 50),en P "ELLIPSIS_MARKER" 246 (.str "..." 245),en P "_ellipsis_match" 258 (.ref 57),en P "b1_set" 320 (.ref 65),en P "in_table_b1" 327 (.ref 75)]) 17),List.toArray []⟩
noncomputable def ZkE(_:Params):Obj:=fO [.int 2 0,.int 0 0,.ref 22,.int 8 0,.int 0 0,.ref 31,.int 28 0,.int 0 0,.ref 40,.int 34 0,.int 0 0,.ref 49,.int 56 0,.int 0 0,.ref 56,.int 86 0,.int 0 0,.ref 74]
noncomputable def ZeU(_:Params):Obj:=tO []
noncomputable def ZeT(_:Params):Obj:=fO []
noncomputable def ZeS(_:Params):Obj:=tO [.str "code" 324]
noncomputable def ZeR(_:Params):Obj:=tO []
noncomputable def ZeQ(_:Params):Obj:=gO "in_table_b1" 10
noncomputable def ZeP(_:Params):Obj:=cO [.str "in_table_b1" 321,.str "in_table_b1" 322,.str "/claim/cut.py" 323,.int 86 0,.int 1 0,.int 0 0,.int 0 0,.int 3 0,.ref 69,.bool true,.int 181 0,.ref 70,.none,.ref 71,.ref 72,.ref 73,.int 325 0,.int 86 0,.str "/claim/cut.py" 326]
noncomputable def ZcV(_:Params):Obj:=hO "in_table_b1" 10 .none .none "cpy313.stringprep" 259 74
noncomputable def tree_p10(P:Params):BT:=(.node (boot_o_0 P) (.node (boot_o_1 P) (.node (o3_p10 P) (.node (boot_o_7 P) (.node (ZdP P) (.node (Zfq P) (lf (Zhd P)) .nil) (lf (Zfe P))) (.node (ZcP P) (.node (Zfk P) (lf (ZeS P)) .nil) (lf (ZeX P)))) (.node (ZhN P) (.node (ZfA P) (.node (Zfo P) (lf (Zha P)) .nil) (lf (Zfb P))) (.node (Zfu P) (.node (Zfi P) (lf (ZcV P)) .nil) (lf (Zhh P))))) (.node (boot_o_5 P) (.node (boot_o_9 P) (.node (ZfC P) (.node (ZdN P) (lf (ZeV P)) .nil) (lf (Zfc P))) (.node (Zfw P) (.node (ZcO P) (lf (ZeQ P)) .nil) (lf (Zde P)))) (.node (ZhM P) (.node (Zfy P) (.node (Zfm P) (lf (ZeU P)) .nil) (lf (ZeZ P))) (.node (Zfs P) (lf (Zfg P)) (lf (Zhf P)))))) (.node (boot_o_2 P) (.node (boot_o_4 P) (.node (boot_o_8 P) (.node (ZfD P) (.node (Zdg P) (lf (Zhc P)) .nil) (lf (Zfd P))) (.node (ZdO P) (.node (Zfj P) (lf (ZeR P)) .nil) (lf (ZeW P)))) (.node (ZkE P) (.node (Zfz P) (.node (Zfn P) (lf (ZgZ P)) .nil) (lf (Zfa P))) (.node (Zft P) (lf (Zfh P)) (lf (Zhg P))))) (.node (boot_o_6 P) (.node (boot_o_10 P) (.node (ZfB P) (.node (Zfp P) (lf (Zhb P)) .nil) (lf (Zdf P))) (.node (Zfv P) (.node (ZdM P) (lf (ZeP P)) .nil) (lf (Zhi P)))) (.node (ZhL P) (.node (Zfx P) (.node (Zfl P) (lf (ZeT P)) .nil) (lf (ZeY P))) (.node (Zfr P) (lf (Zff P)) (lf (Zhe P)))))))
noncomputable def heap_p10(P:Params):Heap:=⟨⟨[boot_o_0 P,boot_o_1 P,boot_o_2 P,o3_p10 P,boot_o_4 P,boot_o_5 P,boot_o_6 P,boot_o_7 P,boot_o_8 P,boot_o_9 P,boot_o_10 P,ZhN P,ZkE P,ZhM P,ZhL P,ZdP P,ZfD P,ZfC P,ZfB P,ZfA P,Zfz P,Zfy P,Zfx P,ZcP P,ZdO P,Zfw P,Zfv P,Zfu P,Zft P,Zfs P,Zfr P,Zfq P,Zdg P,ZdN P,Zfp P,Zfo P,Zfn P,Zfm P,Zfl P,Zfk P,Zfj P,ZcO P,ZdM P,Zfi P,Zfh P,Zfg P,Zff P,Zfe P,Zfd P,Zfc P,Zdf P,Zfb P,Zfa P,ZeZ P,ZeY P,ZeX P,ZeW P,Zde P,Zhi P,Zhh P,Zhg P,Zhf P,Zhe P,Zhd P,Zhc P,ZeV P,Zhb P,Zha P,ZgZ P,ZeU P,ZeT P,ZeS P,ZeR P,ZeQ P,ZeP P,ZcV P]⟩,Zgx⟩
noncomputable def o3_p11(P:Params):Obj:=⟨(.type "dict"),none,(.dict (List.toArray [en P "__name__" 165 (.str "cpy313.stringprep" 259),en P "__doc__" 166 .none,en P "__package__" 167 .none,en P "__loader__" 168 (.builtin "__main__.__loader__#opaque"),en P "__spec__" 169 .none,en P "__annotations__" 170 (.ref 6),en P "__builtins__" 171 (.ref 4),en P "__file__" 173 (.str "/claim/cut.py" 172),en P "__cached__" 174 .none,en P "insort_right" 201 (.ref 23),en P "bisect_right" 215 (.ref 32),en P "insort_left" 228 (.ref 41),en P "bisect_left" 242 (.ref 50),en P "ELLIPSIS_MARKER" 246 (.str "..." 245),en P "_ellipsis_match" 258 (.ref 57),en P "b1_set" 320 (.ref 65),en P "in_table_b1" 327 (.ref 75),en P "b3_exceptions" 2278 (.ref 76)]) 18),List.toArray []⟩
noncomputable def ZkD(_:Params):Obj:=b3Obj
noncomputable def ZkC(_:Params):Obj:=Qc 1
noncomputable def ZkB(_:Params):Obj:=Qc 2
noncomputable def ZkA(_:Params):Obj:=Qc 3
noncomputable def Zkz(_:Params):Obj:=Qc 4
noncomputable def Zky(_:Params):Obj:=Qc 5
noncomputable def Zkx(_:Params):Obj:=Qc 6
noncomputable def Zkw(_:Params):Obj:=Qc 7
noncomputable def Zkv(_:Params):Obj:=Qc 8
noncomputable def Zku(_:Params):Obj:=Qc 9
noncomputable def Zkt(_:Params):Obj:=Qc 10
noncomputable def Zks(_:Params):Obj:=Qc 11
noncomputable def Zkr(_:Params):Obj:=Qc 12
noncomputable def Zkq(_:Params):Obj:=Qc 13
noncomputable def Zkp(_:Params):Obj:=Qc 14
noncomputable def Zko(_:Params):Obj:=Qc 15
noncomputable def Zkn(_:Params):Obj:=Qc 16
noncomputable def Zkm(_:Params):Obj:=Qc 17
noncomputable def Zkl(_:Params):Obj:=Qc 18
noncomputable def Zkk(_:Params):Obj:=Qc 19
noncomputable def Zkj(_:Params):Obj:=Qc 20
noncomputable def Zki(_:Params):Obj:=Qc 21
noncomputable def Zkh(_:Params):Obj:=Qc 22
noncomputable def Zkg(_:Params):Obj:=Qc 23
noncomputable def Zic(_:Params):Obj:=Qc 24
noncomputable def Zib(_:Params):Obj:=Qc 25
noncomputable def Zia(_:Params):Obj:=Qc 26
noncomputable def ZhZ(_:Params):Obj:=Qc 27
noncomputable def ZhY(_:Params):Obj:=Qc 28
noncomputable def ZhX(_:Params):Obj:=Qc 29
noncomputable def ZhW(_:Params):Obj:=Qc 30
noncomputable def ZhV(_:Params):Obj:=Qc 31
noncomputable def ZhU(_:Params):Obj:=Qc 32
noncomputable def ZhT(_:Params):Obj:=Qc 33
noncomputable def ZhS(_:Params):Obj:=Qc 34
noncomputable def ZhR(_:Params):Obj:=Qc 35
noncomputable def ZhQ(_:Params):Obj:=Qc 36
noncomputable def ZhP(_:Params):Obj:=Qc 37
noncomputable def ZhO(_:Params):Obj:=Qc 38
noncomputable def tree_p11(P:Params):BT:=(.node (boot_o_0 P) (.node (boot_o_1 P) (.node (o3_p11 P) (.node (boot_o_7 P) (.node (ZdP P) (.node (Zfq P) (lf (Zhd P)) (lf (Zkk P))) (.node (Zfe P) (lf (ZkA P)) (lf (ZhR P)))) (.node (ZcP P) (.node (Zfk P) (lf (ZeS P)) (lf (ZhZ P))) (.node (ZeX P) (lf (Zks P)) .nil))) (.node (ZhN P) (.node (ZfA P) (.node (Zfo P) (lf (Zha P)) (lf (Zkg P))) (.node (Zfb P) (lf (Zkw P)) .nil)) (.node (Zfu P) (.node (Zfi P) (lf (ZcV P)) (lf (ZhV P))) (.node (Zhh P) (lf (Zko P)) .nil)))) (.node (boot_o_5 P) (.node (boot_o_9 P) (.node (ZfC P) (.node (ZdN P) (lf (ZeV P)) (lf (Zki P))) (.node (Zfc P) (lf (Zky P)) (lf (ZhP P)))) (.node (Zfw P) (.node (ZcO P) (lf (ZeQ P)) (lf (ZhX P))) (.node (Zde P) (lf (Zkq P)) .nil))) (.node (ZhM P) (.node (Zfy P) (.node (Zfm P) (lf (ZeU P)) (lf (Zib P))) (.node (ZeZ P) (lf (Zku P)) .nil)) (.node (Zfs P) (.node (Zfg P) (lf (ZkC P)) (lf (ZhT P))) (.node (Zhf P) (lf (Zkm P)) .nil))))) (.node (boot_o_2 P) (.node (boot_o_4 P) (.node (boot_o_8 P) (.node (ZfD P) (.node (Zdg P) (lf (Zhc P)) (lf (Zkj P))) (.node (Zfd P) (lf (Zkz P)) (lf (ZhQ P)))) (.node (ZdO P) (.node (Zfj P) (lf (ZeR P)) (lf (ZhY P))) (.node (ZeW P) (lf (Zkr P)) .nil))) (.node (ZkE P) (.node (Zfz P) (.node (Zfn P) (lf (ZgZ P)) (lf (Zic P))) (.node (Zfa P) (lf (Zkv P)) .nil)) (.node (Zft P) (.node (Zfh P) (lf (ZkD P)) (lf (ZhU P))) (.node (Zhg P) (lf (Zkn P)) .nil)))) (.node (boot_o_6 P) (.node (boot_o_10 P) (.node (ZfB P) (.node (Zfp P) (lf (Zhb P)) (lf (Zkh P))) (.node (Zdf P) (lf (Zkx P)) (lf (ZhO P)))) (.node (Zfv P) (.node (ZdM P) (lf (ZeP P)) (lf (ZhW P))) (.node (Zhi P) (lf (Zkp P)) .nil))) (.node (ZhL P) (.node (Zfx P) (.node (Zfl P) (lf (ZeT P)) (lf (Zia P))) (.node (ZeY P) (lf (Zkt P)) .nil)) (.node (Zfr P) (.node (Zff P) (lf (ZkB P)) (lf (ZhS P))) (.node (Zhe P) (lf (Zkl P)) .nil))))))
noncomputable def o3_p29(P:Params):Obj:=⟨(.type "dict"),none,(.dict (List.toArray [en P "__name__" 165 (.str "law_uk0019_01" 2305),en P "__doc__" 166 .none,en P "__package__" 167 .none,en P "__loader__" 168 (.builtin "__main__.__loader__#opaque"),en P "__spec__" 169 .none,en P "__annotations__" 170 (.ref 6),en P "__builtins__" 171 (.ref 4),en P "__file__" 173 (.str "/claim/cut.py" 172),en P "__cached__" 174 .none,en P "insort_right" 201 (.ref 23),en P "bisect_right" 215 (.ref 32),en P "insort_left" 228 (.ref 41),en P "bisect_left" 242 (.ref 50),en P "ELLIPSIS_MARKER" 246 (.str "..." 245),en P "_ellipsis_match" 258 (.ref 57),en P "b1_set" 320 (.ref 65),en P "in_table_b1" 327 (.ref 75),en P "b3_exceptions" 2278 (.ref 76),en P "map_table_b3" 2286 (.ref 121),en P "NT_OFFSET" 2290 (.int 256 2289),en P "ISTERMINAL" 2297 (.ref 128),en P "ISNONTERMINAL" 2304 (.ref 135),en P "_law_unseen" 2314 (.ref 142),en P "_law_beside" 2322 (.ref 149),en P "_law_form" 2331 (.ref 156),en P "_law_order" 2342 (.ref 163),en P "_law_typed" 2357 (.ref 170),en P "_law_prepared" 2367 (.ref 177),en P "_law_asked" 2377 (.ref 184),en P "_law_heavy" 2383 (.ref 189),en P "_law_told_of_dots" 2389 (.ref 194),en P "_law_laid" 2404 (.ref 201),en P "_law_by_wins" 2410 (.ref 206),en P "law" 2416 (.ref 211)]) 34),List.toArray []⟩
noncomputable def Zox(_:Params):Obj:=fO [.int 2 0,.int 0 0,.ref 22,.int 8 0,.int 0 0,.ref 31,.int 28 0,.int 0 0,.ref 40,.int 34 0,.int 0 0,.ref 49,.int 56 0,.int 0 0,.ref 56,.int 86 0,.int 0 0,.ref 74,.int 89 0,.int 0 0,.ref 120,.int 96 0,.int 0 0,.ref 127,.int 98 0,.int 0 0,.ref 134,.int 101 0,.int 0 0,.ref 141,.int 104 0,.int 0 0,.ref 148,.int 107 0,.int 0 0,.ref 155,.int 114 0,.int 0 0,.ref 162,.int 122 0,.int 0 0,.ref 169,.int 141 0,.int 0 0,.ref 176,.int 150 0,.int 0 0,.ref 183,.int 154 0,.int 0 0,.ref 188,.int 156 0,.int 0 0,.ref 193,.int 163 0,.int 0 0,.ref 200,.int 173 0,.int 0 0,.ref 205,.int 182 0,.int 0 0,.ref 210]
noncomputable def ZmV(_:Params):Obj:=tO []
noncomputable def ZmU(_:Params):Obj:=fO []
noncomputable def ZmT(_:Params):Obj:=tO [.str "code" 2282,.str "r" 2283]
noncomputable def ZmS(_:Params):Obj:=tO []
noncomputable def ZmR(_:Params):Obj:=gO "map_table_b3" 12
noncomputable def ZmQ(_:Params):Obj:=cO [.str "map_table_b3" 2279,.str "map_table_b3" 2280,.str "/claim/cut.py" 2281,.int 89 0,.int 1 0,.int 0 0,.int 0 0,.int 3 0,.ref 115,.bool true,.int 181 0,.ref 116,.none,.ref 117,.ref 118,.ref 119,.int 2284 0,.int 89 0,.str "/claim/cut.py" 2285]
noncomputable def Zew(_:Params):Obj:=hO "map_table_b3" 12 .none .none "cpy313.stringprep" 259 120
noncomputable def ZmP(_:Params):Obj:=tO []
noncomputable def ZmO(_:Params):Obj:=fO []
noncomputable def ZmN(_:Params):Obj:=tO [.str "x" 2294]
noncomputable def ZmM(_:Params):Obj:=tO []
noncomputable def ZmL(_:Params):Obj:=gO "ISTERMINAL" 15
noncomputable def ZmK(_:Params):Obj:=cO [.str "ISTERMINAL" 2291,.str "ISTERMINAL" 2292,.str "/claim/cut.py" 2293,.int 96 0,.int 1 0,.int 0 0,.int 0 0,.int 3 0,.ref 122,.bool true,.int 181 0,.ref 123,.none,.ref 124,.ref 125,.ref 126,.int 2295 0,.int 96 0,.str "/claim/cut.py" 2296]
noncomputable def Zdj(_:Params):Obj:=hO "ISTERMINAL" 15 .none .none "cpy313.token" 2287 127
noncomputable def ZmJ(_:Params):Obj:=tO []
noncomputable def ZmI(_:Params):Obj:=fO []
noncomputable def ZmH(_:Params):Obj:=tO [.str "x" 2301]
noncomputable def ZmG(_:Params):Obj:=tO []
noncomputable def ZmF(_:Params):Obj:=gO "ISNONTERMINAL" 16
noncomputable def ZmE(_:Params):Obj:=cO [.str "ISNONTERMINAL" 2298,.str "ISNONTERMINAL" 2299,.str "/claim/cut.py" 2300,.int 98 0,.int 1 0,.int 0 0,.int 0 0,.int 3 0,.ref 129,.bool true,.int 181 0,.ref 130,.none,.ref 131,.ref 132,.ref 133,.int 2302 0,.int 98 0,.str "/claim/cut.py" 2303]
noncomputable def Zdi(_:Params):Obj:=hO "ISNONTERMINAL" 16 .none .none "cpy313.token" 2287 134
noncomputable def ZmD(_:Params):Obj:=tO []
noncomputable def ZmC(_:Params):Obj:=fO []
noncomputable def ZmB(_:Params):Obj:=tO [.str "which" 2310,.str "signs" 2311]
noncomputable def ZmA(_:Params):Obj:=tO []
noncomputable def Zmz(_:Params):Obj:=gO "_law_unseen" 18
noncomputable def Zmy(_:Params):Obj:=cO [.str "_law_unseen" 2307,.str "_law_unseen" 2308,.str "/claim/cut.py" 2309,.int 101 0,.int 1 0,.int 0 0,.int 0 0,.int 3 0,.ref 136,.bool true,.int 181 0,.ref 137,.none,.ref 138,.ref 139,.ref 140,.int 2312 0,.int 101 0,.str "/claim/cut.py" 2313]
noncomputable def Zev(_:Params):Obj:=hO "_law_unseen" 18 .none .none "law_uk0019_01" 2305 141
noncomputable def Zmx(_:Params):Obj:=tO []
noncomputable def Zmw(_:Params):Obj:=fO []
noncomputable def Zmv(_:Params):Obj:=tO [.str "which" 2318,.str "signs" 2319]
noncomputable def Zmu(_:Params):Obj:=tO []
noncomputable def Zmt(_:Params):Obj:=gO "_law_beside" 19
noncomputable def Zms(_:Params):Obj:=cO [.str "_law_beside" 2315,.str "_law_beside" 2316,.str "/claim/cut.py" 2317,.int 104 0,.int 1 0,.int 0 0,.int 0 0,.int 3 0,.ref 143,.bool true,.int 181 0,.ref 144,.none,.ref 145,.ref 146,.ref 147,.int 2320 0,.int 104 0,.str "/claim/cut.py" 2321]
noncomputable def Zeu(_:Params):Obj:=hO "_law_beside" 19 .none .none "law_uk0019_01" 2305 148
noncomputable def Zmr(_:Params):Obj:=tO []
noncomputable def Zmq(_:Params):Obj:=fO []
noncomputable def Zmp(_:Params):Obj:=tO [.str "letter" 2326,.str "which" 2327,.str "starts" 2328]
noncomputable def Zmo(_:Params):Obj:=tO []
noncomputable def Zmn(_:Params):Obj:=gO "_law_form" 20
noncomputable def Zmm(_:Params):Obj:=cO [.str "_law_form" 2323,.str "_law_form" 2324,.str "/claim/cut.py" 2325,.int 107 0,.int 2 0,.int 0 0,.int 0 0,.int 3 0,.ref 150,.bool true,.int 181 0,.ref 151,.none,.ref 152,.ref 153,.ref 154,.int 2329 0,.int 107 0,.str "/claim/cut.py" 2330]
noncomputable def Zet(_:Params):Obj:=hO "_law_form" 20 .none .none "law_uk0019_01" 2305 155
noncomputable def Zml(_:Params):Obj:=tO []
noncomputable def Zmk(_:Params):Obj:=fO []
noncomputable def Zmj(_:Params):Obj:=tO [.str "cell" 2335,.str "pool" 2336,.str "rest" 2337,.str "order" 2338,.str "size" 2339]
noncomputable def Zmi(_:Params):Obj:=tO []
noncomputable def Zmh(_:Params):Obj:=gO "_law_order" 21
noncomputable def Zmg(_:Params):Obj:=cO [.str "_law_order" 2332,.str "_law_order" 2333,.str "/claim/cut.py" 2334,.int 114 0,.int 1 0,.int 0 0,.int 0 0,.int 3 0,.ref 157,.bool true,.int 181 0,.ref 158,.none,.ref 159,.ref 160,.ref 161,.int 2340 0,.int 114 0,.str "/claim/cut.py" 2341]
noncomputable def Zes(_:Params):Obj:=hO "_law_order" 21 .none .none "law_uk0019_01" 2305 162
noncomputable def Zmf(_:Params):Obj:=tO []
noncomputable def Zme(_:Params):Obj:=fO []
noncomputable def Zmd(_:Params):Obj:=tO [.str "order" 2346,.str "gone" 2347,.str "way" 2348,.str "place" 2349,.str "joint" 2350,.str "typed" 2351,.str "spot" 2352,.str "size" 2353,.str "piece" 2354]
noncomputable def Zmc(_:Params):Obj:=tO []
noncomputable def Zmb(_:Params):Obj:=gO "_law_typed" 22
noncomputable def Zma(_:Params):Obj:=cO [.str "_law_typed" 2343,.str "_law_typed" 2344,.str "/claim/cut.py" 2345,.int 122 0,.int 4 0,.int 0 0,.int 0 0,.int 3 0,.ref 164,.bool true,.int 181 0,.ref 165,.none,.ref 166,.ref 167,.ref 168,.int 2355 0,.int 122 0,.str "/claim/cut.py" 2356]
noncomputable def Zer(_:Params):Obj:=hO "_law_typed" 22 .none .none "law_uk0019_01" 2305 169
noncomputable def ZlZ(_:Params):Obj:=tO []
noncomputable def ZlY(_:Params):Obj:=fO []
noncomputable def ZlX(_:Params):Obj:=tO [.str "text" 2361,.str "out" 2362,.str "sign" 2363,.str "held" 2364]
noncomputable def ZlW(_:Params):Obj:=tO []
noncomputable def ZlV(_:Params):Obj:=gO "_law_prepared" 23
noncomputable def ZlU(_:Params):Obj:=cO [.str "_law_prepared" 2358,.str "_law_prepared" 2359,.str "/claim/cut.py" 2360,.int 141 0,.int 1 0,.int 0 0,.int 0 0,.int 3 0,.ref 171,.bool true,.int 181 0,.ref 172,.none,.ref 173,.ref 174,.ref 175,.int 2365 0,.int 141 0,.str "/claim/cut.py" 2366]
noncomputable def Zeq(_:Params):Obj:=hO "_law_prepared" 23 .none .none "law_uk0019_01" 2305 176
noncomputable def ZlT(_:Params):Obj:=tO []
noncomputable def ZlS(_:Params):Obj:=fO []
noncomputable def ZlR(_:Params):Obj:=tO [.str "want" 2371,.str "got" 2372,.str "said" 2373,.str "answer" 2374]
noncomputable def ZlQ(_:Params):Obj:=tO []
noncomputable def ZlP(_:Params):Obj:=gO "_law_asked" 24
noncomputable def ZlO(_:Params):Obj:=cO [.str "_law_asked" 2368,.str "_law_asked" 2369,.str "/claim/cut.py" 2370,.int 150 0,.int 3 0,.int 0 0,.int 0 0,.int 3 0,.ref 178,.bool true,.int 181 0,.ref 179,.none,.ref 180,.ref 181,.ref 182,.int 2375 0,.int 150 0,.str "/claim/cut.py" 2376]
noncomputable def Zbc(_:Params):Obj:=hO "_law_asked" 24 .none .none "law_uk0019_01" 2305 183
noncomputable def ZlN(_:Params):Obj:=tO []
noncomputable def ZlM(_:Params):Obj:=fO []
noncomputable def ZlL(_:Params):Obj:=gO "_law_heavy" 25
noncomputable def ZlK(_:Params):Obj:=cO [.str "_law_heavy" 2378,.str "_law_heavy" 2379,.str "/claim/cut.py" 2380,.int 154 0,.int 2 0,.int 0 0,.int 0 0,.int 3 0,.ref 185,.bool true,.int 181 0,.ref 186,.none,.none,.none,.ref 187,.int 2381 0,.int 154 0,.str "/claim/cut.py" 2382]
noncomputable def Zcz(_:Params):Obj:=hO "_law_heavy" 25 .none .none "law_uk0019_01" 2305 188
noncomputable def ZlJ(_:Params):Obj:=tO []
noncomputable def ZlI(_:Params):Obj:=fO []
noncomputable def ZlH(_:Params):Obj:=gO "_law_told_of_dots" 26
noncomputable def ZlG(_:Params):Obj:=cO [.str "_law_told_of_dots" 2384,.str "_law_told_of_dots" 2385,.str "/claim/cut.py" 2386,.int 156 0,.int 2 0,.int 0 0,.int 0 0,.int 3 0,.ref 190,.bool true,.int 181 0,.ref 191,.none,.none,.none,.ref 192,.int 2387 0,.int 156 0,.str "/claim/cut.py" 2388]
noncomputable def Zep(_:Params):Obj:=hO "_law_told_of_dots" 26 .none .none "law_uk0019_01" 2305 193
noncomputable def ZlF(_:Params):Obj:=tO []
noncomputable def o196_p29(_:Params):Obj:=fO []
noncomputable def ZlE(_:Params):Obj:=tO [.str "coming" 2393,.str "ahead" 2394,.str "weights" 2395,.str "by_left" 2396,.str "row" 2397,.str "done" 2398]
noncomputable def ZlD(_:Params):Obj:=tO [.str "ahead" 2399,.str "weights" 2400,.str "new" 2401]
noncomputable def ZlC(_:Params):Obj:=gO "_law_laid" 27
noncomputable def ZlB(_:Params):Obj:=cO [.str "_law_laid" 2390,.str "_law_laid" 2391,.str "/claim/cut.py" 2392,.int 163 0,.int 4 0,.int 0 0,.int 0 0,.int 3 0,.ref 195,.bool true,.int 181 0,.ref 196,.none,.ref 197,.ref 198,.ref 199,.int 2402 0,.int 163 0,.str "/claim/cut.py" 2403]
noncomputable def Zdh(_:Params):Obj:=hO "_law_laid" 27 .none .none "law_uk0019_01" 2305 200
noncomputable def ZlA(_:Params):Obj:=tO []
noncomputable def Zlz(_:Params):Obj:=fO []
noncomputable def Zly(_:Params):Obj:=gO "_law_by_wins" 28
noncomputable def Zlx(_:Params):Obj:=cO [.str "_law_by_wins" 2405,.str "_law_by_wins" 2406,.str "/claim/cut.py" 2407,.int 173 0,.int 3 0,.int 0 0,.int 0 0,.int 3 0,.ref 202,.bool true,.int 181 0,.ref 203,.none,.none,.none,.ref 204,.int 2408 0,.int 173 0,.str "/claim/cut.py" 2409]
noncomputable def Zeo(_:Params):Obj:=hO "_law_by_wins" 28 .none .none "law_uk0019_01" 2305 205
noncomputable def Zlw(_:Params):Obj:=tO []
noncomputable def o208_p29(_:Params):Obj:=fO []
noncomputable def Zlv(_:Params):Obj:=gO "law" 29
noncomputable def Zlu(_:Params):Obj:=cO [.str "law" 2411,.str "law" 2412,.str "/claim/cut.py" 2413,.int 182 0,.int 1 0,.int 0 0,.int 0 0,.int 3 0,.ref 207,.bool true,.int 181 0,.ref 208,.none,.none,.none,.ref 209,.int 2414 0,.int 182 0,.str "/claim/cut.py" 2415]
noncomputable def ZhK(_:Params):Obj:=hO "law" 29 .none .none "law_uk0019_01" 2305 210
noncomputable def Zlj(P:Params):BT:=(.node (boot_o_0 P) (.node (boot_o_1 P) (.node (o3_p29 P) (.node (boot_o_7 P) (.node (ZdP P) (.node (Zfq P) (.node (Zhd P) (lf (ZmK P)) (lf (ZlI P))) (.node (Zkk P) (lf (Zmj P)) .nil)) (.node (Zfe P) (.node (ZkA P) (lf (Zmx P)) (lf (Zlw P))) (.node (ZhR P) (lf (ZlV P)) .nil))) (.node (ZcP P) (.node (Zfk P) (.node (ZeS P) (lf (Zdi P)) (lf (ZlC P))) (.node (ZhZ P) (lf (Zmc P)) .nil)) (.node (ZeX P) (.node (Zks P) (lf (Zmq P)) .nil) (.node (ZmR P) (lf (ZlO P)) .nil)))) (.node (ZhN P) (.node (ZfA P) (.node (Zfo P) (.node (Zha P) (lf (ZmH P)) (lf (ZlF P))) (.node (Zkg P) (lf (Zes P)) .nil)) (.node (Zfb P) (.node (Zkw P) (lf (Zmt P)) (lf (ZhK P))) (.node (ZmV P) (lf (ZlS P)) .nil))) (.node (Zfu P) (.node (Zfi P) (.node (ZcV P) (lf (ZmA P)) (lf (Zlz P))) (.node (ZhV P) (lf (ZlZ P)) .nil)) (.node (Zhh P) (.node (Zko P) (lf (Zmm P)) .nil) (.node (ZmO P) (lf (ZlL P)) .nil))))) (.node (boot_o_5 P) (.node (boot_o_9 P) (.node (ZfC P) (.node (ZdN P) (.node (ZeV P) (lf (ZmJ P)) (lf (ZlG P))) (.node (Zki P) (lf (Zmh P)) .nil)) (.node (Zfc P) (.node (Zky P) (lf (Zmv P)) (lf (Zlv P))) (.node (ZhP P) (lf (Zeq P)) .nil))) (.node (Zfw P) (.node (ZcO P) (.node (ZeQ P) (lf (ZmC P)) (lf (Zdh P))) (.node (ZhX P) (lf (Zma P)) .nil)) (.node (Zde P) (.node (Zkq P) (lf (Zmo P)) .nil) (.node (Zew P) (lf (ZlN P)) .nil)))) (.node (ZhM P) (.node (Zfy P) (.node (Zfm P) (.node (ZeU P) (lf (ZmF P)) (lf (ZlE P))) (.node (Zib P) (lf (Zme P)) .nil)) (.node (ZeZ P) (.node (Zku P) (lf (Zeu P)) .nil) (.node (ZmT P) (lf (ZlQ P)) .nil))) (.node (Zfs P) (.node (Zfg P) (.node (ZkC P) (lf (Zmy P)) (lf (Zlx P))) (.node (ZhT P) (lf (ZlX P)) .nil)) (.node (Zhf P) (.node (Zkm P) (lf (Zml P)) .nil) (.node (ZmM P) (lf (Zcz P)) .nil)))))) (.node (boot_o_2 P) (.node (boot_o_4 P) (.node (boot_o_8 P) (.node (ZfD P) (.node (Zdg P) (.node (Zhc P) (lf (Zdj P)) (lf (ZlH P))) (.node (Zkj P) (lf (Zmi P)) .nil)) (.node (Zfd P) (.node (Zkz P) (lf (Zmw P)) (lf (o208_p29 P))) (.node (ZhQ P) (lf (ZlU P)) .nil))) (.node (ZdO P) (.node (Zfj P) (.node (ZeR P) (lf (ZmD P)) (lf (ZlB P))) (.node (ZhY P) (lf (Zmb P)) .nil)) (.node (ZeW P) (.node (Zkr P) (lf (Zmp P)) .nil) (.node (ZmQ P) (lf (Zbc P)) .nil)))) (.node (Zox P) (.node (Zfz P) (.node (Zfn P) (.node (ZgZ P) (lf (ZmG P)) (lf (o196_p29 P))) (.node (Zic P) (lf (Zmf P)) .nil)) (.node (Zfa P) (.node (Zkv P) (lf (Zms P)) .nil) (.node (ZmU P) (lf (ZlR P)) .nil))) (.node (Zft P) (.node (Zfh P) (.node (ZkD P) (lf (Zmz P)) (lf (Zly P))) (.node (ZhU P) (lf (ZlY P)) .nil)) (.node (Zhg P) (.node (Zkn P) (lf (Zet P)) .nil) (.node (ZmN P) (lf (ZlK P)) .nil))))) (.node (boot_o_6 P) (.node (boot_o_10 P) (.node (ZfB P) (.node (Zfp P) (.node (Zhb P) (lf (ZmI P)) (lf (Zep P))) (.node (Zkh P) (lf (Zmg P)) .nil)) (.node (Zdf P) (.node (Zkx P) (lf (Zmu P)) (lf (Zlu P))) (.node (ZhO P) (lf (ZlT P)) .nil))) (.node (Zfv P) (.node (ZdM P) (.node (ZeP P) (lf (ZmB P)) (lf (ZlA P))) (.node (ZhW P) (lf (Zer P)) .nil)) (.node (Zhi P) (.node (Zkp P) (lf (Zmn P)) .nil) (.node (ZmP P) (lf (ZlM P)) .nil)))) (.node (ZhL P) (.node (Zfx P) (.node (Zfl P) (.node (ZeT P) (lf (ZmE P)) (lf (ZlD P))) (.node (Zia P) (lf (Zmd P)) .nil)) (.node (ZeY P) (.node (Zkt P) (lf (Zmr P)) .nil) (.node (ZmS P) (lf (ZlP P)) .nil))) (.node (Zfr P) (.node (Zff P) (.node (ZkB P) (lf (Zev P)) (lf (Zeo P))) (.node (ZhS P) (lf (ZlW P)) .nil)) (.node (Zhe P) (.node (Zkl P) (lf (Zmk P)) .nil) (.node (ZmL P) (lf (ZlJ P)) .nil)))))))
end
set_option tactic.hygienic true
set_option tactic.hygienic false
section
noncomputable def bodyE:List Stmt:=behindTheImports pE
noncomputable def g1:List Stmt:=bodyE.take 9
noncomputable def g2:List Stmt:=(bodyE.drop 9).take 1
noncomputable def g3:List Stmt:=(bodyE.drop 10).take 1
noncomputable def g4:List Stmt:=(bodyE.drop 11).take 1
noncomputable def g5:List Stmt:=bodyE.drop 12
theorem ZnO:behindTheImports pE=g1++(g2++(g3++(g4++(g5++[])))):=by kernel_rfl!
noncomputable def q8:Pos:=⟨84,0,84,8⟩
noncomputable def q9:Pos:=⟨85,0,85,6⟩
noncomputable def q10:Pos:=⟨86,0,87,30⟩
noncomputable def q11:Pos:=⟨88,0,88,13⟩
noncomputable def q29:Pos:=⟨182,0,262,90⟩
section
noncomputable def Sa(w:World)(os:OsState):Shared:=⟨heap_a w.params,⟨[]⟩,boot_drawn,187,os⟩
noncomputable def Tb(w:World)(os:OsState):SharedT:=⟨tree_b w.params,15,Zgx,⟨[]⟩,boot_drawn,187,os⟩
noncomputable def T8(w:World)(os:OsState):SharedT:=⟨tree_p8 w.params,58,Zgx,⟨[]⟩,boot_drawn,261,os⟩
noncomputable def T9(w:World)(os:OsState):SharedT:=⟨tree_p9 w.params,69,Zgx,⟨[]⟩,boot_drawn,321,os⟩
noncomputable def T10(w:World)(os:OsState):SharedT:=⟨tree_p10 w.params,76,Zgx,⟨[]⟩,boot_drawn,328,os⟩
noncomputable def T11(w:World)(os:OsState):SharedT:=⟨tree_p11 w.params,115,Zgx,⟨[]⟩,boot_drawn,2279,os⟩
noncomputable def T29(w:World)(os:OsState):SharedT:=⟨Zlj w.params,212,Zgx,⟨[]⟩,boot_drawn,2417,os⟩
end
theorem pre_run(w:World):(fun os=>topGo treeTable pE w 11 Qx 12 ⟨boot_heap w.params,⟨[]⟩,boot_drawn,boot_toks,os⟩ (topStub pE))=fun os=>some (Sa w os,⟨denote treeTable cE,cE,p0,B0⟩):=by kernel_rfl!
theorem Zpv(w:World):(fun os=>segRun treeTable pE w 11 Qx 1 1 (Sa w os) (blockOf (behindTheImports pE) Qu cE p0 B0))=fun os=>some (.next,(Tb w os).abs,cE,p0):=by kernel_rfl!
theorem run1(w:World):(fun os=>segRunT treeTable pE w 11 Qx 1 233 (Tb w os) (piecesOf g1 Qu cE p0 B0))=fun os=>some (.next,T8 w os,cE,q8):=by kernel_rfl!
end
set_option tactic.hygienic true
set_option tactic.hygienic false
section
theorem run3(w:World):(fun os=>segRunT treeTable pE w 11 Qx 1 30 (T9 w os) (piecesOf g3 Qu cE q9 B0))=fun os=>some (.next,T10 w os,cE,q10):=by kernel_rfl!
theorem run5(w:World):(fun os=>segRunT treeTable pE w 11 Qx 1 502 (T11 w os) (piecesOf g5 Qu cE q11 B0))=fun os=>some (.next,T29 w os,cE,q29):=by kernel_rfl!
end
set_option tactic.hygienic true
section
section
theorem Zoo:segRunT treeTable=PySem.W.Fast.tw10110043849684766642 PySem.W.Fast.tw14364793385576792824:=by
 rw[PySem.W.Fast.te10110043849684766642,PySem.W.Fast.te14364793385576792824]
end
end
section
theorem run2_ff(w:World)(os:OsState):PySem.W.Fast.tw10110043849684766642 PySem.W.Fast.tw14364793385576792824 pE ((w.withFollow "set-order" false).withFollow "special-get-raises" false) 11 Qx 1 999 (T8 ((w.withFollow "set-order" false).withFollow "special-get-raises" false) os) (piecesOf g2 Qu cE q8 B0)=some (.next,T9 ((w.withFollow "set-order" false).withFollow "special-get-raises" false) os,cE,q9):=by kernel_rfl
theorem run2_ft(w:World)(os:OsState):PySem.W.Fast.tw10110043849684766642 PySem.W.Fast.tw14364793385576792824 pE ((w.withFollow "set-order" false).withFollow "special-get-raises" true) 11 Qx 1 999 (T8 ((w.withFollow "set-order" false).withFollow "special-get-raises" true) os) (piecesOf g2 Qu cE q8 B0)=some (.next,T9 ((w.withFollow "set-order" false).withFollow "special-get-raises" true) os,cE,q9):=by kernel_rfl
theorem run2_tf(w:World)(os:OsState):PySem.W.Fast.tw10110043849684766642 PySem.W.Fast.tw14364793385576792824 pE ((w.withFollow "set-order" true).withFollow "special-get-raises" false) 11 Qx 1 999 (T8 ((w.withFollow "set-order" true).withFollow "special-get-raises" false) os) (piecesOf g2 Qu cE q8 B0)=some (.next,T9 ((w.withFollow "set-order" true).withFollow "special-get-raises" false) os,cE,q9):=by kernel_rfl
theorem run2_tt(w:World)(os:OsState):PySem.W.Fast.tw10110043849684766642 PySem.W.Fast.tw14364793385576792824 pE ((w.withFollow "set-order" true).withFollow "special-get-raises" true) 11 Qx 1 999 (T8 ((w.withFollow "set-order" true).withFollow "special-get-raises" true) os) (piecesOf g2 Qu cE q8 B0)=some (.next,T9 ((w.withFollow "set-order" true).withFollow "special-get-raises" true) os,cE,q9):=by kernel_rfl
end
section
noncomputable def Zei:List Expr×Pos:=match pE.main.body[(11:Nat)]? with
 | some (.Assign ts _ q)=>(ts,q)
 | _=>default
theorem g4_eq:g4=[.Assign Zei.1 (.Dict Qf.1 Qf.2.1 Qf.2.2) Zei.2]:=by kernel_rfl
theorem zip_eq:(evalEachOpt Qf.1 Qu).zip ((evalEach Qf.2.1 Qu).map fun v=>do let x ← v;standAt Qf.2.2;pure x)=(b3A++b3B++b3C).map (itm Qf.2.2):=by kernel_rfl
theorem Zpz:b3A.length=17:=by decide +kernel
theorem Zpy:b3B.length=17 * 37:=by decide +kernel
theorem Ziy:b3C.length=4:=by decide +kernel
noncomputable def incr:List Int→Bool
 | a::b::r=>decide (a < b)&&incr (b::r)
 | _=>true
theorem ZfO:∀(l:List Int),incr l=true→l.Pairwise (· < ·)
 | [],_=>List.Pairwise.nil
 | [a],_=>by simp
 | a::b::r,h=>by
  unfold incr at h;refine Qe (Bool.and_eq_true_iff.mp h) fun h1 h2=>?_;have ih:=ZfO (b::r) h2;have hab:=of_decide_eq_true h1;refine List.Pairwise.cons (fun c hc=>?_) ih;rcases lmc hc with rfl | hc
  · exact hab
  · exact Int.lt_trans hab (List.rel_of_pairwise_cons ih hc)
theorem b3_incr:incr (hs (b3A++b3B++b3C))=true:=by decide +kernel
theorem b3_nd:(hs (b3A++b3B++b3C)).Nodup:=(ZfO _ b3_incr).imp (fun h=>Int.ne_of_lt h)
end
section
section
noncomputable def Zlt(P:Params):List Obj:=(heap_p10 P).objs.toList
noncomputable def S10(w:World)(os:OsState):Shared:=⟨hp (Zlt w.params),⟨[]⟩,boot_drawn,328,os⟩
noncomputable def D10(w:World)(os:OsState):Shared:=⟨hp (Zlt w.params++b3Obj::b3Subs),⟨[]⟩,boot_drawn,2278,os⟩
end
theorem S10_eq(w:World)(os:OsState):(T10 w os).abs=S10 w os:=by kernel_rfl
theorem len10(w:World):(Zlt w.params).length=76:=by kernel_rfl
theorem sw_eq:swapsWithSole Zei.1 (.Dict Qf.1 Qf.2.1 Qf.2.2) Zei.2.line Qu=pure false:=by kernel_rfl
theorem ss_eq:swappedStores Zei.1 (.Dict Qf.1 Qf.2.1 Qf.2.2) Qu=pure none:=by kernel_rfl
theorem Zok(w:World)(os:OsState)(p:Pos):R w 7 (D10 w os) p (assignStores Qu (.ref 76) none ((assignEach Zei.1 Qu).map (·.2))) (T11 w os).abs q11 .next:=fun K H gd lv=>by kernel_rfl
theorem disp_run(w:World)(os:OsState)(p:Pos):R w 12515 (S10 w os) p (dictDisplay ((b3A++b3B++b3C).map (itm Qf.2.2))) (D10 w os) Qf.2.2 (.ref 76):=by
 have h:=ZpL (w:=w) (gens:=⟨[]⟩) (drawn:=boot_drawn) (os:=os) (p:=p) Qf.2.2 (Zlt w.params) (by rw[len10];rfl) 37 b3A b3B b3C 328 Zpz Zpy (by rw[Ziy];decide) (fun e=>by have:=Ziy;rw[e] at this;cases this) b3_nd (by rw[Zpz,Zpy,Ziy];decide);rw[len10,Ziy] at h;exact h
theorem exec_run(w:World)(os:OsState)(p:Pos):R w 12524 (S10 w os) p (exec (.Assign Zei.1 (.Dict Qf.1 Qf.2.1 Qf.2.2) Zei.2) Qu) (T11 w os).abs q11 .next:=by
 rw[arm_exec_Assign];refine Zs (Zu (n:=1) (k:=12523) Zdv ?_) rfl;rw[sw_eq];refine Zs (Zu (n:=0) (k:=12523) ZQ ?_) rfl;rw[if_neg (by decide)];refine Zs (Zu (n:=12516) (k:=7) (a:=.ref 76) (s₁:=D10 w os) (p₁:=Qf.2.2) ?_ ?_) rfl
 · show R w _ _ _ (standAt Qf.2.2>>=fun υ=>dictDisplay ((evalEachOpt Qf.1 Qu).zip ((evalEach Qf.2.1 Qu).map fun v=>do let x ← v;standAt Qf.2.2;pure x))) _ _ _
   rw[zip_eq];exact Zs (Zu (n:=1) (k:=12515) Zdv (disp_run w os _)) rfl
 · rw[ss_eq];exact Zs (Zu (n:=0) (k:=7) ZQ (Zok w os _)) rfl
end
section
noncomputable def keepL:List Nat:=[29]
noncomputable def qV:Program:=PySem.W.view pE keepL
noncomputable def ZdQ:List Str:=["insort_right","bisect_right","insort_left","bisect_left","ELLIPSIS_MARKER","_ellipsis_match","b1_set","in_table_b1","b3_exceptions","map_table_b3","NT_OFFSET","ISTERMINAL","ISNONTERMINAL",
 "_law_unseen","_law_beside","_law_form","_law_order","_law_typed","_law_prepared","_law_asked","_law_heavy","_law_told_of_dots","_law_laid","_law_by_wins"]
abbrev rowE:RowW:=PySem.Challenge.rw_uk0019_01.row.toRowW
section
noncomputable def KF(P:Params):Frag:=(nat_lit 2,boot_o_2 P)::(nat_lit 3,o3_p29 P)::(nat_lit 4,boot_o_4 P)::(nat_lit 5,boot_o_5 P)::(nat_lit 6,boot_o_6 P)::(nat_lit 7,boot_o_7 P)::(nat_lit 8,boot_o_8 P)::(nat_lit 9,boot_o_9 P)::(nat_lit 10,boot_o_10 P)::(nat_lit 11,ZhN P)::(nat_lit 12,Zox P)::(nat_lit 13,ZhM P)::(nat_lit 14,ZhL P)::(nat_lit 15,ZdP P)::(nat_lit 16,ZfD P)::(nat_lit 17,ZfC P)::(nat_lit 18,ZfB P)::(nat_lit 19,ZfA P)::(nat_lit 20,Zfz P)::(nat_lit 21,Zfy P)::(nat_lit 22,Zfx P)::(nat_lit 23,ZcP P)::(nat_lit 24,ZdO P)::(nat_lit 25,Zfw P)::(nat_lit 26,Zfv P)::(nat_lit 27,Zfu P)::(nat_lit 28,Zft P)::(nat_lit 29,Zfs P)::(nat_lit 30,Zfr P)::(nat_lit 31,Zfq P)::(nat_lit 32,Zdg P)::(nat_lit 33,ZdN P)::(nat_lit 34,Zfp P)::(nat_lit 35,Zfo P)::(nat_lit 36,Zfn P)::(nat_lit 37,Zfm P)::(nat_lit 38,Zfl P)::(nat_lit 39,Zfk P)::(nat_lit 40,Zfj P)::(nat_lit 41,ZcO P)::(nat_lit 42,ZdM P)::(nat_lit 43,Zfi P)::(nat_lit 44,Zfh P)::(nat_lit 45,Zfg P)::(nat_lit 46,Zff P)::(nat_lit 47,Zfe P)::(nat_lit 48,Zfd P)::(nat_lit 49,Zfc P)::(nat_lit 50,Zdf P)::(nat_lit 51,Zfb P)::(nat_lit 52,Zfa P)::(nat_lit 53,ZeZ P)::(nat_lit 54,ZeY P)::(nat_lit 55,ZeX P)::(nat_lit 56,ZeW P)::(nat_lit 57,Zde P)::(nat_lit 58,Zhi P)::(nat_lit 59,Zhh P)::(nat_lit 60,Zhg P)::(nat_lit 61,Zhf P)::(nat_lit 62,Zhe P)::(nat_lit 63,Zhd P)::(nat_lit 64,Zhc P)::(nat_lit 65,ZeV P)::(nat_lit 66,Zhb P)::(nat_lit 67,Zha P)::(nat_lit 68,ZgZ P)::(nat_lit 69,ZeU P)::(nat_lit 70,ZeT P)::(nat_lit 71,ZeS P)::(nat_lit 72,ZeR P)::(nat_lit 73,ZeQ P)::(nat_lit 74,ZeP P)::(nat_lit 75,ZcV P)::(nat_lit 76,ZkD P)::(nat_lit 77,ZkC P)::(nat_lit 78,ZkB P)::(nat_lit 79,ZkA P)::(nat_lit 80,Zkz P)::(nat_lit 81,Zky P)::(nat_lit 82,Zkx P)::(nat_lit 83,Zkw P)::(nat_lit 84,Zkv P)::(nat_lit 85,Zku P)::(nat_lit 86,Zkt P)::(nat_lit 87,Zks P)::(nat_lit 88,Zkr P)::(nat_lit 89,Zkq P)::(nat_lit 90,Zkp P)::(nat_lit 91,Zko P)::(nat_lit 92,Zkn P)::(nat_lit 93,Zkm P)::(nat_lit 94,Zkl P)::(nat_lit 95,Zkk P)::(nat_lit 96,Zkj P)::(nat_lit 97,Zki P)::(nat_lit 98,Zkh P)::(nat_lit 99,Zkg P)::(nat_lit 100,Zic P)::(nat_lit 101,Zib P)::(nat_lit 102,Zia P)::(nat_lit 103,ZhZ P)::(nat_lit 104,ZhY P)::(nat_lit 105,ZhX P)::(nat_lit 106,ZhW P)::(nat_lit 107,ZhV P)::(nat_lit 108,ZhU P)::(nat_lit 109,ZhT P)::(nat_lit 110,ZhS P)::(nat_lit 111,ZhR P)::(nat_lit 112,ZhQ P)::(nat_lit 113,ZhP P)::(nat_lit 114,ZhO P)::(nat_lit 115,ZmV P)::(nat_lit 116,ZmU P)::(nat_lit 117,ZmT P)::(nat_lit 118,ZmS P)::(nat_lit 119,ZmR P)::(nat_lit 120,ZmQ P)::(nat_lit 121,Zew P)::(nat_lit 122,ZmP P)::(nat_lit 123,ZmO P)::(nat_lit 124,ZmN P)::(nat_lit 125,ZmM P)::(nat_lit 126,ZmL P)::(nat_lit 127,ZmK P)::(nat_lit 128,Zdj P)::(nat_lit 129,ZmJ P)::(nat_lit 130,ZmI P)::(nat_lit 131,ZmH P)::(nat_lit 132,ZmG P)::(nat_lit 133,ZmF P)::(nat_lit 134,ZmE P)::(nat_lit 135,Zdi P)::(nat_lit 136,ZmD P)::(nat_lit 137,ZmC P)::(nat_lit 138,ZmB P)::(nat_lit 139,ZmA P)::(nat_lit 140,Zmz P)::(nat_lit 141,Zmy P)::(nat_lit 142,Zev P)::(nat_lit 143,Zmx P)::(nat_lit 144,Zmw P)::(nat_lit 145,Zmv P)::(nat_lit 146,Zmu P)::(nat_lit 147,Zmt P)::(nat_lit 148,Zms P)::(nat_lit 149,Zeu P)::(nat_lit 150,Zmr P)::(nat_lit 151,Zmq P)::(nat_lit 152,Zmp P)::(nat_lit 153,Zmo P)::(nat_lit 154,Zmn P)::(nat_lit 155,Zmm P)::(nat_lit 156,Zet P)::(nat_lit 157,Zml P)::(nat_lit 158,Zmk P)::(nat_lit 159,Zmj P)::(nat_lit 160,Zmi P)::(nat_lit 161,Zmh P)::(nat_lit 162,Zmg P)::(nat_lit 163,Zes P)::(nat_lit 164,Zmf P)::(nat_lit 165,Zme P)::(nat_lit 166,Zmd P)::(nat_lit 167,Zmc P)::(nat_lit 168,Zmb P)::(nat_lit 169,Zma P)::(nat_lit 170,Zer P)::(nat_lit 171,ZlZ P)::(nat_lit 172,ZlY P)::(nat_lit 173,ZlX P)::(nat_lit 174,ZlW P)::(nat_lit 175,ZlV P)::(nat_lit 176,ZlU P)::(nat_lit 177,Zeq P)::(nat_lit 178,ZlT P)::(nat_lit 179,ZlS P)::(nat_lit 180,ZlR P)::(nat_lit 181,ZlQ P)::(nat_lit 182,ZlP P)::(nat_lit 183,ZlO P)::(nat_lit 184,Zbc P)::(nat_lit 185,ZlN P)::(nat_lit 186,ZlM P)::(nat_lit 187,ZlL P)::(nat_lit 188,ZlK P)::(nat_lit 189,Zcz P)::(nat_lit 190,ZlJ P)::(nat_lit 191,ZlI P)::(nat_lit 192,ZlH P)::(nat_lit 193,ZlG P)::(nat_lit 194,Zep P)::(nat_lit 195,ZlF P)::(nat_lit 197,ZlE P)::(nat_lit 198,ZlD P)::(nat_lit 199,ZlC P)::(nat_lit 200,ZlB P)::(nat_lit 201,Zdh P)::(nat_lit 202,ZlA P)::(nat_lit 203,Zlz P)::(nat_lit 204,Zly P)::(nat_lit 205,Zlx P)::(nat_lit 206,Zeo P)::(nat_lit 207,Zlw P)::(nat_lit 209,Zlv P)::(nat_lit 210,Zlu P)::(nat_lit 211,ZhK P)::[]
noncomputable def KA:List Addr:=[2,3,4,5,6,7,8,9,10,11,12,13,14,15,16,17,18,19,20,21,22,23,24,25,26,27,28,29,30,31,32,33,34,35,36,37,38,39,40,41,42,43,44,45,46,47,48,49,50,51,52,53,54,55,56,57,58,59,60,61,62,63,64,65,66,67,68,69,70,71,72,73,74,75,76,77,78,79,80,81,82,83,84,85,86,87,88,89,90,91,92,93,94,95,96,97,98,99,100,101,102,103,104,105,106,107,108,109,110,111,112,113,114,115,116,117,118,119,120,121,122,123,124,125,126,127,128,129,130,131,132,133,134,135,136,137,138,139,140,141,142,143,144,145,146,147,148,149,150,151,152,153,154,155,156,157,158,159,160,161,162,163,164,165,166,167,168,169,170,171,172,173,174,175,176,177,178,179,180,181,182,183,184,185,186,187,188,189,190,191,192,193,194,195,197,198,199,200,201,202,203,204,205,206,207,209,210,211]
theorem KA_eq:∀P,KA=(KF P).map (·.1):=fun P=>by kernel_rfl
noncomputable def HK0:Hook:=kmHook KF KA KA_eq [196,208]
noncomputable def HK:Hook where
 α:=HK0.α×Bool
 obs:=fun s=>(HK0.obs s,(s.heap.get? sysModules).isSome)
 val:=fun w=>(HK0.val w,true)
 says:=fun w h=>HK0.says w h∧∃o,h.get? sysModules=some o
 of:=fun w s x=>⟨HK0.of w s (Prod.mk.inj x).1,Option.isSome_iff_exists.mp (Prod.mk.inj x).2⟩
 keeps:=fun w h h' x k=>⟨HK0.keeps w h h' x.1 k,let ⟨o,e⟩:=x.2;⟨o,k _ _ e⟩⟩
noncomputable def XtE:Shared→Bool:=fun s=>xlAt qV [] s&&recOk (RowW.records rowE) s
end
theorem size_E(w:World):((boot_heap w.params).isNs mainGlobals&&(⟨[]⟩:Array GenState).size==0,(boot_heap w.params).objs.size,(boot_heap w.params).nsMap mainGlobals "__annotations__")=(true,11,Qx):=by kernel_rfl
theorem open_E:∀w:World,(fencedOpening treeTable pE w 20000).map (fun s=>(s.heap,s.gens,s.drawn,s.toks))=some (boot_heap w.params,Array.mk [],boot_drawn,boot_toks):=boot_open (by kernel_rfl) (by decide +kernel) (fun s=>by kernel_rfl)
noncomputable def HF(P:Params):Heap:=absHeap (Zlj P) 212 Zgx
theorem looks_E1(w:World):(fun os:OsState=>(staticsOk (importedModules pE.main.body) (boot_heap w.params) (HF w.params)&&namesBound pE (HF w.params)&&gensDone ⟨HF w.params,⟨[]⟩,boot_drawn,2417,os⟩&&laidKept (boot_heap w.params) (HF w.params)))=fun υ=>true:=by kernel_rfl
theorem looks_E2(w:World):(fun os:OsState=>HK.obs ⟨HF w.params,⟨[]⟩,boot_drawn,2417,os⟩)=fun υ=>HK.val w:=by kernel_rfl
theorem looks_E3(w:World):(fun os:OsState=>openSeen qV ZdQ (importedModules pE.main.body) XtE true ⟨HF w.params,⟨[]⟩,boot_drawn,2417,os⟩)=fun υ=>openGood qV ZdQ:=by kernel_rfl
end
section
theorem run2(w:World)(os:OsState):segRunT treeTable pE w 11 Qx 1 999 (T8 w os) (piecesOf g2 Qu cE q8 B0)=some (.next,T9 w os,cE,q9):=by
 rw[Zoo];revert os;revert w;refine byRow2 "set-order" (fun w=>?_) (fun w=>?_)
 · have h:∀v:World,(∀os,PySem.W.Fast.tw10110043849684766642 PySem.W.Fast.tw14364793385576792824 pE (v.withFollow "special-get-raises" false) 11 Qx 1 999 (T8 (v.withFollow "special-get-raises" false) os) (piecesOf g2 Qu cE q8 B0)=some (.next,T9 (v.withFollow "special-get-raises" false) os,cE,q9))→
    (∀os,PySem.W.Fast.tw10110043849684766642 PySem.W.Fast.tw14364793385576792824 pE (v.withFollow "special-get-raises" true) 11 Qx 1 999 (T8 (v.withFollow "special-get-raises" true) os) (piecesOf g2 Qu cE q8 B0)=some (.next,T9 (v.withFollow "special-get-raises" true) os,cE,q9))→
    ∀os,PySem.W.Fast.tw10110043849684766642 PySem.W.Fast.tw14364793385576792824 pE v 11 Qx 1 999 (T8 v os) (piecesOf g2 Qu cE q8 B0)=some (.next,T9 v os,cE,q9):=fun v h1 h2=>by
    have:=World.withFollow_self v "special-get-raises";cases hb:v.params.followText "special-get-raises" <;> rw[hb] at this
    · rw[this] at h1;exact h1
    · rw[this] at h2;exact h2
   exact h _ (run2_ff w) (run2_ft w)
 · have h:∀v:World,(∀os,PySem.W.Fast.tw10110043849684766642 PySem.W.Fast.tw14364793385576792824 pE (v.withFollow "special-get-raises" false) 11 Qx 1 999 (T8 (v.withFollow "special-get-raises" false) os) (piecesOf g2 Qu cE q8 B0)=some (.next,T9 (v.withFollow "special-get-raises" false) os,cE,q9))→
    (∀os,PySem.W.Fast.tw10110043849684766642 PySem.W.Fast.tw14364793385576792824 pE (v.withFollow "special-get-raises" true) 11 Qx 1 999 (T8 (v.withFollow "special-get-raises" true) os) (piecesOf g2 Qu cE q8 B0)=some (.next,T9 (v.withFollow "special-get-raises" true) os,cE,q9))→
    ∀os,PySem.W.Fast.tw10110043849684766642 PySem.W.Fast.tw14364793385576792824 pE v 11 Qx 1 999 (T8 v os) (piecesOf g2 Qu cE q8 B0)=some (.next,T9 v os,cE,q9):=fun v h1 h2=>by
    have:=World.withFollow_self v "special-get-raises";cases hb:v.params.followText "special-get-raises" <;> rw[hb] at this
    · rw[this] at h1;exact h1
    · rw[this] at h2;exact h2
   exact h _ (run2_tf w) (run2_tt w)
theorem fin_run(w:World)(os:OsState):topRun treeTable pE w 11 Qx 2 (T29 w os).abs ⟨doneF .next,cE,q29,B0⟩=some (T29 w os).abs:=by kernel_rfl
noncomputable def MM:Nat:=12+(1+(233+(999+(30+(12525+(502+2))))))
theorem run_E(w:World)(os:OsState):topRun treeTable pE w 11 Qx MM ⟨boot_heap w.params,⟨[]⟩,boot_drawn,boot_toks,os⟩ (topStub pE)=some ⟨HF w.params,⟨[]⟩,boot_drawn,2417,os⟩:=by
 have k0:=fin_run w os;have k5:=piece_app (env:=Qu) (q:=p0) (rest:=[]) (segRun_of (congrFun (run5 w) os)) (piece_nil k0);have h4:segRun treeTable pE w 11 Qx 1 12525 (T10 w os).abs (pieceOf (.Assign Zei.1 (.Dict Qf.1 Qf.2.1 Qf.2.2) Zei.2) Qu cE q10 [topFrame p0])=some (.next,(T11 w os).abs,cE,q11):=by
  rw[S10_eq];refine seg_go (n:=12524) (N:=1) (exec_run w os q10 doneF deadEnd id id) ?_;rfl
 have k4:=piece_cons (env:=Qu) (q:=p0) h4 k5;rw[show (Stmt.Assign Zei.1 (.Dict Qf.1 Qf.2.1 Qf.2.2) Zei.2)::(g5++[])=g4++(g5++[]) by rw[g4_eq];rfl] at k4;have k3:=piece_app (env:=Qu) (q:=p0) (segRun_of (congrFun (run3 w) os)) k4;have h2:=run2 w os;have k2:=piece_app (env:=Qu) (q:=p0) (segRun_of h2) k3;have k1:=piece_app (env:=Qu) (q:=p0) (segRun_of (congrFun (run1 w) os)) k2;rw[← ZnO] at k1;have kb:=piece_block (env:=Qu) (q:=p0) (congrFun (Zpv w) os) k1;have kp:=go_top (congrFun (pre_run w) os) kb;exact kp
theorem looks_E(w:World):(fun os=>((staticsOk (importedModules pE.main.body) (boot_heap w.params) (HF w.params)&&namesBound pE (HF w.params)&&gensDone ⟨HF w.params,⟨[]⟩,boot_drawn,2417,os⟩&&laidKept (boot_heap w.params) (HF w.params)),
 openSeen qV ZdQ (importedModules pE.main.body) XtE true ⟨HF w.params,⟨[]⟩,boot_drawn,2417,os⟩,HK.obs ⟨HF w.params,⟨[]⟩,boot_drawn,2417,os⟩))=fun υ=>(true,openGood qV ZdQ,HK.val w):=by
 funext os
 have e1:=congrFun (looks_E1 w) os;have e2:=congrFun (looks_E2 w) os;have e3:=congrFun (looks_E3 w) os;exact Prod.ext e1 (Prod.ext e3 e2)
theorem left_E:LeftO pE qV ZdQ XtE HK.obs HK.val 20000:=
 LeftO.of_pieces (H₀:=boot_heap) (H₁:=HF) (gs₀:=⟨[]⟩) (gs₁:=⟨[]⟩) (d₀:=boot_drawn) (d₁:=boot_drawn) (k₀:=boot_toks) (k₁:=2417) (m₀:=11) (ann:=Qx) (M:=MM) open_E size_E run_E (by rfl) looks_E
end
section
section
noncomputable def dLaw:DefRec:={name := "law", params:=(fnp 29).1,body:=(fnp 29).2.1,scope:=(fnp 29).2.2,pos:=⟨182,0,262,90⟩}
end
theorem def_law:defOf qV rowE.name=some (dLaw,[]):=by kernel_rfl
theorem the_law:rowE.prog.theDef rowE.name=some (dLaw.params,dLaw.body,dLaw.scope):=by kernel_rfl
theorem kw_law:kwWritten? dLaw.params.kwonlyargs dLaw.params.kw_defaults=some []:=by kernel_rfl
theorem bare_E:rowE.prog.bare:=⟨rfl,rfl,rfl,rfl,rfl,by decide +kernel⟩
theorem ok_E:(chainsOk qV&&opensWell rowE.prog&&(frees rowE&&rowE.within.isEmpty))=true:=by kernel_rfl
theorem prom_E:rowE.promised:=by w_witness2
section
noncomputable def LL:OpenRow:=OpenLaw.row PySem.Challenge.rw_uk0019_01
theorem lk1:(!(importedModules LL.prog.main.body).all cThrough.contains)=false:=by decide +kernel
theorem lk2:(["vars","dir","locals"]:List Str).filter (readsOut LL.prog LL.prog.main.body)=[]:=by decide +kernel
theorem lk3:noRoadLSs {strict:=false,foot:=none,bare:=[]} LL.prog.main.body=true:=by decide +kernel
theorem lk4:(sreFenced LL.prog.main&&((moduleNames LL.prog.main.body).isEmpty || lookedIntoSs (moduleNames LL.prog.main.body) LL.prog.main.body)&&namesResolve LL.prog&&LL.prog.boundNames.all (fun n=>!worldNames.contains n))=true:=by decide +kernel
theorem lk5:(namesMeet LL.prog LL.prog.main.body fun υ n=>attrL n)=true:=by decide +kernel
theorem sa1:looksOpen LL.prog=true:=by
 unfold looksOpen;rw[lk1,lk2,lk3,lk4,lk5];rfl
theorem sa3:LL.wellSaid=true:=by
 unfold OpenRow.wellSaid OpenRow.partSaid;rw[sa1];decide +kernel
end
theorem said_E:OpenLaw.wellSaid PySem.Challenge.rw_uk0019_01=true:=by
 unfold OpenLaw.wellSaid;iterate 18 refine look_both ?_ (by decide +kernel)
 exact sa3
theorem holds_E(call:WalkO qV ZdQ (XL qV []) HK.says rowE dLaw [] (fun f vs=>PySem.call f vs)):PySem.Challenge.rw_uk0019_01.Holds:=by
 refine holds_law said_E fun said=>?_;exact PySem.W.holds_open (r:=PySem.Challenge.rw_uk0019_01.row) (q:=qV) (loose:=ZdQ) (Xt:=XtE) (XP:=XL qV []) (Yf:=HK.obs) (Ya:=HK.val) (YP:=HK.says) (N:=20000) left_E HK.of HK.keeps (fun s e=>xl_of s (Bool.and_eq_true_iff.mp e).1) XL.keeps
  def_law the_law kw_law (fun s e=>recFacts_of (Bool.and_eq_true_iff.mp e).2) rfl said ok_E bare_E prom_E call
end
section
section
noncomputable def kwOf:PySem.Expr→PySem.Expr
 | .Call _ _ [⟨_,v,_⟩] _=>v
 | e=>e
noncomputable def lam3:PySem.Expr→Arguments×PySem.Expr×Scope
 | .Lambda a b s _=>(a,b,s)
 | e=>(⟨[],[],none,[],[],none,[]⟩,e,⟨.module,[],false,false,[]⟩)
noncomputable def atS(l:List Stmt)(i:Nat):Stmt:=l.getD i (.Pass ⟨0,0,0,0⟩)
noncomputable def Zpu:Stmt→List Stmt
 | .For _ _ b _ _=>b
 | .If _ b _ _=>b
 | _=>[]
noncomputable def elseS:Stmt→List Stmt
 | .If _ _ b _=>b
 | _=>[]
noncomputable def ZnI:Stmt→PySem.Expr
 | .Expr e _=>e
 | .Assign _ e _=>e
 | .If t _ _ _=>t
 | _=>.Tuple [] 0 ⟨0,0,0,0⟩
noncomputable def orE(i:Nat):PySem.Expr→PySem.Expr
 | .BoolOp _ vs _=>(match vs.getD i (.Tuple [] 0 ⟨0,0,0,0⟩) with
  | .Compare _ _ (r::_) _=>r
  | e=>e)
 | e=>e
noncomputable def lamSyn:Nat→Arguments×PySem.Expr×Scope
 | 0=>lam3 (kwOf (ZnI (atS (Zpu (atS (Zpu (atS (fnp 27).2.1 1)) 0)) 0)))
 | 1=>lam3 (kwOf (ZnI (atS (elseS (atS (Zpu (atS (fnp 27).2.1 1)) 0)) 0)))
 | 2=>lam3 (kwOf (ZnI (atS (Zpu (atS (fnp 29).2.1 26)) 0)))
 | 3=>lam3 (kwOf (ZnI (atS (Zpu (atS (fnp 29).2.1 26)) 1)))
 | 4=>lam3 (kwOf (orE 0 (ZnI (atS (fnp 29).2.1 27))))
 | _=>lam3 (kwOf (orE 1 (ZnI (atS (fnp 29).2.1 27))))
end
noncomputable def Qp(id:Nat):Str:=Str.ofString (if id < 2 then "_law_laid.<locals>.<lambda>" else "law.<locals>.<lambda>")
inductive MV where
 | none | bool (b:Bool) | int (i:Int) | str (s:List Nat) | ref (k:Nat) | glob (v:Value)
 deriving DecidableEq
inductive MO where
 | list (xs:List MV) | dict (es:List (List Nat×MV)) | cell (v:Option MV) | clos (id:Nat) (cl:List (Str×Nat)) (kc:Nat) | tab (P:Addr) (es:List ((Nat×Nat)×Nat)) | code (q:Str) | cellk (s:List Nat) (t:Nat)
noncomputable abbrev Hp:=List MO
noncomputable def mkS(s:List Nat):Str:=⟨s.toArray⟩
theorem mkS_cps(s:List Nat):(mkS s).cps.toList=s:=rfl
theorem Zhj(x:Str):mkS x.cps.toList=x:=rfl
theorem ZkJ{a b:List Nat}(h:mkS a=mkS b):a=b:=by have:=congrArg (fun x=>x.cps.toList) h;exact this
noncomputable def VR(ρ:List Addr):MV→Value→Prop
 | .none,v=>v=.none
 | .bool b,v=>v=.bool b
 | .int i,v=>∃t,v=.int i t
 | .str s,v=>∃t,v=.str (mkS s) t
 | .ref k,v=>∃a,ρ[k]?=some a∧v=.ref a
 | .glob g,v=>v=g
inductive VRs (ρ:List Addr):List MV→List Value→Prop where
 | nil:VRs ρ [] []
 | cons {x v xs vs}:VR ρ x v→VRs ρ xs vs→VRs ρ (x::xs) (v::vs)
theorem VRs.len{ρ:List Addr}{xs:List MV}{vs:List Value}(h:VRs ρ xs vs):vs.length=xs.length:=by
 induction h with
 | nil=>rfl
 | cons _ _ ih=>simp[ih]
theorem VRs.at{ρ:List Addr}{xs:List MV}{vs:List Value}(h:VRs ρ xs vs):∀(i:Nat) (x:MV),xs[i]?=some x→∃v,vs[i]?=some v∧VR ρ x v:=by
 induction h with
 | nil=>intro i x e;simp at e
 | cons hx _ ih=>
  intro i x e;cases i with
  | zero=>simp at e;subst e;exact ⟨_,rfl,hx⟩
  | succ i=>simp at e;obtain ⟨v,h1,h2⟩:=ih i x e;exact ⟨v,by simpa using h1,h2⟩
theorem VR.ext{ρ:List Addr}{x:MV}{v:Value}(h:VR ρ x v)(new:List Addr):VR (ρ++new) x v:=by
 cases x with
 | ref k=>
  refine ZJ h fun a h1 h2=>?_;exact Qd a (by rw[List.getElem?_append_left (lge h1).1];exact h1) h2
 | _=>exact h
theorem VRs.ext{ρ:List Addr}{xs:List MV}{vs:List Value}(h:VRs ρ xs vs)(new:List Addr):VRs (ρ++new) xs vs:=by
 induction h with
 | nil=>exact .nil
 | cons hx _ ih=>exact .cons (hx.ext new) ih
theorem VRs.append{ρ:List Addr}{xs ys:List MV}{vs ws:List Value}(h:VRs ρ xs vs)(h':VRs ρ ys ws):VRs ρ (xs++ys) (vs++ws):=by
 induction h with
 | nil=>exact h'
 | cons hx _ ih=>exact .cons hx ih
theorem VRs.take{ρ:List Addr}{xs:List MV}{vs:List Value}(h:VRs ρ xs vs):∀n,VRs ρ (xs.take n) (vs.take n):=by
 induction h with
 | nil=>intro n;simp;exact .nil
 | cons hx _ ih=>intro n;cases n with
  | zero=>exact .nil
  | succ n=>exact .cons hx (ih n)
theorem VRs.drop{ρ:List Addr}{xs:List MV}{vs:List Value}(h:VRs ρ xs vs):∀n,VRs ρ (xs.drop n) (vs.drop n):=by
 induction h with
 | nil=>intro n;simp;exact .nil
 | cons hx ht ih=>intro n;cases n with
  | zero=>exact .cons hx ht
  | succ n=>exact ih n
theorem VRs.reverse{ρ:List Addr}{xs:List MV}{vs:List Value}(h:VRs ρ xs vs):VRs ρ xs.reverse vs.reverse:=by
 induction h with
 | nil=>exact .nil
 | cons hx _ ih=>rw[List.reverse_cons,List.reverse_cons];exact ih.append (.cons hx .nil)
noncomputable def CR(ρ:List Addr)(cl:List (Str×Nat))(cs:List (Str×Addr)):Prop:=∀x k,cl.lookup x=some k→∃a,ρ[k]?=some a∧cs.lookup x=some a
theorem ZaX{ρ:List Addr}{k:Nat}{a:Addr}(h:ρ[k]?=some a)(new:List Addr):(ρ++new)[k]?=some a:=by
 rw[List.getElem?_append_left (lge h).1];exact h
theorem CR.ext{ρ:List Addr}{cl:List (Str×Nat)}{cs:List (Str×Addr)}(h:CR ρ cl cs)(new:List Addr):CR (ρ++new) cl cs:=fun x k e=>by
 refine ZJ (h x k e) fun a h1 h2=>?_;exact Qd a (ZaX h1 new) h2
noncomputable def DR(ρ:List Addr)(es:List (List Nat×MV))(f:Str→Option Value):Prop:=∀s,match es.lookup s with
 | none=>f (mkS s)=none
 | some x=>∃v,f (mkS s)=some v∧VR ρ x v
theorem DR.ext{ρ:List Addr}{es:List (List Nat×MV)}{f:Str→Option Value}(h:DR ρ es f)(new:List Addr):DR (ρ++new) es f:=fun s=>by
 have:=h s;split at this
 · exact this
 · rename_i x e;obtain ⟨v,h1,h2⟩:=this;exact ⟨v,h1,h2.ext new⟩
noncomputable def OR(w:World)(ρ:List Addr)(h:Heap)(a:Addr):MO→Prop
 | .list xs=>∃vs,h.PlainList a vs.toArray∧VRs ρ xs vs
 | .dict es=>∃kvs,h.DictOf (PySem.strKind pE w) a kvs∧DR ρ es (valueAt kvs)∧kvs.length≤es.length
 | .cell v=>∃v',h.IsCell a v'∧(match v,v' with | none,none=>True | some x,some y=>VR ρ x y | _,_=>False)
 | .clos id cl kc=>∃o fd c,h.get? a=some o∧o.cls=.type "function" ∧ o.data=.func fd∧fd.params=(lamSyn id).1∧fd.body=.expr (lamSyn id).2.1∧fd.scope=(lamSyn id).2.2∧fd.qualname=Qp id∧fd.globals=mainGlobals∧fd.builtins=builtinsNs∧
  fd.defaults=.none∧fd.kwdefaults=.none∧CR ρ cl fd.closure∧fd.code=.ref c∧ρ[kc]?=some c
 | .tab P es=>a=P∧∃ps,h.get? a=some (tabObj ps)∧TriplesOk ps.toList∧∀pos:Pos,match es.lookup (pos.line,pos.col) with
  | none=>codeAmong pos ps.toList=none
  | some k=>∃c,ρ[k]?=some c∧codeAmong pos ps.toList=some (.ref c)
 | .code q=>h.CodeRec (.ref a) q
 | .cellk s t=>h.IsCell a (some (.str (mkS s) t))
theorem OR.alive{w:World}{ρ:List Addr}{h:Heap}{a:Addr}{mo:MO}(x:OR w ρ h a mo):∃o,h.get? a=some o:=by
 cases mo with
 | list xs=>obtain ⟨vs,⟨n,h1⟩,_⟩:=x;exact ⟨_,h1⟩
 | dict es=>obtain ⟨kvs,⟨o,_,_,h1,_⟩,_⟩:=x;exact ⟨o,h1⟩
 | cell v=>obtain ⟨v',⟨o,h1,_⟩,_⟩:=x;exact ⟨o,h1⟩
 | clos=>obtain ⟨o,_,_,h1,_⟩:=x;exact ⟨o,h1⟩
 | tab P q=>obtain ⟨_,ps,h1,_⟩:=x;exact ⟨_,h1⟩
 | code q=>obtain ⟨c',o,vs,t,e,h1,h2⟩:=x;cases e;exact ⟨o,h1⟩
 | cellk s t=>obtain ⟨o,h1,_⟩:=x;exact ⟨o,h1⟩
theorem OR.keep{w:World}{ρ:List Addr}{h h':Heap}{a:Addr}{mo:MO}(x:OR w ρ h a mo)(k:h'.get? a=h.get? a):OR w ρ h' a mo:=by
 cases mo with
 | list xs=>obtain ⟨vs,⟨n,h1⟩,y⟩:=x;exact ⟨vs,⟨n,k.trans h1⟩,y⟩
 | dict es=>
  refine ZgO x fun kvs yq y z=>?_;refine x3_2 yq fun o es' ep h1 r=>?_;exact ZnY kvs ⟨o,es',ep,k.trans h1,r⟩ y z
 | cell v=>obtain ⟨v',⟨o,h1,r⟩,y⟩:=x;exact ⟨v',⟨o,k.trans h1,r⟩,y⟩
 | clos id cl kc=>
  refine x3_2 x fun o fd c h1 r=>?_;exact p3_2 o fd c (k.trans h1) r
 | tab P q=>obtain ⟨e,ps,h1,h2⟩:=x;exact ⟨e,ps,k.trans h1,h2⟩
 | code q=>obtain ⟨c',o,vs,t,e,h1,h2⟩:=x;cases e;exact ⟨a,o,vs,t,rfl,k.trans h1,h2⟩
 | cellk s t=>obtain ⟨o,h1,r⟩:=x;exact ⟨o,k.trans h1,r⟩
theorem OR.ext{w:World}{ρ:List Addr}{h:Heap}{a:Addr}{mo:MO}(x:OR w ρ h a mo)(new:List Addr):OR w (ρ++new) h a mo:=by
 cases mo with
 | list xs=>obtain ⟨vs,h1,y⟩:=x;exact ⟨vs,h1,y.ext new⟩
 | dict es=>obtain ⟨f,h1,y,z⟩:=x;exact ⟨f,h1,y.ext new,z⟩
 | cell v=>
  refine ZJ x fun v' h1 y=>?_;refine Qd v' h1 ?_;cases v<;>cases v'<;>first | exact y | exact VR.ext y new
 | clos id cl kc=>
  obtain ⟨o,fd,c,h1,h2,h3,h4,h5,h6,h7,h8,h9,h10,h11,h12,h13,h14⟩:=x;exact ⟨o,fd,c,h1,h2,h3,h4,h5,h6,h7,h8,h9,h10,h11,h12.ext new,h13,ZaX h14 new⟩
 | tab P q=>
  obtain ⟨e,ps,h1,h2,h3⟩:=x;refine ⟨e,ps,h1,h2,fun pos=>?_⟩;have:=h3 pos;split at this
  · exact this
  · obtain ⟨c,e1,e2⟩:=this;exact ⟨c,ZaX e1 new,e2⟩
 | code q=>exact x
 | cellk s t=>exact x
theorem Zbe{l:List Addr}(nd:l.Nodup){i j:Nat}{a:Addr}(h1:l[i]?=some a)(h2:l[j]?=some a):i=j:=by
 obtain ⟨hi,e1⟩:=lge h1;obtain ⟨hj,e2⟩:=lge h2;have p:=List.pairwise_iff_getElem.mp nd;rcases Nat.lt_trichotomy i j with h | h | h
 · exact absurd (e1.trans e2.symm) (p i j hi hj h)
 · exact h
 · exact absurd (e2.trans e1.symm) (p j i hj hi h)
structure Rel(w:World)(g:Heap)(ρ:List Addr)(hp:Hp)(h:Heap):Prop where
 base:∀b o,g.get? b=some o→h.get? b=some o
 len:ρ.length=hp.length
 obj:∀(k:Nat) (mo:MO) (a:Addr),hp[k]?=some mo→ρ[k]?=some a→OR w ρ h a mo
 nd:ρ.Nodup
 off:∀a∈ρ,g.get? a=none
structure Post(w:World)(g:Heap)(ρ:List Addr)(h:Heap)(ρ':List Addr)(hp':Hp)(h':Heap):Prop where
 rel:Rel w g ρ' hp' h'
 ext:∃new,ρ'=ρ++new
 fresh:∀a∈ρ',a∉ρ→h.get? a=none
 keep:∀b o,b∉ρ→h.get? b=some o→h'.get? b=some o
section
variable {w:World} {g:Heap} {ρ ρ' ρ'':List Addr} {hp hp' hp'':Hp} {h h' h'':Heap}
theorem Rel.post(R:Rel w g ρ hp h):Post w g ρ h ρ hp h:=⟨R,⟨[],(List.append_nil _).symm⟩,fun a h1 h2=>absurd h1 h2,fun υ υ υ e=>e⟩
theorem Rel.at(R:Rel w g ρ hp h){k:Nat}{mo:MO}(e:hp[k]?=some mo):∃a,ρ[k]?=some a∧OR w ρ h a mo:=by
 obtain ⟨hk,_⟩:=lge e;have hk':k < ρ.length:=by rw[R.len];exact hk
 exact Qd (ρ[k]) (List.getElem?_eq_getElem hk') (R.obj k mo _ e (List.getElem?_eq_getElem hk'))
theorem Post.trans(P:Post w g ρ h ρ' hp' h')(P':Post w g ρ' h' ρ'' hp'' h''):Post w g ρ h ρ'' hp'' h'':=by
 refine ZW P.ext fun n1 e1=>?_;refine ZW P'.ext fun n2 e2=>?_;refine ⟨P'.rel,⟨n1++n2,by rw[e2,e1,List.append_assoc]⟩,fun a ha hn=>?_,fun b o hb e=>?_⟩
 · by_cases hm:a∈ρ'
   · exact P.fresh a hm hn
   · have:=P'.fresh a ha hm;cases q:h.get? a with
     | none=>rfl
     | some o=>rw[P.keep a o hn q] at this;cases this
 · refine P'.keep b o (fun hm=>?_) (P.keep b o hb e);have:=P.fresh b hm hb;rw[this] at e;cases e
theorem Rel.keep(R:Rel w g ρ hp h)(k:∀b o,h.get? b=some o→h'.get? b=some o):Post w g ρ h ρ hp h':=
 ⟨⟨fun b o e=>k b o (R.base b o e),R.len,fun i mo a e1 e2=>by
  have x:=R.obj i mo a e1 e2;refine ZW x.alive fun o ho=>?_;exact x.keep ((k a o ho).trans ho.symm),R.nd,R.off⟩,⟨[],(List.append_nil _).symm⟩,fun a h1 h2=>absurd h1 h2,fun b o υ e=>k b o e⟩
theorem Rel.alloc(R:Rel w g ρ hp h){a:Addr}{mo:MO}(hn:h.get? a=none)(k:∀b o,h.get? b=some o→h'.get? b=some o)(x:OR w (ρ++[a]) h' a mo):Post w g ρ h (ρ++[a]) (hp++[mo]) h':=by
 have hnot:a∉ρ:=fun hm=>by
  obtain ⟨i,hi,rfl⟩:=List.mem_iff_getElem.mp hm;have hi':i < hp.length:=by rw[← R.len];exact hi
  obtain ⟨o,ho⟩:=(R.obj i hp[i] ρ[i] (List.getElem?_eq_getElem hi') (List.getElem?_eq_getElem hi)).alive;rw[hn] at ho;cases ho
 refine ⟨⟨fun b o e=>k b o (R.base b o e),by simp[R.len],fun i mo' a' e1 e2=>?_,?_,fun b hb=>?_⟩,⟨[a],rfl⟩,fun b hb hnb=>?_,fun b o υ e=>k b o e⟩
 · by_cases hi:i < hp.length
   · rw[List.getElem?_append_left hi] at e1;rw[List.getElem?_append_left (by rw[R.len];exact hi)] at e2;have y:=R.obj i mo' a' e1 e2;refine ZW y.alive fun o ho=>?_;exact (y.ext [a]).keep ((k a' o ho).trans ho.symm)
   · rw[List.getElem?_append_right (by lia)] at e1;rw[List.getElem?_append_right (by rw[R.len];lia)] at e2;rw[R.len] at e2;obtain ⟨hz,rfl⟩:=lge e1;have h0:i - hp.length=0:=by simpa using hz
     simp only[h0] at e2 ⊢;simp at e2 ⊢;subst e2;exact x
 · rw[List.nodup_append];exact ZnZ R.nd (by simp) (fun b hb c hc e=>by rw[lms hc] at e;exact hnot (e▸hb))
 · rcases List.mem_append.mp hb with hb | hb
   · exact R.off b hb
   · rw[lms hb];cases q:g.get? a with
     | none=>rfl
     | some o=>rw[R.base a o q] at hn;cases hn
 · rcases List.mem_append.mp hb with hb | hb
   · exact absurd hb hnb
   · rw[lms hb];exact hn
theorem Rel.update(R:Rel w g ρ hp h){k:Nat}{a:Addr}{mo:MO}(ha:ρ[k]?=some a)(hs:Heap.SameBut a h h')(x:OR w ρ h' a mo):Post w g ρ h ρ (hp.set k mo) h':=by
 have hm:a∈ρ:=List.mem_of_getElem? ha;have kk:∀b o,b∉ρ→h.get? b=some o→h'.get? b=some o:=fun b o hb e=>(hs.2 b (fun z=>hb (z▸hm))).trans e;refine ⟨⟨fun b o e=>(hs.2 b (fun z=>by rw[z,R.off a hm] at e;cases e)).trans (R.base b o e),by simp[R.len],fun i mo' a' e1 e2=>?_,R.nd,R.off⟩,⟨[],(List.append_nil _).symm⟩,fun a h1 h2=>absurd h1 h2,kk⟩;by_cases hi:i=k
 · subst hi;rw[ha] at e2;cases e2;rw[List.getElem?_set_self (by rw[← R.len];exact (lge ha).1)] at e1;cases e1;exact x
 · rw[List.getElem?_set_ne (Ne.symm hi)] at e1;have y:=R.obj i mo' a' e1 e2;have hne:a'≠a:=fun z=>by
    subst z;exact hi (Zbe R.nd e2 ha)
   exact y.keep (hs.2 a' hne)
theorem Post.notin(P:Post w g ρ h ρ' hp' h'){L:Addr}{o:Obj}(hL:L∉ρ)(ho:h.get? L=some o):L∉ρ':=fun hm=>by
 have:=P.fresh L hm hL;rw[ho] at this;cases this
end
end
section
variable {β:Type} {r:β} {G:Prop}
theorem jV{o:Option ((MV)×Hp)}{F:(MV)→Hp→Option β}(f:∀v h,o=some (v,h)→F v h=some r→G)(q:(match (generalizing:=false) o with | some (v,h)=>F v h | none=>none)=some r):G:=by
 cases o with
 | none=>exact nn q
 | some m1=>
  cases m1 with
  | mk v h=>
   exact f v h rfl q
theorem jB{o:Option ((Bool)×Hp)}{F:(Bool)→Hp→Option β}(f:∀v h,o=some (v,h)→F v h=some r→G)(q:(match (generalizing:=false) o with | some (v,h)=>F v h | none=>none)=some r):G:=by
 cases o with
 | none=>exact nn q
 | some m1=>
  cases m1 with
  | mk v h=>
   exact f v h rfl q
theorem jA{o:Option ((List MV)×Hp)}{F:(List MV)→Hp→Option β}(f:∀v h,o=some (v,h)→F v h=some r→G)(q:(match (generalizing:=false) o with | some (v,h)=>F v h | none=>none)=some r):G:=by
 cases o with
 | none=>exact nn q
 | some m1=>
  cases m1 with
  | mk v h=>
   exact f v h rfl q
theorem jP{o:Option ((Option Int)×Hp)}{F:(Option Int)→Hp→Option β}(f:∀v h,o=some (v,h)→F v h=some r→G)(q:(match (generalizing:=false) o with | some (v,h)=>F v h | none=>none)=some r):G:=by
 cases o with
 | none=>exact nn q
 | some m1=>
  cases m1 with
  | mk v h=>
   exact f v h rfl q
theorem jK{o:Option ((List (List Nat×MV))×Hp)}{F:(List (List Nat×MV))→Hp→Option β}(f:∀v h,o=some (v,h)→F v h=some r→G)(q:(match (generalizing:=false) o with | some (v,h)=>F v h | none=>none)=some r):G:=by
 cases o with
 | none=>exact nn q
 | some m1=>
  cases m1 with
  | mk v h=>
   exact f v h rfl q
theorem jL{o:Option ((List (Option MV))×Hp)}{F:(List (Option MV))→Hp→Option β}(f:∀v h,o=some (v,h)→F v h=some r→G)(q:(match (generalizing:=false) o with | some (v,h)=>F v h | none=>none)=some r):G:=by
 cases o with
 | none=>exact nn q
 | some m1=>
  cases m1 with
  | mk v h=>
   exact f v h rfl q
theorem jH{o:Option (Hp)}{F:(Hp)→Option β}(f:∀v,o=some v→F v=some r→G)(q:(match (generalizing:=false) o with | some v=>F v | none=>none)=some r):G:=by
 cases o with
 | none=>exact nn q
 | some v=>
  exact f v rfl q
theorem jM{o:Option (MV)}{F:(MV)→Option β}(f:∀v,o=some v→F v=some r→G)(q:(match (generalizing:=false) o with | some v=>F v | none=>none)=some r):G:=by
 cases o with
 | none=>exact nn q
 | some v=>
  exact f v rfl q
theorem jC{o:Option (Bool)}{F:(Bool)→Option β}(f:∀v,o=some v→F v=some r→G)(q:(match (generalizing:=false) o with | some v=>F v | none=>none)=some r):G:=by
 cases o with
 | none=>exact nn q
 | some v=>
  exact f v rfl q
theorem jN{o:Option (List Int)}{F:(List Int)→Option β}(f:∀v,o=some v→F v=some r→G)(q:(match (generalizing:=false) o with | some v=>F v | none=>none)=some r):G:=by
 cases o with
 | none=>exact nn q
 | some v=>
  exact f v rfl q
theorem jE{o:Option (List Bool)}{F:(List Bool)→Option β}(f:∀v,o=some v→F v=some r→G)(q:(match (generalizing:=false) o with | some v=>F v | none=>none)=some r):G:=by
 cases o with
 | none=>exact nn q
 | some v=>
  exact f v rfl q
theorem iJ{o:Option (List PyData)}{F:(List PyData)→Option β}(q:(match o with | some v=>F v | none=>none)=some r)(f:∀v,o=some v→F v=some r→G):G:=by
 cases o with
 | none=>exact nn q
 | some v=>
  exact f v rfl q
theorem jQ{o:Option (Nat)}{F:(Nat)→Option β}(f:∀v,o=some v→F v=some r→G)(q:(match (generalizing:=false) o with | some v=>F v | none=>none)=some r):G:=by
 cases o with
 | none=>exact nn q
 | some v=>
  exact f v rfl q
theorem iI{c:Prop}{_:Decidable c}{a:Option β}(q:(if c then a else none)=some r)(f:c→a=some r→G):G:=
 if h:c then f h ((if_pos h).symm.trans q) else nn ((if_neg h).symm.trans q)
theorem jI{c:Prop}{_:Decidable c}{a:Option β}(f:c→a=some r→G)(q:(if c then a else none)=some r):G:=iI q f
theorem iS{α β:Type}{G:α→β→Prop}{a a':α}{h h':β}(q:some (a,h)=some (a',h'))(f:G a h):G a' h':=oi2 q fun e1 e2=>e1▸e2▸f
theorem iT{α β γ:Type}{G:α→β→γ→Prop}{a a':α}{b b':β}{h h':γ}(q:some (a,b,h)=some (a',b',h'))(f:G a b h):G a' b' h':=oi3 q fun e1 e2 e3=>e1▸e2▸e3▸f
theorem iW{o:Option MO}{F:List MV→Option β}(q:(match o with | some (.list xs)=>F xs | _=>none)=some r)(f:∀xs,o=some (.list xs)→F xs=some r→G):G:=by
 cases o with
 | none=>exact nn q
 | some m1=>
  cases m1 with
  | list xs=>
   exact f xs rfl q
  | _=>exact nn q
theorem jW{o:Option MO}{F:List MV→Option β}(f:∀xs,o=some (.list xs)→F xs=some r→G)(q:(match (generalizing:=false) o with | some (.list xs)=>F xs | _=>none)=some r):G:=iW q f
theorem iW2{o:Option MO}{o1:Option MO}{F:List MV→List MV→Option β}(q:(match o,o1 with | some (.list xs),some (.list ys)=>F xs ys | _,_=>none)=some r)(f:∀xs ys,o=some (.list xs)→o1=some (.list ys)→F xs ys=some r→G):G:=by
 cases o with
 | none=>exact nn q
 | some m1=>
  cases m1 with
  | list xs=>
   cases o1 with
   | none=>exact nn q
   | some m2=>
    cases m2 with
    | list ys=>
     exact f xs ys rfl rfl q
    | _=>exact nn q
  | _=>exact nn q
theorem jW2{o:Option MO}{o1:Option MO}{F:List MV→List MV→Option β}(f:∀xs ys,o=some (.list xs)→o1=some (.list ys)→F xs ys=some r→G)(q:(match (generalizing:=false) o,o1 with | some (.list xs),some (.list ys)=>F xs ys | _,_=>none)=some r):G:=iW2 q f
theorem jW3{o:Option MO}{o1:Option MO}{o2:Option MO}{F:List MV→List MV→List MV→Option β}(f:∀xs ys zs,o=some (.list xs)→o1=some (.list ys)→o2=some (.list zs)→F xs ys zs=some r→G)(q:(match (generalizing:=false) o,o1,o2 with | some (.list xs),some (.list ys),some (.list zs)=>F xs ys zs | _,_,_=>none)=some r):G:=by
 cases o with
 | none=>exact nn q
 | some m1=>
  cases m1 with
  | list xs=>
   cases o1 with
   | none=>exact nn q
   | some m2=>
    cases m2 with
    | list ys=>
     cases o2 with
     | none=>exact nn q
     | some m3=>
      cases m3 with
      | list zs=>
       exact f xs ys zs rfl rfl rfl q
      | _=>exact nn q
    | _=>exact nn q
  | _=>exact nn q
theorem jW4{o:Option MO}{o1:Option MO}{o2:Option MO}{o3:Option MO}{F:List MV→List MV→List MV→List MV→Option β}(f:∀xs ys zs us,o=some (.list xs)→o1=some (.list ys)→o2=some (.list zs)→o3=some (.list us)→F xs ys zs us=some r→G)(q:(match (generalizing:=false) o,o1,o2,o3 with | some (.list xs),some (.list ys),some (.list zs),some (.list us)=>F xs ys zs us | _,_,_,_=>none)=some r):G:=by
 cases o with
 | none=>exact nn q
 | some m1=>
  cases m1 with
  | list xs=>
   cases o1 with
   | none=>exact nn q
   | some m2=>
    cases m2 with
    | list ys=>
     cases o2 with
     | none=>exact nn q
     | some m3=>
      cases m3 with
      | list zs=>
       cases o3 with
       | none=>exact nn q
       | some m4=>
        cases m4 with
        | list us=>
         exact f xs ys zs us rfl rfl rfl rfl q
        | _=>exact nn q
      | _=>exact nn q
    | _=>exact nn q
  | _=>exact nn q
theorem jWd{o:Option MO}{F:List (List Nat×MV)→Option β}(f:∀es,o=some (.dict es)→F es=some r→G)(q:(match (generalizing:=false) o with | some (.dict es)=>F es | _=>none)=some r):G:=by
 cases o with
 | none=>exact nn q
 | some m1=>
  cases m1 with
  | dict es=>
   exact f es rfl q
  | _=>exact nn q
theorem jWc{o:Option MO}{F:Nat→List (Str×Nat)→Nat→Option β}(f:∀id cl kc,o=some (.clos id cl kc)→F id cl kc=some r→G)(q:(match (generalizing:=false) o with | some (.clos id cl kc)=>F id cl kc | _=>none)=some r):G:=by
 cases o with
 | none=>exact nn q
 | some m1=>
  cases m1 with
  | clos id cl kc=>
   exact f id cl kc rfl q
  | _=>exact nn q
theorem jWq{o:Option MO}{F:Str→Option β}(f:∀c,o=some (.code c)→F c=some r→G)(q:(match (generalizing:=false) o with | some (.code c)=>F c | _=>none)=some r):G:=by
 cases o with
 | none=>exact nn q
 | some m1=>
  cases m1 with
  | code c=>
   exact f c rfl q
  | _=>exact nn q
theorem jWt{o:Option MO}{F:Addr→List ((Nat×Nat)×Nat)→Option β}(f:∀p es,o=some (.tab p es)→F p es=some r→G)(q:(match (generalizing:=false) o with | some (.tab p es)=>F p es | _=>none)=some r):G:=by
 cases o with
 | none=>exact nn q
 | some m1=>
  cases m1 with
  | tab p es=>
   exact f p es rfl q
  | _=>exact nn q
theorem jVr{o:Option (MV×Hp)}{F:Nat→Hp→Option β}(f:∀k h,o=some (.ref k,h)→F k h=some r→G)(q:(match (generalizing:=false) o with | some (.ref k,h)=>F k h | _=>none)=some r):G:=by
 cases o with
 | none=>exact nn q
 | some m1=>
  cases m1 with
  | mk m2 h=>
   cases m2 with
   | ref k=>
    exact f k h rfl q
   | _=>exact nn q
theorem jVs{o:Option (MV×Hp)}{F:List Nat→Hp→Option β}(f:∀s h,o=some (.str s,h)→F s h=some r→G)(q:(match (generalizing:=false) o with | some (.str s,h)=>F s h | _=>none)=some r):G:=by
 cases o with
 | none=>exact nn q
 | some m1=>
  cases m1 with
  | mk m2 h=>
   cases m2 with
   | str s=>
    exact f s h rfl q
   | _=>exact nn q
theorem jVi{o:Option (MV×Hp)}{F:Int→Hp→Option β}(f:∀i h,o=some (.int i,h)→F i h=some r→G)(q:(match (generalizing:=false) o with | some (.int i,h)=>F i h | _=>none)=some r):G:=by
 cases o with
 | none=>exact nn q
 | some m1=>
  cases m1 with
  | mk m2 h=>
   cases m2 with
   | int i=>
    exact f i h rfl q
   | _=>exact nn q
theorem jMr{o:Option MV}{F:Nat→Option β}(f:∀k,o=some (.ref k)→F k=some r→G)(q:(match (generalizing:=false) o with | some (.ref k)=>F k | _=>none)=some r):G:=by
 cases o with
 | none=>exact nn q
 | some m1=>
  cases m1 with
  | ref k=>
   exact f k rfl q
  | _=>exact nn q
theorem jAii{o:Option (List MV×Hp)}{F:Int→Int→Hp→Option β}(f:∀a b h,o=some ([.int a,.int b],h)→F a b h=some r→G)(q:(match (generalizing:=false) o with | some ([.int a,.int b],h)=>F a b h | _=>none)=some r):G:=by
 cases o with
 | none=>exact nn q
 | some m1=>
  cases m1 with
  | mk m2 h=>
   cases m2 with
   | nil=>exact nn q
   | cons m3 m4=>
    cases m3 with
    | int a=>
     cases m4 with
     | nil=>exact nn q
     | cons m5 m6=>
      cases m5 with
      | int b=>
       cases m6 with
       | cons _ _=>exact nn q
       | nil=>
        exact f a b h rfl q
      | _=>exact nn q
    | _=>exact nn q
theorem jAg{o:Option (List MV×Hp)}{F:Value→Hp→Option β}(f:∀v h,o=some ([.glob v],h)→F v h=some r→G)(q:(match (generalizing:=false) o with | some ([.glob v],h)=>F v h | _=>none)=some r):G:=by
 cases o with
 | none=>exact nn q
 | some m1=>
  cases m1 with
  | mk m2 h=>
   cases m2 with
   | nil=>exact nn q
   | cons m3 m4=>
    cases m3 with
    | glob v=>
     cases m4 with
     | cons _ _=>exact nn q
     | nil=>
      exact f v h rfl q
    | _=>exact nn q
theorem jAi{o:Option (List MV×Hp)}{F:Int→Hp→Option β}(f:∀a h,o=some ([.int a],h)→F a h=some r→G)(q:(match (generalizing:=false) o with | some ([.int a],h)=>F a h | _=>none)=some r):G:=by
 cases o with
 | none=>exact nn q
 | some m1=>
  cases m1 with
  | mk m2 h=>
   cases m2 with
   | nil=>exact nn q
   | cons m3 m4=>
    cases m3 with
    | int a=>
     cases m4 with
     | cons _ _=>exact nn q
     | nil=>
      exact f a h rfl q
    | _=>exact nn q
theorem jArr{o:Option (List MV×Hp)}{F:Nat→Nat→Hp→Option β}(f:∀i j h,o=some ([.ref i,.ref j],h)→F i j h=some r→G)(q:(match (generalizing:=false) o with | some ([.ref i,.ref j],h)=>F i j h | _=>none)=some r):G:=by
 cases o with
 | none=>exact nn q
 | some m1=>
  cases m1 with
  | mk m2 h=>
   cases m2 with
   | nil=>exact nn q
   | cons m3 m4=>
    cases m3 with
    | ref i=>
     cases m4 with
     | nil=>exact nn q
     | cons m5 m6=>
      cases m5 with
      | ref j=>
       cases m6 with
       | cons _ _=>exact nn q
       | nil=>
        exact f i j h rfl q
      | _=>exact nn q
    | _=>exact nn q
theorem jLm{o:Option (Option MV)}{F:MV→Option β}(f:∀v,o=some (some v)→F v=some r→G)(q:(match (generalizing:=false) o with | some (some v)=>F v | _=>none)=some r):G:=by
 cases o with
 | none=>exact nn q
 | some m1=>
  cases m1 with
  | none=>exact nn q
  | some v=>
   exact f v rfl q
theorem jXs{o:Option (Option MV)}{o1:Option MO}{F:List Nat→List Nat→Tok→Option β}(f:∀x y t,o=some (some (.str x))→o1=some (.cellk y t)→F x y t=some r→G)(q:(match (generalizing:=false) o,o1 with | some (some (.str x)),some (.cellk y t)=>F x y t | _,_=>none)=some r):G:=by
 cases o with
 | none=>exact nn q
 | some m1=>
  cases m1 with
  | none=>exact nn q
  | some m2=>
   cases m2 with
   | str x=>
    cases o1 with
    | none=>exact nn q
    | some m3=>
     cases m3 with
     | cellk y t=>
      exact f x y t rfl rfl q
     | _=>exact nn q
   | _=>exact nn q
theorem jRR{o:List MV}{F:Nat→Nat→Option β}(f:∀i j,o=[.ref i,.ref j]→F i j=some r→G)(q:(match (generalizing:=false) o with | [.ref i,.ref j]=>F i j | _=>none)=some r):G:=by
 cases o with
 | nil=>exact nn q
 | cons m1 m2=>
  cases m1 with
  | ref i=>
   cases m2 with
   | nil=>exact nn q
   | cons m3 m4=>
    cases m3 with
    | ref j=>
     cases m4 with
     | cons _ _=>exact nn q
     | nil=>
      exact f i j rfl q
    | _=>exact nn q
  | _=>exact nn q
theorem jRRR{o:List MV}{F:Nat→Nat→Nat→Option β}(f:∀i j k,o=[.ref i,.ref j,.ref k]→F i j k=some r→G)(q:(match (generalizing:=false) o with | [.ref i,.ref j,.ref k]=>F i j k | _=>none)=some r):G:=by
 cases o with
 | nil=>exact nn q
 | cons m1 m2=>
  cases m1 with
  | ref i=>
   cases m2 with
   | nil=>exact nn q
   | cons m3 m4=>
    cases m3 with
    | ref j=>
     cases m4 with
     | nil=>exact nn q
     | cons m5 m6=>
      cases m5 with
      | ref k=>
       cases m6 with
       | cons _ _=>exact nn q
       | nil=>
        exact f i j k rfl q
      | _=>exact nn q
    | _=>exact nn q
  | _=>exact nn q
theorem iDD{o:Option PyData}{o1:Option PyData}{F:PyData→PyData→Option β}(q:(match o,o1 with | some x,some y=>F x y | _,_=>none)=some r)(f:∀x y,o=some x→o1=some y→F x y=some r→G):G:=by
 cases o with
 | none=>exact nn q
 | some x=>
  cases o1 with
  | none=>exact nn q
  | some y=>
   exact f x y rfl rfl q
theorem jOD{o:Option PyData}{o1:Option PyData}{F:PyData→List PyData→Option β}(f:∀d es,o=some d→o1=some (.list es)→F d es=some r→G)(q:(match (generalizing:=false) o,o1 with | some d,some (.list es)=>F d es | _,_=>none)=some r):G:=by
 cases o with
 | none=>exact nn q
 | some d=>
  cases o1 with
  | none=>exact nn q
  | some m1=>
   cases m1 with
   | list es=>
    exact f d es rfl rfl q
   | _=>exact nn q
theorem iOM{α β:Type}{o:Option α}{o':Option (List α)}{F:α→List α→Option β}{r:β}{G:Prop}(q:(match o,o' with | some x,some y=>F x y | _,_=>none)=some r)(f:∀x y,o=some x→o'=some y→F x y=some r→G):G:=by
 cases o with
 | none=>exact nn q
 | some m=>cases o' with
  | none=>exact nn q
  | some m'=>exact f m m' rfl rfl q
theorem vr0{ρ:List Addr}{vs:List Value}{P:List Value→Prop}(h:VRs ρ [] vs)(k:P []):P vs:=by cases h;exact k
theorem vrS{ρ:List Addr}{a:MV}{r:List MV}{vs:List Value}{P:List Value→Prop}(h:VRs ρ (a::r) vs)(k:∀u us,VR ρ a u→VRs ρ r us→P (u::us)):P vs:=by cases h with | cons x y=>exact k _ _ x y
@[elab_as_elim] theorem vr1{ρ:List Addr}{a0:MV}{vs:List Value}{P:List Value→Prop}(h:VRs ρ [a0] vs)(k:∀u0,VR ρ a0 u0→P [u0]):P vs:=vrS h fun u0 us h0 hs=>vr0 (P:=fun us=>P (u0::us)) hs (k u0 h0)
@[elab_as_elim] theorem vr2{ρ:List Addr}{a0 a1:MV}{vs:List Value}{P:List Value→Prop}(h:VRs ρ [a0,a1] vs)(k:∀u0 u1,VR ρ a0 u0→VR ρ a1 u1→P [u0,u1]):P vs:=vrS h fun u0 us h0 hs=>vr1 (P:=fun us=>P (u0::us)) hs fun u1 h1=>k u0 u1 h0 h1
@[elab_as_elim] theorem vr3{ρ:List Addr}{a0 a1 a2:MV}{vs:List Value}{P:List Value→Prop}(h:VRs ρ [a0,a1,a2] vs)(k:∀u0 u1 u2,VR ρ a0 u0→VR ρ a1 u1→VR ρ a2 u2→P [u0,u1,u2]):P vs:=vrS h fun u0 us h0 hs=>vr2 (P:=fun us=>P (u0::us)) hs fun u1 u2 h1 h2=>k u0 u1 u2 h0 h1 h2
@[elab_as_elim] theorem vr4{ρ:List Addr}{a0 a1 a2 a3:MV}{vs:List Value}{P:List Value→Prop}(h:VRs ρ [a0,a1,a2,a3] vs)(k:∀u0 u1 u2 u3,VR ρ a0 u0→VR ρ a1 u1→VR ρ a2 u2→VR ρ a3 u3→P [u0,u1,u2,u3]):P vs:=vrS h fun u0 us h0 hs=>vr3 (P:=fun us=>P (u0::us)) hs fun u1 u2 u3 h1 h2 h3=>k u0 u1 u2 u3 h0 h1 h2 h3
@[elab_as_elim] theorem vr5{ρ:List Addr}{a0 a1 a2 a3 a4:MV}{vs:List Value}{P:List Value→Prop}(h:VRs ρ [a0,a1,a2,a3,a4] vs)(k:∀u0 u1 u2 u3 u4,VR ρ a0 u0→VR ρ a1 u1→VR ρ a2 u2→VR ρ a3 u3→VR ρ a4 u4→P [u0,u1,u2,u3,u4]):P vs:=vrS h fun u0 us h0 hs=>vr4 (P:=fun us=>P (u0::us)) hs fun u1 u2 u3 u4 h1 h2 h3 h4=>k u0 u1 u2 u3 u4 h0 h1 h2 h3 h4
@[elab_as_elim] theorem vrI{ρ:List Addr}{n:Int}{v:Value}{P:Value→Prop}(h:VR ρ (.int n) v)(k:∀t,P (.int n t)):P v:=Exists.elim h fun t e=>e▸k t
@[elab_as_elim] theorem vrT{ρ:List Addr}{n:List Nat}{v:Value}{P:Value→Prop}(h:VR ρ (.str n) v)(k:∀t,P (.str (mkS n) t)):P v:=Exists.elim h fun t e=>e▸k t
@[elab_as_elim] theorem vrR{ρ:List Addr}{n:Nat}{v:Value}{P:Value→Prop}(h:VR ρ (.ref n) v)(k:∀a,ρ[n]?=some a→P (.ref a)):P v:=Exists.elim h fun a e=>e.2▸k a e.1
@[elab_as_elim] theorem vrE{ρ:List Addr}{b:Bool}{v:Value}{P:Value→Prop}(h:VR ρ (.bool b) v)(k:P (.bool b)):P v:=(show v=.bool b from h)▸k
end
set_option tactic.hygienic false
section
theorem Zaa{h:Heap}{a:Addr}{its:Array Value}(x:h.PlainList a its):h.IsList a its:=let ⟨n,e⟩:=x;⟨_,e,rfl,n,rfl⟩
structure AOK(c:Nat)(A:Around):Prop where
 hd:A.handled=none
 dep:A.depth+20 * c≤900
 un:A.units+200 * c≤9000
theorem AOK.le{c d:Nat}{A:Around}(x:AOK c A)(h:d≤c):AOK d A:=⟨x.hd,by have:=x.dep;lia,by have:=x.un;lia⟩
noncomputable abbrev Ret(w:World)(g:Heap)(ρ:List Addr)(hp':Hp)(mv:MV)(Q:Value→Shared→Prop)(s:Shared):Prop:=
 ∀(v:Value) (h':Heap) (tk:Nat) (ρ':List Addr),Post w g ρ s.heap ρ' hp' h'→VR ρ' mv v→Q v {s with heap:=h',toks:=tk}
section
variable {w:World} {g:Heap} {ρ:List Addr} {hp hp':Hp} {A:Around} {Q Ee:Value→Shared→Prop} {s:Shared}
theorem Ret.pure{mv:MV}{v:Value}{tk:Nat}(R:Rel w g ρ hp s.heap)(h:Ret w g ρ hp mv Q s)(hv:VR ρ mv v):Q v {s with toks:=tk}:=h v s.heap tk ρ R.post hv
theorem Ret.pure0{mv:MV}{v:Value}(R:Rel w g ρ hp s.heap)(h:Ret w g ρ hp mv Q s)(hv:VR ρ mv v):Q v s:=h v s.heap s.toks ρ R.post hv
theorem Rel.newList{vs:List Value}{xs:List MV}{n:Nat}(R:Rel w g ρ hp s.heap)(x:VRs ρ xs vs):Post w g ρ s.heap (ρ++[s.heap.objs.size]) (hp++[.list xs]) (s.heap.push {cls:=.type "list", data:=.seq vs.toArray n}):=by
 have hn:s.heap.get? s.heap.objs.size=none:=by
  cases e:s.heap.get? s.heap.objs.size with
  | none=>rfl
  | some o=>exact absurd (Heap.lt_size e) (Nat.lt_irrefl _)
 exact R.alloc hn (fun b o e=>Heap.get?_push_of_some _ e) ⟨vs,⟨n,Heap.get?_push_size _ rfl⟩,x.ext _⟩
theorem Zbm{ρ:List Addr}{hp:Hp}{a:Addr}(h:ρ.length=hp.length):(ρ++[a])[hp.length]?=some a:=by rw[← h];simp
noncomputable def Qv(n:Nat)(xs:List MV):List MV:=(List.replicate n xs).flatten
noncomputable def Zix(op:Operator)(a b:MV)(hp:Hp):Option (MV×Hp):=match op,a,b with
 | .Add,.int x,.int y=>some (.int (x+y),hp)
 | .Sub,.int x,.int y=>some (.int (x - y),hp)
 | .FloorDiv,.int x,.int y=>if 0 < y∧y < 1000001 then some (.int (x / y),hp) else none
 | .Mod,.int x,.int y=>if 0 < y∧y < 1000001 then some (.int (x % y),hp) else none
 | .Add,.str x,.str y=>if x.length+y.length≤100000 then some (.str (x++y),hp) else none
 | .Add,.ref i,.ref j=>match hp[i]?,hp[j]? with
  | some (.list xs),some (.list ys)=>if xs.length+ys.length≤100000 then some (.ref hp.length,hp++[.list (xs++ys)]) else none
  | _,_=>none
 | .Mult,.str x,.int n=>if 0≤n∧n≤100∧x.length≤1000 then some (.str (List.replicate n.toNat x).flatten,hp) else none
 | .Mult,.ref i,.int n=>match hp[i]? with
  | some (.list xs)=>if 0≤n∧n≤100∧xs.length≤1000 then some (.ref hp.length,hp++[.list (Qv n.toNat xs)]) else none
  | _=>none
 | _,_,_=>none
theorem Zhk(x y:List Nat):mkS x++mkS y=mkS (x++y):=by
 show Str.mk _=Str.mk _
 simp[mkS]
theorem Zay(x:List Nat):(mkS x).length=x.length:=by kernel_rfl
theorem fpush{h:Heap}{cls:Value}(vs:Array Value):∀b o,h.get? b=some o→(h.push {cls:=cls,data:=.seq vs 0}).get? b=some o:=fun b o e=>Heap.get?_push_of_some _ e
theorem Zbx{vs:List Value}{xs:List MV}{tk:Nat}(R:Rel w g ρ hp s.heap)(x:VRs ρ xs vs)(h:Ret w g ρ (hp++[.list xs]) (.ref hp.length) Q s):
 Q (.ref s.heap.objs.size) {s with heap:=s.heap.push {cls:=.type "list", data:=.seq vs.toArray},toks:=tk}:=
 h _ _ tk _ (R.newList x) ⟨_,Zbm R.len,rfl⟩
theorem repA(n:Nat)(vs:List Value):∀acc:Array Value,List.foldl (fun x1 x2=>x1++x2) acc (List.replicate n vs.toArray)=acc++((List.replicate n vs).flatten).toArray:=by
 induction n with
 | zero=>intro acc;simp
 | succ n ih=>intro acc;rw[List.replicate_succ,List.foldl_cons,ih,List.replicate_succ,List.flatten_cons];simp
theorem VRs.rep{xs:List MV}{vs:List Value}(x:VRs ρ xs vs)(n:Nat):VRs ρ (Qv n xs) (List.replicate n vs).flatten:=by
 induction n with
 | zero=>exact .nil
 | succ n ih=>unfold Qv;rw[List.replicate_succ,List.flatten_cons,List.replicate_succ,List.flatten_cons];exact x.append ih
theorem Rel.list(R:Rel w g ρ hp s.heap){i:Nat}{xs:List MV}(e:hp[i]?=some (.list xs)){v:Value}(hv:VR ρ (.ref i) v):∃a vs,ρ[i]?=some a∧v=.ref a∧s.heap.PlainList a vs.toArray∧VRs ρ xs vs:=by
 refine vrR hv fun a ea=>?_;refine ZJ (R.obj i _ a e ea) fun vs h1 h2=>?_;exact p2_4 a vs ea rfl h1 h2
theorem rep_size(n:Nat)(vs:List Value):vs.toArray.size * n=vs.length * n:=by kernel_rfl
theorem mkS_mul(x:List Nat)(n:Int)(h:0≤n):Txt.mul (mkS x) n=mkS (List.replicate n.toNat x).flatten:=by
 have key:∀(k:Nat) (acc:Array Nat),(List.replicate k (mkS x).cps).foldl (· ++ ·) acc=acc++((List.replicate k x).flatten).toArray:=by
  intro k;induction k with
  | zero=>intro acc;simp
  | succ k ih=>intro acc;rw[List.replicate_succ,List.foldl_cons,ih,List.replicate_succ,List.flatten_cons];simp[mkS]
 unfold Txt.mul;split
 · have:n.toNat=0:=by lia
   rw[this];rfl
 · split
   · rename_i h1 h2;simp only[Bool.or_eq_true,beq_iff_eq] at h2;rcases h2 with h2 | h2
     · subst h2;simp
     · rw[Zay] at h2;have:x=[]:=List.length_eq_zero_iff.mp h2;subst this;simp
   · rw[key];simp[mkS]
theorem Zlb{op:Operator}{a b mv:MV}{va vb:Value}(hb:Zix op a b hp=some (mv,hp'))(R:Rel w g ρ hp s.heap)(ha:VR ρ a va)(hv:VR ρ b vb)(h:Ret w g ρ hp' mv Q s):
 wpAny (model pE w) A (binaryOp op va vb) Q Ee s:=by
 cases op with
 | Add=>cases a with
  | int x=>cases b with
   | int y=>
    obtain ⟨t,rfl⟩:=ha;obtain ⟨u,rfl⟩:=hv;refine oi2 hb fun e1 e2=>?_;subst e1 e2;exact add_int (h.pure R ⟨_,rfl⟩)
   | _=>exact nn hb
  | str x=>cases b with
   | str y=>
    obtain ⟨t,rfl⟩:=ha;obtain ⟨u,rfl⟩:=hv;refine iI hb fun hz hb=>oi2 hb fun e1 e2=>?_;subst e1 e2;exact PyProof.Rows.add_str (fun t' tk=>by rw[Zhk];exact h.pure R ⟨_,rfl⟩) (by rw[Zay,Zay];unfold sizeLine;lia)
   | _=>exact nn hb
  | ref i=>cases b with
   | ref j=>
    refine iW2 hb fun xs ys e1 e2 hb=>iI hb fun hz hb=>oi2 hb fun e3 e4=>?_;subst e3 e4;refine Qs (R.list e1 ha) fun a vs υ yq yr x=>?_;subst yq;obtain ⟨n,ho⟩:=yr;refine Qs (R.list e2 hv) fun b ws υ yq yr y=>?_;subst yq;obtain ⟨n2,ho2⟩:=yr;refine concat_meets ⟨_,ho,rfl⟩ ⟨_,ho2,rfl⟩ noFill_list_add seq_list_add PySem.F.slot_list_add PySem.F.entry_list_add (PySem.F.args_list_add_2 _ _) (list_addW a b vs.toArray ws.toArray n n2 _ _ _ _ (by simp[x.len,y.len,sizeLine];lia)) ⟨ho,ho2,?_⟩;have e:vs.toArray++ws.toArray=(vs++ws).toArray:=by simp
    rw[e];exact Zbx R (x.append y) h
   | _=>exact nn hb
  | _=>exact nn hb
 | Sub=>cases a with
  | int x=>cases b with
   | int y=>
    obtain ⟨t,rfl⟩:=ha;obtain ⟨u,rfl⟩:=hv;refine oi2 hb fun e1 e2=>?_;subst e1 e2;exact sub_int (h.pure R ⟨_,rfl⟩)
   | _=>exact nn hb
  | _=>exact nn hb
 | FloorDiv=>cases a with
  | int x=>cases b with
   | int y=>
    obtain ⟨t,rfl⟩:=ha;obtain ⟨u,rfl⟩:=hv;refine iI hb fun hz hb=>oi2 hb fun e1 e2=>?_;subst e1 e2;refine floordiv_int (by lia) ?_ (.inl (PyProof.noPylong_small (by lia)));rw[Int.fdiv_eq_ediv_of_nonneg _ (by lia)];exact h.pure R ⟨_,rfl⟩
   | _=>exact nn hb
  | _=>exact nn hb
 | Mod=>cases a with
  | int x=>cases b with
   | int y=>
    obtain ⟨t,rfl⟩:=ha;obtain ⟨u,rfl⟩:=hv;refine iI hb fun hz hb=>oi2 hb fun e1 e2=>?_;subst e1 e2;refine mod_int' (by lia) ?_;rw[Int.fmod_eq_emod_of_nonneg _ (by lia)];exact h.pure R ⟨_,rfl⟩
   | _=>exact nn hb
  | _=>exact nn hb
 | Mult=>cases b with
  | int n=>cases a with
   | str x=>
    obtain ⟨t,rfl⟩:=ha;obtain ⟨u,rfl⟩:=hv;refine iI hb fun hz hb=>oi2 hb fun e1 e2=>?_;subst e1 e2;refine SB.mul ⟨by simp;lia,fun h1 h2=>?_,fun h1 h2=>?_⟩ fun t' k=>?_
    · have hn:0 < n:=by lia
      have hle:((mkS x).length:Int)≤(2 ^ 63 - 1) / n:=by
       rw[Int.le_ediv_iff_mul_le hn,Zay];have h3:(x.length:Int)≤1000:=by lia
       calc (x.length:Int) * n≤1000 * 100:=Int.mul_le_mul h3 hz.2.1 hz.1 (by lia)
        _≤2 ^ 63 - 1:=by decide
      lia
    · have hm:(mkS x).length * n.toNat≤1000 * 100:=by
       rw[Zay];exact Nat.mul_le_mul hz.2.2 (by lia)
      simp only[Builtin.Str.tooLong,decide_eq_false_iff_not];unfold sizeLine;lia
    · rw[mkS_mul _ _ hz.1];exact h.pure R ⟨_,rfl⟩
   | ref i=>
    refine iW hb fun xs e1 hb=>iI hb fun hz hb=>oi2 hb fun e3 e4=>?_;subst e3 e4;refine Qs (R.list e1 ha) fun a vs υ yq yr y=>?_;subst yq;obtain ⟨n',hl⟩:=yr;refine vrI hv fun u=>?_;have hsz:vs.toArray.size * n.toNat≤100000:=by
     rw[rep_size,y.len];exact Nat.le_trans (Nat.mul_le_mul hz.2.2 (show n.toNat≤100 by lia)) (by decide)
    refine wpAny_binaryOp_repeat_ref (T := "list") (U := "int") (by decide) ⟨_,hl,rfl⟩ (fun s'=>typeIs_int s' n u) noFill_list_mul F.fills_int_mul F.slot_int_rmul repeat_list F.slot_int_index.lookup
     (call_meets F.slot_int_rmul (typeIs_int s n u) F.entry_int_rmul (F.args_int_rmul_2 _ _) (int___rmul___int_list n u a _ n')
      ⟨hl,rfl,⟨_,hl,rfl⟩,call_meets F.slot_list_mul ⟨_,hl,rfl⟩ F.entry_list_mul (F.args_list_mul_2 _ _)
       (AutoListH.list___mul___list_int_3 a _ n' n u (by simp[Builtin.List.listFitsIndex];lia) (by lia) (by simp[Builtin.List.listTooLong,sizeLine];simp at hsz;lia))
       ⟨hl,?_⟩⟩)
    have e:List.foldl (fun x1 x2=>x1++x2) #[] (List.replicate (if vs.toArray.isEmpty=true then 0 else n.toNat) vs.toArray)=((List.replicate n.toNat vs).flatten).toArray:=by
     rw[repA];cases vs with
     | nil=>simp
     | cons v vs=>simp
    rw[e];exact Zbx R (y.rep _) h
   | _=>exact nn hb
  | _=>cases a<;>exact nn hb
 | _=>exact nn hb
end
end
set_option tactic.hygienic true
section
noncomputable def ZmY{α β:Type}(f:α→Option β):List α→Option (List β)
 | []=>some []
 | x::xs=>match f x,ZmY f xs with
  | some y,some ys=>some (y::ys)
  | _,_=>none
noncomputable def toD:Nat→Hp→MV→Option PyData
 | _,_,.none=>some .none
 | _,_,.bool b=>some (.bool b)
 | _,_,.int i=>some (.int i)
 | _,_,.str s=>some (.str (mkS s))
 | _,_,.glob _=>none
 | 0,_,.ref _=>none
 | n+1,hp,.ref k=>match hp[k]? with
  | some (.list xs)=>(match ZmY (toD n hp) xs with
   | some ds=>some (.list ds)
   | none=>none)
  | _=>none
noncomputable def eqC(hp:Hp)(a b:MV):Option Bool:=match a,b with
 | .int x,.int y=>some (decide (x=y))
 | .str x,.str y=>some (decide (x=y))
 | a,b=>match toD 3 hp a,toD 3 hp b with
  | some d,some e=>if d.canLay0=true∧e.canLay0=true∧d.depth≤5 then some (PyData.eqv d e) else none
  | _,_=>none
noncomputable def isC:MV→MV→Option Bool
 | .none,.none=>some true
 | .bool x,.bool y=>some (x==y)
 | .none,.bool _=>some false
 | .bool _,.none=>some false
 | .int _,.none=>some false
 | .int _,.bool _=>some false
 | .str _,.none=>some false
 | .str _,.bool _=>some false
 | .ref _,.none=>some false
 | .ref _,.bool _=>some false
 | .glob (.ref _),.none=>some false
 | .glob (.ref _),.bool _=>some false
 | _,_=>none
noncomputable def isG(n:Nat)(v:Value):Bool:=match v with
 | .ref k=>k==n
 | _=>false
theorem ZoR{n:Nat}{v:Value}(h:isG n v=true):v=.ref n:=by
 cases v with
 | ref k=>exact congrArg Value.ref (eq_of_beq h)
 | _=>cases h
noncomputable def inC(hp:Hp)(a b:MV):Option Bool:=match a,b with
 | .str x,.str y=>some (Txt.contains (mkS y) (mkS x))
 | .int x,.glob v=>if isG 65 v then some ([173,847,6150,6155,6156,6157,8203,8204,8205,8288,65279,65024,65025,65026,65027,65028,65029,65030,65031,65032,65033,65034,65035,65036,65037,65038,65039].contains x) else none
 | a,.ref k=>match hp[k]? with
  | some (.dict es)=>(match a with
   | .str x=>some (es.lookup x).isSome
   | _=>none)
  | _=>match toD 3 hp a,toD 3 hp (.ref k) with
   | some d,some (.list es)=>if d.canLay0=true∧PyData.canLayAll0 es=true∧d.depth≤5 then some (es.any fun y=>PyData.eqv y d) else none
   | _,_=>none
 | _,_=>none
noncomputable def ZkG:Option Bool→Option Bool
 | some b=>some (!b)
 | none=>none
noncomputable def b2(b:Bool):Int:=if b then 1 else 0
noncomputable def ZdE(op:CmpOp)(a b:MV)(hp:Hp):Option Bool:=match op with
 | .Eq=>eqC hp a b
 | .NotEq=>ZkG (eqC hp a b)
 | .Lt=>(match a,b with
  | .int x,.int y=>some (decide (x < y))
  | .bool x,.bool y=>some (decide (b2 x < b2 y))
  | _,_=>none)
 | .Gt=>(match a,b with
  | .int x,.int y=>some (decide (y < x))
  | _,_=>none)
 | .GtE=>(match a,b with
  | .int x,.int y=>some (decide (y≤x))
  | _,_=>none)
 | .LtE=>(match a,b with
  | .int x,.int y=>some (decide (x≤y))
  | _,_=>none)
 | .Is=>isC a b
 | .IsNot=>ZkG (isC a b)
 | .In=>inC hp a b
 | .NotIn=>ZkG (inC hp a b)
noncomputable def truth(hp:Hp):MV→Option Bool
 | .bool b=>some b
 | .int i=>some (i != 0)
 | .str s=>if s.length≤100000 then some (s.length != 0) else none
 | .none=>some false
 | .ref k=>match hp[k]? with
  | some (.list xs)=>if xs.length≤100000 then some (xs.length != 0) else none
  | _=>none
 | _=>none
structure B1(w:World)(g:Heap):Prop where
 sys:∃o,g.get? sysModules=some o
 set:∃S n,g.SetOf (intKind pE w) 65 S n∧∀x:Int,S x=[173,847,6150,6155,6156,6157,8203,8204,8205,8288,65279,65024,65025,65026,65027,65028,65029,65030,65031,65032,65033,65034,65035,65036,65037,65038,65039].contains x
section
variable {w:World} {g:Heap} {ρ:List Addr} {hp hp':Hp} {A:Around} {Q Ee:Value→Shared→Prop} {s:Shared}
theorem Zdb(R:Rel w g ρ hp s.heap):∀(n:Nat) (a:MV) (v:Value) (d:PyData),toD n hp a=some d→VR ρ a v→∃as,Reads s.heap v d as:=by
 intro n;induction n with
 | zero=>
  intro a v d e hv;cases a with
  | none=>cases e;cases hv;exact ⟨_,.none⟩
  | bool b=>cases e;cases hv;exact ⟨_,.bool b⟩
  | int i=>cases e;obtain ⟨t,rfl⟩:=hv;exact ⟨_,.int i t⟩
  | str x=>cases e;obtain ⟨t,rfl⟩:=hv;exact ⟨_,.str _ t⟩
  | ref k=>cases e
  | glob v=>cases e
 | succ n ih=>
  intro a v d e hv;cases a with
  | none=>cases e;cases hv;exact ⟨_,.none⟩
  | bool b=>cases e;cases hv;exact ⟨_,.bool b⟩
  | int i=>cases e;obtain ⟨t,rfl⟩:=hv;exact ⟨_,.int i t⟩
  | str x=>cases e;obtain ⟨t,rfl⟩:=hv;exact ⟨_,.str _ t⟩
  | glob v=>cases e
  | ref k=>
   refine iW e fun xs hk e=>iJ e fun ds hm e=>?_
   · · refine oi1 e fun yq=>?_;subst yq;refine Qs (R.list hk hv) fun a vs ha yq yr x=>?_;subst yq;refine ZW yr fun ep ho=>?_;have key:∀(xs:List MV) (vs:List Value) (ds:List PyData),VRs ρ xs vs→ZmY (toD n hp) xs=some ds→∃as,ReadsAll s.heap vs ds as:=by
        intro xs vs ds x;induction x generalizing ds with
        | nil=>intro e;cases e;exact ⟨_,.nil⟩
        | cons hx _ ih2=>
         intro e;refine iOM e fun y ys e1 e2 e=>?_;refine oi1 e fun yq=>?_;subst yq;refine ZW (ih _ _ _ e1 hx) fun as r1=>?_;refine ZW (ih2 _ e2) fun bs r2=>?_;exact ⟨_,.cons r1 r2⟩
       refine ZW (key xs vs ds x hm) fun as r=>?_;exact ⟨_,.list ho rfl rfl (by simpa using r)⟩
theorem ZoD(x y:List Nat):(mkS x==mkS y)=decide (x=y):=by
 by_cases h:x=y
 · subst h;simp
 · rw[decide_eq_false h,beq_eq_false_iff_ne];exact fun e=>h (ZkJ e)
theorem Zli(hA:AOK 1 A){n:Nat}(h:n≤5):A.units+n < cLine:=by
 have:=hA.un;have:cLine=9900:=by decide +kernel
 lia
theorem Zjn{a b:MV}{va vb:Value}{r:Bool}(hb:eqC hp a b=some r)(R:Rel w g ρ hp s.heap)(hA:AOK 1 A)(ha:VR ρ a va)(hv:VR ρ b vb)(neg:Bool)(h:Q (.bool (if neg then !r else r)) s):
 wpAny (model pE w) A (compareOp (if neg then .NotEq else .Eq) va vb) Q Ee s:=by
 have main:∀d e,toD 3 hp a=some d→toD 3 hp b=some e→d.canLay0=true→e.canLay0=true→d.depth≤5→PyData.eqv d e=r→wpAny (model pE w) A (compareOp (if neg then .NotEq else .Eq) va vb) Q Ee s:=by
  intro d e e1 e2 c1 c2 c3 c4;refine ZW (Zdb R 3 a va d e1 ha) fun as r1=>?_;refine ZW (Zdb R 3 b vb e e2 hv) fun bs r2=>?_;have hu:A.units+min d.depth e.depth < cLine:=Zli hA (by lia);cases neg with
  | true=>exact SeqAt.compareNe_reads r1 r2 c1 c2 hu (by rw[c4];exact h)
  | false=>exact SeqAt.compareEq_reads r1 r2 c1 c2 hu (by rw[c4];exact h)
 have gen:(match toD 3 hp a,toD 3 hp b with
  | some d,some e=>if d.canLay0=true∧e.canLay0=true∧d.depth≤5 then some (PyData.eqv d e) else none
  | _,_=>none)=some r→wpAny (model pE w) A (compareOp (if neg then .NotEq else .Eq) va vb) Q Ee s:=fun hb=>
  iDD hb fun d e e1 e2 hb=>iI hb fun hz hb=>main d e e1 e2 hz.1 hz.2.1 hz.2.2 (Option.some.inj hb)
 cases a with
 | int x=>cases b with
  | int y=>
   refine oi1 hb fun e=>?_;subst e;refine main _ _ rfl rfl rfl rfl (by simp[PyData.depth]) ?_;simp only[PyData.eqv];by_cases hxy:x=y<;>simp[hxy]
  | _=>exact gen hb
 | str x=>cases b with
  | str y=>
   refine oi1 hb fun e=>?_;subst e;obtain ⟨t,rfl⟩:=ha;obtain ⟨u,rfl⟩:=hv;cases neg with
   | true=>exact PyProof.Rows.ne_str (by rw[bne,ZoD];exact h)
   | false=>exact PyProof.Rows.eq_str (by rw[ZoD];exact h)
  | _=>exact gen hb
 | _=>exact gen hb
theorem Zje{a b:MV}{va vb:Value}{r:Bool}(hb:isC a b=some r)(R:Rel w g ρ hp s.heap)(ha:VR ρ a va)(hv:VR ρ b vb)(neg:Bool)(h:Q (.bool (if neg then !r else r)) s):
 wpAny (model pE w) A (compareOp (if neg then .IsNot else .Is) va vb) Q Ee s:=by
 have main:plainIs va vb=true→(va==vb)=r→wpAny (model pE w) A (compareOp (if neg then .IsNot else .Is) va vb) Q Ee s:=by
  intro e1 e2;cases neg with
  | true=>exact wpAny_isNot_plain e1 (by rw[e2];exact h)
  | false=>exact wpAny_is_plain e1 (by rw[e2];exact h)
 have p:∀{u:Value},VR ρ .none u→u=.none:=fun h=>h;have pb:∀{y:Bool} {u:Value},VR ρ (.bool y) u→u=.bool y:=fun h=>h;cases b with
 | none=>
  cases p hv
  cases a with
  | none=>cases p ha;exact main rfl (Option.some.inj hb)
  | bool x=>cases pb ha;exact main rfl (Option.some.inj hb)
  | int x=>obtain ⟨t,rfl⟩:=ha;exact main rfl (Option.some.inj hb)
  | str x=>obtain ⟨t,rfl⟩:=ha;exact main rfl (Option.some.inj hb)
  | ref k=>obtain ⟨t,_,rfl⟩:=ha;exact main rfl (Option.some.inj hb)
  | glob v=>cases v with
   | ref k=>cases ha;exact main rfl (Option.some.inj hb)
   | _=>exact nn hb
 | bool y=>
  cases pb hv
  cases a with
  | none=>cases p ha;exact main rfl (Option.some.inj hb)
  | bool x=>cases pb ha;exact main rfl ((show (Value.bool x==Value.bool y)=(x==y) by cases x<;>cases y<;>rfl).trans (Option.some.inj hb))
  | int x=>obtain ⟨t,rfl⟩:=ha;exact main rfl (Option.some.inj hb)
  | str x=>obtain ⟨t,rfl⟩:=ha;exact main rfl (Option.some.inj hb)
  | ref k=>obtain ⟨t,_,rfl⟩:=ha;exact main rfl (Option.some.inj hb)
  | glob v=>cases v with
   | ref k=>cases ha;exact main rfl (Option.some.inj hb)
   | _=>exact nn hb
 | _=>cases a with
  | glob v=>cases v<;>exact nn hb
  | _=>exact nn hb
theorem ZkM(i:Int)(t:Tok):(intKind pE w).is i (.int i t)=true:=by simp[intKind,Value.isInt]
theorem ZfK(x:Str)(t:Tok):(PySem.strKind pE w).is x (.str x t)=true:=by simp[PySem.strKind,Value.isStrOf]
theorem Rel.dict(R:Rel w g ρ hp s.heap){i:Nat}{es:List (List Nat×MV)}(e:hp[i]?=some (.dict es)){v:Value}(hv:VR ρ (.ref i) v):∃a kvs,ρ[i]?=some a∧v=.ref a∧s.heap.DictOf (PySem.strKind pE w) a kvs∧DR ρ es (valueAt kvs)∧kvs.length≤es.length:=by
 refine vrR hv fun a ea=>?_;refine ZgO (R.obj i _ a e ea) fun f h1 h2 h3=>?_;exact p2_5 a f ea rfl h1 h2 h3
theorem not_sys(R:Rel w g ρ hp s.heap)(hs:∃o,g.get? sysModules=some o){a:Addr}{i:Nat}(ha:ρ[i]?=some a):(a==sysModules)=false:=by
 rw[beq_eq_false_iff_ne];intro e;refine ZW hs fun o ho=>?_;rw[← e,R.off a (List.mem_of_getElem? ha)] at ho;exact nn ho
theorem DR.some{es:List (List Nat×MV)}{f:Str→Option Value}(h:DR ρ es f)(x:List Nat):(f (mkS x)).isSome=(es.lookup x).isSome:=by
 have:=h x;split at this
 · rename_i e;rw[this,e];rfl
 · rename_i v e;obtain ⟨_,e2,_⟩:=this;rw[e2,e];rfl
theorem SetOf.keeps{h h':Heap}{a:Addr}{S:Int→Bool}{n:Nat}(x:h.SetOf (intKind pE w) a S n)(k:∀b o,h.get? b=some o→h'.get? b=some o):h'.SetOf (intKind pE w) a S n:=by
 refine x4_2 x fun o es ep t ho r=>?_;exact p4_2 o es ep t (k _ _ ho) r
noncomputable def inRef(hp:Hp)(a:MV)(k:Nat)(o:Option MO):Option Bool:=match o with
 | some (.dict es)=>(match a with
  | .str x=>some (es.lookup x).isSome
  | _=>none)
 | _=>match toD 3 hp a,toD 3 hp (.ref k) with
  | some d,some (.list es)=>if d.canLay0=true∧PyData.canLayAll0 es=true∧d.depth≤5 then some (es.any fun y=>PyData.eqv y d) else none
  | _,_=>none
theorem inRef_eq{a:MV}{k:Nat}:inC hp a (.ref k)=inRef hp a k hp[k]?:=by cases a<;>rfl
theorem Znc{a:MV}{k:Nat}{es:List (List Nat×MV)}(e:hp[k]?=some (.dict es)):inC hp a (.ref k)=(match a with
 | .str x=>some (es.lookup x).isSome
 | _=>none):=inRef_eq.trans (congrArg (inRef hp a k) e)
theorem Znb{a:MV}{k:Nat}(h:∀es,hp[k]?≠some (.dict es)):inC hp a (.ref k)=(match toD 3 hp a,toD 3 hp (.ref k) with
 | some d,some (.list es)=>if d.canLay0=true∧PyData.canLayAll0 es=true∧d.depth≤5 then some (es.any fun y=>PyData.eqv y d) else none
 | _,_=>none):=by
 refine inRef_eq.trans ?_;cases e:hp[k]? with
 | none=>rfl
 | some m=>cases m with
  | dict es=>exact absurd e (h es)
  | _=>rfl
theorem Zjg{a b:MV}{va vb:Value}{r:Bool}(hb:inC hp a b=some r)(B:B1 w g)(R:Rel w g ρ hp s.heap)(hA:AOK 1 A)(ha:VR ρ a va)(hv:VR ρ b vb)(neg:Bool)(h:∀tk,Q (.bool (if neg then !r else r)) {s with toks:=tk}):
 wpAny (model pE w) A (compareOp (if neg then .NotIn else .In) va vb) Q Ee s:=by
 have gen:(match toD 3 hp a,toD 3 hp b with
  | some d,some (.list es)=>if d.canLay0=true∧PyData.canLayAll0 es=true∧d.depth≤5 then some (es.any fun y=>PyData.eqv y d) else none
  | _,_=>none)=some r→wpAny (model pE w) A (compareOp (if neg then .NotIn else .In) va vb) Q Ee s:=by
  clear hb;refine jOD fun d es e1 e2 hb=>?_;revert hb;refine jI fun hz hb=>?_;refine oi1 hb fun y'=>?_;subst y';refine ZW (Zdb R 3 _ _ d e1 ha) fun as r1=>?_;refine ZW (Zdb R 3 _ _ _ e2 hv) fun bs r2=>?_;have hu:A.units+1+min (PyData.depthAll es) d.depth < cLine:=by have:=Zli hA (n:=5) (by lia);have:=hA.un;have:cLine=9900:=(by decide +kernel);lia
  cases neg with
  | true=>exact SeqAt.notIn_list_reads r2 r1 hz.2.1 hz.1 hu (h s.toks)
  | false=>exact SeqAt.in_list_reads r2 r1 hz.2.1 hz.1 hu (h s.toks)
 have dic:∀{k:Nat} {x:List Nat} {es:List (List Nat×MV)},a=.str x→b=.ref k→hp[k]?=some (.dict es)→(es.lookup x).isSome=r→wpAny (model pE w) A (compareOp (if neg then .NotIn else .In) va vb) Q Ee s:=fun {k x es} ea eb e er=>by
  subst ea eb er;refine vrT ha fun t=>?_;refine x2_5 (R.dict e hv) fun d f e1 yq h1 h2 h3=>?_;subst yq;have hd:=not_sys R B.sys e1;cases neg with
  | true=>exact wpAny_notIn_of (ZfK _ t) hd h1.mapOf (by rw[h2.some];exact h _)
  | false=>exact wpAny_in_of (ZfK _ t) hd h1.mapOf (by rw[h2.some];exact h _)
 cases b with
 | str y=>cases a with
  | str x=>
   refine oi1 hb fun y'=>?_;subst y';obtain ⟨t,rfl⟩:=ha;obtain ⟨u,rfl⟩:=hv;cases neg with
   | true=>exact SB.notContains (h s.toks)
   | false=>exact SB.contains (h s.toks)
  | _=>exact nn hb
 | glob v=>cases a with
  | int x=>
   refine iI hb fun hg hb=>?_;refine oi1 hb fun y'=>?_;subst y';have hg:=ZoR hg;subst hg;obtain ⟨t,rfl⟩:=ha;cases hv;refine ZeF B.set fun S n hS e=>?_;have hS':=SetOf.keeps hS R.base;cases neg with
   | true=>exact wpAny_notInSet_of (ZkM x t) rfl hS' (by rw[e];exact h _)
   | false=>exact wpAny_inSet_of (ZkM x t) rfl hS' (by rw[e];exact h _)
  | _=>exact nn hb
 | ref k=>
  cases e:hp[k]? with
  | none=>exact gen ((Znb (fun es h=>by rw[e] at h;cases h)).symm.trans hb)
  | some m=>cases m with
   | dict es=>cases a with
    | str x=>exact dic rfl rfl e (Option.some.inj ((Znc (a:=.str x) e).symm.trans hb))
    | _=>exact nn ((Znc e).symm.trans hb)
   | _=>exact gen ((Znb (fun es h=>by rw[e] at h;cases h)).symm.trans hb)
 | _=>cases a<;>exact nn hb
theorem ZfE{o:Option Bool}{r:Bool}(h:ZkG o=some r):o=some (!r):=by
 cases o with
 | none=>cases h
 | some b=>cases h;simp
theorem ZjC{op:CmpOp}{a b:MV}{va vb:Value}{r:Bool}(hb:ZdE op a b hp=some r)(B:B1 w g)(R:Rel w g ρ hp s.heap)(hA:AOK 1 A)(ha:VR ρ a va)(hv:VR ρ b vb)(h:Ret w g ρ hp (.bool r) Q s):
 wpAny (model pE w) A (compareOp op va vb) Q Ee s:=by
 have hq:∀tk,Q (.bool r) {s with toks:=tk}:=fun tk=>h.pure R rfl;cases op with
 | Eq=>exact Zjn hb R hA ha hv false (hq s.toks)
 | NotEq=>exact Zjn (ZfE hb) R hA ha hv true (by simp;exact hq s.toks)
 | Lt=>cases a with
  | int x=>cases b with
   | int y=>cases hb;obtain ⟨t,rfl⟩:=ha;obtain ⟨u,rfl⟩:=hv;exact PyProof.Rows.lt_int (hq s.toks)
   | _=>exact nn hb
  | bool x=>cases b with
   | bool y=>cases hb;cases ha;cases hv;exact lt_bool (hq s.toks)
   | _=>exact nn hb
  | _=>exact nn hb
 | Gt=>cases a with
  | int x=>cases b with
   | int y=>cases hb;obtain ⟨t,rfl⟩:=ha;obtain ⟨u,rfl⟩:=hv;exact PyProof.Rows.gt_int (hq s.toks)
   | _=>exact nn hb
  | _=>exact nn hb
 | GtE=>cases a with
  | int x=>cases b with
   | int y=>cases hb;obtain ⟨t,rfl⟩:=ha;obtain ⟨u,rfl⟩:=hv;exact PyProof.Rows.ge_int (hq s.toks)
   | _=>exact nn hb
  | _=>exact nn hb
 | LtE=>cases a with
  | int x=>cases b with
   | int y=>cases hb;obtain ⟨t,rfl⟩:=ha;obtain ⟨u,rfl⟩:=hv;exact PyProof.Rows.le_int (hq s.toks)
   | _=>exact nn hb
  | _=>exact nn hb
 | Is=>exact Zje hb R ha hv false (hq s.toks)
 | IsNot=>exact Zje (ZfE hb) R ha hv true (by simp;exact hq s.toks)
 | In=>exact Zjg hb B R hA ha hv false hq
 | NotIn=>exact Zjg (ZfE hb) B R hA ha hv true (by simpa using hq)
theorem ZcU{a:MV}{va:Value}{r:Bool}{Q:Bool→Shared→Prop}(hb:truth hp a=some r)(R:Rel w g ρ hp s.heap)(ha:VR ρ a va)(h:∀tk,Q r {s with toks:=tk}):
 wpAny (model pE w) A (truthy va) Q Ee s:=by
 cases a with
 | bool b=>cases hb;cases ha;exact wpAny_truthy_bool (h s.toks)
 | int i=>cases hb;obtain ⟨t,rfl⟩:=ha;exact PyProof.Rows.truthy_int (h s.toks)
 | str x=>
  revert hb;refine jI fun hz hb=>?_;cases hb;obtain ⟨t,rfl⟩:=ha
  refine PySem.P.truthy_str (by rw[Zay];lia) ?_;rw[Zay];have e:((x.length:Int) != 0)=(x.length != 0):=by cases x<;>simp<;>lia
  rw[e];exact h _
 | none=>cases hb;cases ha;exact fun υ υ υ=>h s.toks
 | ref k=>
  refine iW hb fun xs e hb=>iI hb fun hz hb=>?_;refine oi1 hb fun yq=>?_;subst yq;refine Qs (R.list e ha) fun l vs υ yq hl x=>?_;subst yq;refine wpAny_truthy_list (Zaa hl) (by simp[x.len];lia) ?_;have e:(!vs.toArray.isEmpty)=(xs.length != 0):=by rw[← x.len];cases vs<;>simp
  rw[e];exact h _
 | _=>exact nn hb
end
end
set_option tactic.hygienic false
section
noncomputable abbrev Loc:=List (Option MV)
structure EnvD where
 scope:Scope
 slots:List Str
 cells:List (Str×Nat)
 code:Value
 qual:Str
inductive Ctl where
 | norm
 | ret (v:MV)
noncomputable def LR(ρ:List Addr):List Str→Loc→(Str→Option Value)→Prop:=fun slots ℓ m=>∀(i:Nat) (x:Str) (v:MV),slots[i]?=some x→ℓ[i]?=some (some v)→∃v',m x=some v'∧VR ρ v v'
structure Bs(w:World)(g:Heap)(mg mb:Str→Option Value):Prop extends B1 w g where
 nolimit:g.NoLimit
 mg:g.Ns mainGlobals mg
 mb:g.Ns builtinsNs mb
structure PostW(w:World)(g:Heap)(wr:List Addr)(ρ:List Addr)(h:Heap)(ρ':List Addr)(hp':Hp)(h':Heap):Prop where
 rel:Rel w g ρ' hp' h'
 ext:∃new,ρ'=ρ++new
 fresh:∀a∈ρ',a∉ρ→h.get? a=none
 keep:∀b o,b∉ρ→b∉wr→h.get? b=some o→h'.get? b=some o
section
variable {w:World} {g:Heap} {ρ ρ' ρ'':List Addr} {hp hp' hp'':Hp} {h h' h'':Heap} {wr:List Addr}
theorem Post.toW(P:Post w g ρ h ρ' hp' h'):PostW w g wr ρ h ρ' hp' h':=⟨P.rel,P.ext,P.fresh,fun b o h1 υ e=>P.keep b o h1 e⟩
theorem PostW.dead(P:PostW w g wr ρ h ρ' hp' h')(hd:∀a∈wr,h.get? a=none):Post w g ρ h ρ' hp' h':=
 ⟨P.rel,P.ext,P.fresh,fun b o h1 e=>P.keep b o h1 (fun hm=>by rw[hd b hm] at e;cases e) e⟩
theorem PostW.mono{wr':List Addr}(P:PostW w g wr ρ h ρ' hp' h')(hd:∀a∈wr,a∈wr'∨h.get? a=none):PostW w g wr' ρ h ρ' hp' h':=
 ⟨P.rel,P.ext,P.fresh,fun b o h1 h2 e=>P.keep b o h1 (fun hm=>by rcases hd b hm with q | q;exact h2 q;rw[q] at e;cases e) e⟩
theorem PostW.trans(P:PostW w g wr ρ h ρ' hp' h')(P':PostW w g wr ρ' h' ρ'' hp'' h'')(hl:∀a∈wr,(∃o,h'.get? a=some o)∨h.get? a=none):PostW w g wr ρ h ρ'' hp'' h'':=by
 refine ZW P.ext fun n1 e1=>?_;refine ZW P'.ext fun n2 e2=>?_;refine ⟨P'.rel,⟨n1++n2,by rw[e2,e1,List.append_assoc]⟩,fun a ha hn=>?_,fun b o hb hb2 e=>?_⟩
 · by_cases hm:a∈ρ'
   · exact P.fresh a hm hn
   · have:=P'.fresh a ha hm;cases q:h.get? a with
     | none=>rfl
     | some o=>
      by_cases hw2:a∈wr
      · rcases hl a hw2 with ⟨o',q'⟩ | q'
        · rw[this] at q';cases q'
        · rw[q'] at q;cases q
      · rw[P.keep a o hn hw2 q] at this;cases this
 · refine P'.keep b o (fun hm=>?_) hb2 (P.keep b o hb hb2 e);have:=P.fresh b hm hb;rw[this] at e;cases e
theorem Rel.writeW(R:Rel w g ρ hp h){L:Addr}(hL:L∉ρ)(hg:g.get? L=none)(k:∀b o,b≠L→h.get? b=some o→h'.get? b=some o):PostW w g [L] ρ h ρ hp h':=by
 have kk:∀b,b≠L→∀o,h.get? b=some o→h'.get? b=some o:=fun b hb o e=>k b o hb e;refine ⟨⟨fun b o e=>k b o (fun q=>by rw[q,hg] at e;cases e) (R.base b o e),R.len,fun i mo a e1 e2=>?_,R.nd,R.off⟩,⟨[],(List.append_nil _).symm⟩,fun a h1 h2=>absurd h1 h2,fun b o hb h2 e=>k b o (fun q=>h2 (by rw[q];exact .head _)) e⟩;have x:=R.obj i mo a e1 e2;have ha:a≠L:=fun q=>hL (q▸List.mem_of_getElem? e2);refine ZW x.alive fun o ho=>?_;exact x.keep ((k a o ha ho).trans ho.symm)
structure St(w:World)(g:Heap)(E:EnvD)(ρ:List Addr)(hp:Hp)(ℓ:Loc)(env:Env)(h:Heap):Prop where
 rel:Rel w g ρ hp h
 sc:env.scope=E.scope
 fn:E.scope.kind=.function
 gl:env.globals=mainGlobals
 bi:env.builtins=builtinsNs
 cd:env.code=E.code
 qu:env.qual=E.qual
 cl:CR ρ E.cells env.cells
 Lρ:env.locals∉ρ
 Lg:g.get? env.locals=none
 loc:∃m,h.Ns env.locals m∧LR ρ E.slots ℓ m
variable {E:EnvD} {ℓ ℓ':Loc} {env:Env}
theorem LR.ext{sl:List Str}{m:Str→Option Value}(x:LR ρ sl ℓ m)(new:List Addr):LR (ρ++new) sl ℓ m:=fun i y v e1 e2=>by
 refine ZJ (x i y v e1 e2) fun v' h1 h2=>?_;exact Qd v' h1 (h2.ext new)
theorem St.post(S:St w g E ρ hp ℓ env h)(P:Post w g ρ h ρ' hp' h'):St w g E ρ' hp' ℓ env h':=by
 refine ZW P.ext fun new yq=>?_;subst yq;refine ZJ S.loc fun m yq hl=>?_;refine x3_2 yq fun o es ep ho r=>?_;exact ⟨P.rel,S.sc,S.fn,S.gl,S.bi,S.cd,S.qu,S.cl.ext new,P.notin S.Lρ ho,S.Lg,m,⟨o,es,ep,P.keep _ _ S.Lρ ho,r⟩,hl.ext new⟩
end
noncomputable def EvS(w:World)(g:Heap)(c:Nat)(E:EnvD)(ℓ:Loc)(hp:Hp)(e:PySem.Expr)(mv:MV)(hp':Hp):Prop:=
 ∀(ρ:List Addr) (env:Env) (s:Shared) (A:Around) (Q Ee:Value→Shared→Prop),St w g E ρ hp ℓ env s.heap→AOK c A→Ret w g ρ hp' mv Q s→wpAny (model pE w) A (eval e env) Q Ee s
noncomputable abbrev EF:=Loc→Hp→Option (MV×Hp)
noncomputable def DE(w:World)(g:Heap)(c:Nat)(E:EnvD)(e:PySem.Expr)(f:EF):Prop:=∀ℓ hp mv hp',f ℓ hp=some (mv,hp')→EvS w g c E ℓ hp e mv hp'
noncomputable def TvS(w:World)(g:Heap)(c:Nat)(E:EnvD)(ℓ:Loc)(hp:Hp)(e:PySem.Expr)(b:Bool)(hp':Hp):Prop:=
 ∀(ρ:List Addr) (env:Env) (s:Shared) (A:Around) (Q:Bool→Shared→Prop) (Ee:Value→Shared→Prop),St w g E ρ hp ℓ env s.heap→AOK c A→
  (∀(h':Heap) (tk:Nat) (ρ':List Addr),Post w g ρ s.heap ρ' hp' h'→Q b {s with heap:=h',toks:=tk})→wpAny (model pE w) A (isTrue e env (eval e env)) Q Ee s
noncomputable abbrev TF:=Loc→Hp→Option (Bool×Hp)
noncomputable def DT(w:World)(g:Heap)(c:Nat)(E:EnvD)(e:PySem.Expr)(f:TF):Prop:=∀ℓ hp b hp',f ℓ hp=some (b,hp')→TvS w g c E ℓ hp e b hp'
noncomputable def FR(ρ:List Addr):Ctl→Flow→Prop
 | .norm,f=>f=.next
 | .ret v,f=>∃x,f=.ret x∧VR ρ v x
noncomputable def SvS(w:World)(g:Heap)(c:Nat)(E:EnvD)(ℓ:Loc)(hp:Hp)(b:List Stmt)(k:Ctl)(ℓ':Loc)(hp':Hp):Prop:=
 ∀(ρ:List Addr) (env:Env) (s:Shared) (A:Around) (Q:Flow→Shared→Prop) (Ee:Value→Shared→Prop),St w g E ρ hp ℓ env s.heap→AOK c A→
  (∀(f:Flow) (h':Heap) (tk:Nat) (ρ':List Addr),FR ρ' k f→PostW w g [env.locals] ρ s.heap ρ' hp' h'→St w g E ρ' hp' ℓ' env h'→Q f {s with heap:=h',toks:=tk})→wpAny (model pE w) A (execs b env) Q Ee s
noncomputable def SvS1(w:World)(g:Heap)(c:Nat)(E:EnvD)(ℓ:Loc)(hp:Hp)(b:Stmt)(k:Ctl)(ℓ':Loc)(hp':Hp):Prop:=
 ∀(ρ:List Addr) (env:Env) (s:Shared) (A:Around) (Q:Flow→Shared→Prop) (Ee:Value→Shared→Prop),St w g E ρ hp ℓ env s.heap→AOK c A→
  (∀(f:Flow) (h':Heap) (tk:Nat) (ρ':List Addr),FR ρ' k f→PostW w g [env.locals] ρ s.heap ρ' hp' h'→St w g E ρ' hp' ℓ' env h'→Q f {s with heap:=h',toks:=tk})→wpAny (model pE w) A (exec b env) Q Ee s
noncomputable abbrev SF:=Loc→Hp→Option (Ctl×Loc×Hp)
noncomputable def DS(w:World)(g:Heap)(c:Nat)(E:EnvD)(b:List Stmt)(f:SF):Prop:=∀ℓ hp k ℓ' hp',f ℓ hp=some (k,ℓ',hp')→SvS w g c E ℓ hp b k ℓ' hp'
noncomputable def DS1(w:World)(g:Heap)(c:Nat)(E:EnvD)(b:Stmt)(f:SF):Prop:=∀ℓ hp k ℓ' hp',f ℓ hp=some (k,ℓ',hp')→SvS1 w g c E ℓ hp b k ℓ' hp'
section
variable {w:World} {g:Heap} {c:Nat} {E:EnvD}
theorem Ret.then{ρ ρ':List Addr}{hp' hp2:Hp}{mv:MV}{Q:Value→Shared→Prop}{s:Shared}{h':Heap}{tk:Nat}(h:Ret w g ρ hp2 mv Q s)(P:Post w g ρ s.heap ρ' hp' h'):
 Ret w g ρ' hp2 mv Q {s with heap:=h',toks:=tk}:=fun v h2 tk2 ρ2 P2 hv=>h v h2 tk2 ρ2 (P.trans P2) hv
noncomputable def Zf(i:Nat):EF:=fun ℓ hp=>match ℓ[i]? with
 | some (some v)=>some (v,hp)
 | _=>none
theorem DE.name(i:Nat){x:Str}{pos:Pos}(hi:E.slots[i]?=some x)(hk:E.scope.names.lookup x=some .local)(hd:(x==("__debug__" : Str))=false):DE w g c E (.Name x pos) (Zf i):=by
 intro ℓ hp mv hp' e;revert e;refine jLm fun v hv e=>?_;refine iS e ?_;intro ρ env s A Q Ee S hA h;refine ZJ S.loc fun m hm hl=>?_;refine ZJ (hl i x _ hi hv) fun v' h1 h2=>?_;exact wpAny_Name (wpAny_loadName_local (by rw[S.sc];exact S.fn) (by unfold Env.kindOf;rw[S.sc];exact hk) hm h1 (h.pure0 S.rel h2)) hd
noncomputable def Zb(v:MV):EF:=fun υ hp=>some (v,hp)
theorem DE.int{i:Int}{k:Nat}{pos:Pos}:DE w g c E (.Constant (.int i) k pos) (Zb (.int i)):=by
 intro ℓ hp mv hp' e;refine iS e ?_;intro ρ env s A Q Ee S hA h;exact wpAny_Constant_int (h.pure S.rel ⟨_,rfl⟩)
theorem DE.strc{x:Str}{k:Nat}{pos:Pos}:DE w g c E (.Constant (.str x) k pos) (Zb (.str x.cps.toList)):=by
 intro ℓ hp mv hp' e;refine iS e ?_;intro ρ env s A Q Ee S hA h;exact Calls.Constant_str (h.pure S.rel ⟨s.toks,by rw[Zhj]⟩)
theorem DE.boolc{b:Bool}{k:Nat}{pos:Pos}:DE w g c E (.Constant (.bool b) k pos) (Zb (.bool b)):=by
 intro ℓ hp mv hp' e;refine iS e ?_;intro ρ env s A Q Ee S hA h;exact wpAny_Constant_bool (h.pure0 S.rel rfl)
theorem DE.nonec{k:Nat}{pos:Pos}:DE w g c E (.Constant .none k pos) (Zb .none):=by
 intro ℓ hp mv hp' e;refine iS e ?_;intro ρ env s A Q Ee S hA h;exact wpAny_Constant_none (h.pure0 S.rel rfl)
noncomputable def ZB(op:Operator)(f1 f2:EF):EF:=fun ℓ hp=>match f1 ℓ hp with
 | some (a,hp1)=>(match f2 ℓ hp1 with
  | some (b,hp2)=>Zix op a b hp2
  | none=>none)
 | none=>none
theorem VR.post{ρ ρ':List Addr}{h h':Heap}{hp':Hp}{x:MV}{v:Value}(hv:VR ρ x v)(P:Post w g ρ h ρ' hp' h'):VR ρ' x v:=by
 refine ZW P.ext fun new yq=>?_;subst yq;exact hv.ext new
theorem DE.bin{op:Operator}{e1 e2:PySem.Expr}{f1 f2:EF}{pos:Pos}(d1:DE w g c E e1 f1)(d2:DE w g c E e2 f2):DE w g c E (.BinOp e1 op e2 pos) (ZB op f1 f2):=by
 intro ℓ hp mv hp' e;revert e;refine jV fun a hp1 q1 ea=>?_;revert ea;refine jV fun b hp2 q2 eb=>?_;intro ρ env s A Q Ee S hA h;refine wpAny_BinOp (d1 _ _ _ _ q1 ρ env s A _ Ee S hA fun va h1 tk1 ρ1 P1 v1=>?_);refine d2 _ _ _ _ q2 ρ1 env _ A _ Ee (S.post P1) hA fun vb h2 tk2 ρ2 P2 v2=>?_;exact Zlb eb P2.rel (v1.post P2) v2 (h.then (P1.trans P2))
noncomputable def ZS(op:CmpOp)(f1 f2:EF):TF:=fun ℓ hp=>match f1 ℓ hp with
 | some (a,hp1)=>(match f2 ℓ hp1 with
  | some (b,hp2)=>(match ZdE op a b hp2 with
   | some r=>some (r,hp2)
   | none=>none)
  | none=>none)
 | none=>none
noncomputable def ZbG(f:TF):EF:=fun ℓ hp=>match f ℓ hp with
 | some (b,hp')=>some (.bool b,hp')
 | none=>none
theorem DE.cmp{mg mb:Str→Option Value}(B:Bs w g mg mb){op:CmpOp}{e1 e2:PySem.Expr}{f1 f2:EF}{pos:Pos}(d1:DE w g (c+1) E e1 f1)(d2:DE w g (c+1) E e2 f2)(hm:behindInMarks op e2=false):DE w g (c+1) E (.Compare e1 [op] [e2] pos) (ZbG (ZS op f1 f2)):=by
 intro ℓ hp mv hp' e;revert e;refine jB fun r hpx q ea=>?_;refine iS ea ?_;revert q;refine jV fun a hp1 q1 qb=>?_;revert qb;refine jV fun b hp2 q2 qc=>?_;revert qc;refine jC fun r' q3 qd=>?_;refine oi2 qd fun yq yr=>?_;subst yq yr;intro ρ env s A Q Ee S hA h;refine wpAny_Compare1 (d1 _ _ _ _ q1 ρ env s A _ Ee S hA fun va h1 tk1 ρ1 P1 v1=>?_) hm;refine d2 _ _ _ _ q2 ρ1 env _ A _ Ee (S.post P1) hA fun vb h2 tk2 ρ2 P2 v2=>?_;exact ZjC q3 B.toB1 P2.rel (hA.le (by lia)) (v1.post P2) v2 (h.then (P1.trans P2))
theorem DT.cmp{mg mb:Str→Option Value}(B:Bs w g mg mb){op:CmpOp}{e1 e2:PySem.Expr}{f1 f2:EF}{pos:Pos}(d1:DE w g (c+1) E e1 f1)(d2:DE w g (c+1) E e2 f2)(hm:behindInMarks op e2=false):DT w g (c+1) E (.Compare e1 [op] [e2] pos) (ZS op f1 f2):=by
 intro ℓ hp r hp' q;revert q;refine jV fun a hp1 q1 qa=>?_;revert qa;refine jV fun b hp2 q2 qb=>?_;revert qb;refine jC fun r' q3 qc=>?_;refine iS qc ?_;intro ρ env s A Q Ee S hA h;refine wpAny_isTrue_Compare1 (d1 _ _ _ _ q1 ρ env s A _ Ee S hA fun va h1 tk1 ρ1 P1 v1=>?_) hm;refine d2 _ _ _ _ q2 ρ1 env _ A _ Ee (S.post P1) hA fun vb h2 tk2 ρ2 P2 v2=>?_;refine ZjC q3 B.toB1 P2.rel (hA.le (by lia)) (v1.post P2) v2 fun v h3 tk3 ρ3 P3 v3=>?_;cases v3
 exact wpAny_truthy_bool (h _ _ _ ((P1.trans P2).trans P3))
noncomputable def Zek(f:EF):TF:=fun ℓ hp=>match f ℓ hp with
 | some (v,hp')=>(match truth hp' v with
  | some b=>some (b,hp')
  | none=>none)
 | none=>none
theorem DT.value{e1:PySem.Expr}{f:EF}(d:DE w g c E e1 f)(he:∀env whole,isTrue e1 env whole=(do let v ← whole;standAt e1.pos;holding [v] (truthy v))):DT w g c E e1 (Zek f):=by
 intro ℓ hp r hp' q;revert q;refine jV fun v hp1 q1 qa=>?_;revert qa;refine jC fun b q2 qb=>?_;refine iS qb ?_;intro ρ env s A Q Ee S hA h;refine wpAny_isTrue_value (d _ _ _ _ q1 ρ env s A _ Ee S hA fun va h1 tk1 ρ1 P1 v1=>?_) (he _ _);exact ZcU q2 P1.rel v1 fun tk=>h _ _ _ P1
noncomputable def notT(f:TF):TF:=fun ℓ hp=>match f ℓ hp with
 | some (b,hp')=>some (!b,hp')
 | none=>none
theorem DT.not{e1:PySem.Expr}{f:TF}{pos:Pos}(d:DT w g c E e1 f):DT w g c E (.UnaryOp .Not e1 pos) (notT f):=by
 intro ℓ hp r hp' q;revert q;refine jB fun b hp1 q1 qa=>?_;refine iS qa ?_;intro ρ env s A Q Ee S hA h;exact wpAny_isTrue_Not (d _ _ _ _ q1 ρ env s A _ Ee S hA fun h1 tk1 ρ1 P1=>h _ _ _ P1)
noncomputable def andT(f1 f2:TF):TF:=fun ℓ hp=>match f1 ℓ hp with
 | some (true,hp1)=>f2 ℓ hp1
 | some (false,hp1)=>some (false,hp1)
 | none=>none
noncomputable def orT(f1 f2:TF):TF:=fun ℓ hp=>match f1 ℓ hp with
 | some (false,hp1)=>f2 ℓ hp1
 | some (true,hp1)=>some (true,hp1)
 | none=>none
noncomputable def andE(f1:EF)(f2:EF):EF:=fun ℓ hp=>match f1 ℓ hp with
 | some (v,hp1)=>(match truth hp1 v with
  | some true=>f2 ℓ hp1
  | some false=>some (v,hp1)
  | none=>none)
 | none=>none
theorem DE.and{e1 e2:PySem.Expr}{f1 f2:EF}{pos:Pos}(d1:DE w g c E e1 f1)(d2:DE w g c E e2 f2):DE w g c E (.BoolOp .And [e1,e2] pos) (andE f1 f2):=by
 intro ℓ hp mv hp' q;revert q;refine jV fun v hp1 q1 qa=>?_;intro ρ env s A Q Ee S hA h;refine wpAny_And2 (d1 _ _ _ _ q1 ρ env s A _ Ee S hA fun va h1 tk1 ρ1 P1 v1=>?_);split at qa
 · rename_i q2;refine ZcU q2 P1.rel v1 fun tk=>?_;exact d2 _ _ _ _ qa ρ1 env _ A _ Ee (S.post P1) hA (h.then P1)
 · rename_i q2;refine oi2 qa fun yq yr=>?_;subst yq yr;exact ZcU q2 P1.rel v1 fun tk=>h _ _ _ _ P1 v1
 · exact nn qa
end
end
set_option tactic.hygienic true
section
section
variable {w:World} {g:Heap} {c:Nat} {E:EnvD}
theorem St.alive{ρ:List Addr}{hp:Hp}{ℓ:Loc}{env:Env}{h:Heap}(S:St w g E ρ hp ℓ env h):∃o,h.get? env.locals=some o:=by
 obtain ⟨m,⟨o,es,ep,ho,r⟩,hl⟩:=S.loc;exact ⟨o,ho⟩
theorem St.transW{ρ ρ' ρ'':List Addr}{hp' hp'':Hp}{ℓ':Loc}{env:Env}{h h' h'':Heap}(P:PostW w g [env.locals] ρ h ρ' hp' h')(S:St w g E ρ' hp' ℓ' env h')(P':PostW w g [env.locals] ρ' h' ρ'' hp'' h''):PostW w g [env.locals] ρ h ρ'' hp'' h'':=
 P.trans P' fun a ha=>by rw[lms ha];exact .inl S.alive
theorem Zbw{x:Str}{i:Nat}{ρ:List Addr}{hp:Hp}{ℓ:Loc}{env:Env}{s:Shared}{A:Around}{Q:Unit→Shared→Prop}{Ee:Value→Shared→Prop}{mv:MV}{v:Value}
 (hi:E.slots[i]?=some x) (hk:E.scope.names.lookup x=some .local) (hn:E.slots.Nodup) (S:St w g E ρ hp ℓ env s.heap) (hv:VR ρ mv v)
 (h:∀h' tk,PostW w g [env.locals] ρ s.heap ρ hp h'→St w g E ρ hp (ℓ.set i (some mv)) env h'→Q () {s with heap:=h',toks:=tk}):wpAny (model pE w) A (storeName env x v) Q Ee s:=by
 refine ZJ S.loc fun m hm hl=>?_;refine wpAny_storeName_local (by unfold Env.kindOf;rw[S.sc];exact hk) hm (fun h' hm' hs'=>?_) (by rw[S.sc,S.fn];rfl);have P:PostW w g [env.locals] ρ s.heap ρ hp h':=S.rel.writeW S.Lρ S.Lg hs'.extBut;refine h h' _ P ⟨P.rel,S.sc,S.fn,S.gl,S.bi,S.cd,S.qu,S.cl,S.Lρ,S.Lg,_,hm',?_⟩;intro j y u e1 e2;by_cases hj:j=i
 · subst hj;rw[hi] at e1;cases e1;by_cases hlen:j < ℓ.length
   · rw[List.getElem?_set_self hlen] at e2;cases e2
     exact Qd v (by simp) hv
   · rw[List.getElem?_eq_none (by rw[List.length_set];lia)] at e2;cases e2
 · rw[List.getElem?_set_ne (Ne.symm hj)] at e2;refine ZJ (hl j y u e1 e2) fun v' h1 h2=>?_;have hne:y≠x:=fun q=>by
    subst q;obtain ⟨a1,b1⟩:=lge e1;obtain ⟨a2,b2⟩:=lge hi;have p:=List.pairwise_iff_getElem.mp hn;rcases Nat.lt_trichotomy j i with q | q | q
    · exact absurd (b1.trans b2.symm) (p j i a1 a2 q)
    · exact hj q
    · exact absurd (b2.trans b1.symm) (p i j a2 a1 q)
   exact Qd v' (by simp[hne,h1]) h2
noncomputable def ZA:SF:=fun ℓ hp=>some (.norm,ℓ,hp)
noncomputable def Zn(f1 f2:SF):SF:=fun ℓ hp=>match f1 ℓ hp with
 | some (.norm,ℓ1,hp1)=>f2 ℓ1 hp1
 | some (.ret v,ℓ1,hp1)=>some (.ret v,ℓ1,hp1)
 | none=>none
theorem DS.nil:DS w g c E [] ZA:=by
 intro ℓ hp k ℓ' hp' q;refine iT q ?_;intro ρ env s A Q Ee S hA h;exact wpAny_execs_nil (h .next s.heap s.toks ρ rfl S.rel.post.toW S)
theorem DS.cons{st:Stmt}{rest:List Stmt}{f1 f2:SF}(d1:DS1 w g c E st f1)(d2:DS w g c E rest f2):DS w g c E (st::rest) (Zn f1 f2):=by
 intro ℓ hp k ℓ' hp' q;unfold Zn at q;split at q
 · rename_i ℓ1 hp1 q1;intro ρ env s A Q Ee S hA h;refine wpAny_execs_cons (d1 _ _ _ _ _ q1 ρ env s A _ Ee S hA fun f h1 tk1 ρ1 hf P1 S1=>?_);cases hf
   refine d2 _ _ _ _ _ q ρ1 env _ A _ Ee S1 hA fun f h2 tk2 ρ2 hf P2 S2=>?_;exact h f h2 tk2 ρ2 hf (St.transW P1 S1 P2) S2
 · rename_i q1;refine iT q ?_;intro ρ env s A Q Ee S hA h;refine wpAny_execs_cons (d1 _ _ _ _ _ q1 ρ env s A _ Ee S hA fun f h1 tk1 ρ1 hf P1 S1=>?_);refine ZJ hf fun x yq hx=>?_;subst yq;exact h _ h1 tk1 ρ1 ⟨x,rfl,hx⟩ P1 S1
 · exact nn q
noncomputable def ZU(i:Nat)(f:EF):SF:=fun ℓ hp=>match f ℓ hp with
 | some (v,hp1)=>some (.norm,ℓ.set i (some v),hp1)
 | none=>none
theorem DS1.assign(i:Nat){x:Str}{p' pos:Pos}{e:PySem.Expr}{f:EF}(d:DE w g c E e f)(hi:E.slots[i]?=some x)(hk:E.scope.names.lookup x=some .local)(hn:E.slots.Nodup)
 (hs:∀env,swapsWith e (some (.Name x p')) pos.line env=pure false):DS1 w g c E (.Assign [.Name x p'] e pos) (ZU i f):=by
 intro ℓ hp k ℓ' hp' q;revert q;refine jV fun v hp1 q1 qa=>?_;refine iT qa ?_;intro ρ env s A Q Ee S hA h;refine wpAny_Assign_Name (d _ _ _ _ q1 ρ env s A _ Ee S hA fun va h1 tk1 ρ1 P1 v1=>?_) (hs env);refine Zbw hi hk hn (S.post P1) v1 fun h2 tk2 P2 S2=>?_;exact h .next h2 tk2 ρ1 rfl (St.transW P1.toW (S.post P1) P2) S2
noncomputable def Qk(f:EF):SF:=fun ℓ hp=>match f ℓ hp with
 | some (v,hp1)=>some (.ret v,ℓ,hp1)
 | none=>none
theorem DS1.ret{e:PySem.Expr}{f:EF}{pos:Pos}(d:DE w g c E e f):DS1 w g c E (.Return (some e) pos) (Qk f):=by
 intro ℓ hp k ℓ' hp' q;revert q;refine jV fun v hp1 q1 qa=>?_;refine iT qa ?_;intro ρ env s A Q Ee S hA h;exact wpAny_Return_some (d _ _ _ _ q1 ρ env s A _ Ee S hA fun va h1 tk1 ρ1 P1 v1=>h _ _ _ ρ1 ⟨va,rfl,v1⟩ P1.toW (S.post P1))
noncomputable def Zgu(f:EF):SF:=fun ℓ hp=>match f ℓ hp with
 | some (v,hp1)=>some (.norm,ℓ,hp1)
 | none=>none
theorem DS1.expr{e:PySem.Expr}{f:EF}{pos:Pos}(d:DE w g c E e f)(hs:∀env,swapsWith e none pos.line env=pure false):DS1 w g c E (.Expr e pos) (Zgu f):=by
 intro ℓ hp k ℓ' hp' q;revert q;refine jV fun v hp1 q1 qa=>?_;refine iT qa ?_;intro ρ env s A Q Ee S hA h;exact wpAny_Expr_any (d _ _ _ _ q1 ρ env s A _ Ee S hA fun va h1 tk1 ρ1 P1 v1=>h _ _ _ ρ1 rfl P1.toW (S.post P1)) (by unfold interactive;rw[S.sc,S.fn];rfl) (hs env)
noncomputable def ifS(t:TF)(f1 f2:SF):SF:=fun ℓ hp=>match t ℓ hp with
 | some (true,hp1)=>f1 ℓ hp1
 | some (false,hp1)=>f2 ℓ hp1
 | none=>none
theorem DS1.if{t:PySem.Expr}{b1 b2:List Stmt}{ft:TF}{f1 f2:SF}{pos:Pos}(dt:DT w g c E t ft)(d1:DS w g c E b1 f1)(d2:DS w g c E b2 f2):DS1 w g c E (.If t b1 b2 pos) (ifS ft f1 f2):=by
 intro ℓ hp k ℓ' hp' q;unfold ifS at q;split at q
 · rename_i hp1 q1;intro ρ env s A Q Ee S hA h;refine wpAny_If (dt _ _ _ _ q1 ρ env s A _ Ee S hA fun h1 tk1 ρ1 P1=>?_);refine d1 _ _ _ _ _ q ρ1 env _ A _ Ee (S.post P1) hA fun f h2 tk2 ρ2 hf P2 S2=>?_;exact h f h2 tk2 ρ2 hf (St.transW P1.toW (S.post P1) P2) S2
 · rename_i hp1 q1;intro ρ env s A Q Ee S hA h;refine wpAny_If (dt _ _ _ _ q1 ρ env s A _ Ee S hA fun h1 tk1 ρ1 P1=>?_);refine d2 _ _ _ _ _ q ρ1 env _ A _ Ee (S.post P1) hA fun f h2 tk2 ρ2 hf P2 S2=>?_;exact h f h2 tk2 ρ2 hf (St.transW P1.toW (S.post P1) P2) S2
 · exact nn q
noncomputable def ZiA(t:TF):SF:=fun ℓ hp=>match t ℓ hp with
 | some (true,hp1)=>some (.norm,ℓ,hp1)
 | _=>none
theorem DS1.assert{t:PySem.Expr}{msg:Option PySem.Expr}{ft:TF}{pos:Pos}(dt:DT w g c E t ft):DS1 w g c E (.Assert t msg pos) (ZiA ft):=by
 intro ℓ hp k ℓ' hp' q;unfold ZiA at q;split at q
 · rename_i hp1 q1;refine iT q ?_;intro ρ env s A Q Ee S hA h;exact wpAny_Assert_holds (dt _ _ _ _ q1 ρ env s A _ Ee S hA fun h1 tk1 ρ1 P1=>⟨rfl,h .next h1 tk1 ρ1 rfl P1.toW (S.post P1)⟩)
 · exact nn q
noncomputable def ZdS:SF:=fun υ υ=>none
theorem DS.never{b:List Stmt}:DS w g c E b ZdS:=by
 intro ℓ hp k ℓ' hp' q;exact nn q
noncomputable def Zbn(t:TF)(f:SF):Nat→SF
 | 0,_,_=>none
 | n+1,ℓ,hp=>match t ℓ hp with
  | some (false,hp1)=>some (.norm,ℓ,hp1)
  | some (true,hp1)=>(match f ℓ hp1 with
   | some (.norm,ℓ2,hp2)=>Zbn t f n ℓ2 hp2
   | some (.ret v,ℓ2,hp2)=>some (.ret v,ℓ2,hp2)
   | none=>none)
  | none=>none
theorem DS1.while(N:Nat){t:PySem.Expr}{b:List Stmt}{ft:TF}{f:SF}{pos:Pos}(dt:DT w g c E t ft)(d:DS w g c E b f):DS1 w g c E (.While t b [] pos) (Zbn ft f N):=by
 intro ℓ hp k ℓ' hp' q ρ env s A Q Ee S hA h;refine wpAny_While ?_;obtain ⟨J0,hJi,hJe⟩:∃J0:Nat→Shared→Prop,(∀n h1 tk1 ρ1 ℓ1 hp1,Zbn ft f n ℓ1 hp1=some (k,ℓ',hp')→PostW w g [env.locals] ρ s.heap ρ1 hp1 h1→St w g E ρ1 hp1 ℓ1 env h1→J0 n {s with heap:=h1,toks:=tk1})∧(∀n s' (G:Prop),J0 n s'→(∀h1 tk1 ρ1 ℓ1 hp1,s'={s with heap:=h1,toks:=tk1}→Zbn ft f n ℓ1 hp1=some (k,ℓ',hp')→PostW w g [env.locals] ρ s.heap ρ1 hp1 h1→St w g E ρ1 hp1 ℓ1 env h1→G)→G):=
  ⟨fun n s'=>∀G:Prop,(∀h1 tk1 ρ1 ℓ1 hp1,s'={s with heap:=h1,toks:=tk1}→Zbn ft f n ℓ1 hp1=some (k,ℓ',hp')→PostW w g [env.locals] ρ s.heap ρ1 hp1 h1→St w g E ρ1 hp1 ℓ1 env h1→G)→G,fun n h1 tk1 ρ1 ℓ1 hp1 u0' u1' u2' G k=>k h1 tk1 ρ1 ℓ1 hp1 rfl u0' u1' u2',fun n s' G y k=>y G k⟩
 refine codeAny_whileLoop J0 ?_ N (hJi _ s.heap s.toks ρ ℓ hp q S.rel.post.toW S);intro n s' z'1;refine hJe _ _ _ z'1 fun h1 tk1 ρ1 ℓ1 hp1 wq q1 P1 S1=>?_;subst wq;cases n with
 | zero=>cases q1
 | succ n=>
  unfold Zbn at q1;split at q1
  · rename_i hp2 q2;refine oi3 q1 fun yq yr y'3=>?_;subst yq yr y'3;refine dt _ _ _ _ q2 ρ1 env _ _ _ _ S1 hA fun h2 tk2 ρ2 P2=>?_;simp only[Bool.false_eq_true,if_false];exact wpAny_execs_nil (h .next h2 tk2 ρ2 rfl (St.transW P1 S1 P2.toW) (S1.post P2))
  · rename_i hp2 q2;refine dt _ _ _ _ q2 ρ1 env _ _ _ _ S1 hA fun h2 tk2 ρ2 P2=>?_;simp only[if_true];split at q1
    · rename_i ℓ3 hp3 q3;refine d _ _ _ _ _ q3 ρ2 env _ _ _ _ (S1.post P2) hA fun fl h3 tk3 ρ3 hf P3 S3=>?_;cases hf
      exact Qd n (Nat.lt_succ_self n) (hJi _ h3 tk3 ρ3 ℓ3 hp3 q1 (St.transW P1 S1 (St.transW P2.toW (S1.post P2) P3)) S3)
    · rename_i v ℓ3 hp3 q3;refine oi3 q1 fun yq yr y'3=>?_;subst yq yr y'3;refine d _ _ _ _ _ q3 ρ2 env _ _ _ _ (S1.post P2) hA fun fl h3 tk3 ρ3 hf P3 S3=>?_;refine ZJ hf fun x yq hx=>?_;subst yq;exact h _ h3 tk3 ρ3 ⟨x,rfl,hx⟩ (St.transW P1 S1 (St.transW P2.toW (S1.post P2) P3)) S3
    · exact nn q1
  · exact nn q1
end
end
section
inductive Src where
 | list (k:Nat)
 | str (s:List Nat)
 | range (a:Int) (n:Nat)
theorem iR{β:Type}{o:Option (Src×Hp)}{k:Src→Hp→Option β}{r:β}{G:Prop}(q:(match o with | some (v,h)=>k v h | none=>none)=some r)(f:∀v h,o=some (v,h)→k v h=some r→G):G:=by
 cases o with
 | none=>exact nn q
 | some m=>cases m with
  | mk a b=>exact f a b rfl q
noncomputable def Src.item:Src→Nat→Hp→Option (Option MV)
 | .list k,i,hp=>match hp[k]? with
  | some (.list xs)=>some xs[i]?
  | _=>none
 | .str s,i,_=>match s[i]? with
  | some c=>some (some (.str [c]))
  | none=>some none
 | .range a n,i,_=>if i < n then some (some (.int (a+i))) else some none
noncomputable def ItS(w:World)(ρ:List Addr):Src→Nat→Addr→Heap→Prop
 | .list k,i,I,h=>∃a,ρ[k]?=some a∧h.IsListIter I a i
 | .str s,i,I,h=>∃t,h.IsStrIter I (strIterType (mkS s)) (mkS s) t i∧i≤s.length
 | .range a n,i,I,h=>IsRangeIter h I (a+i) ((n:Int) - i) 1
section
variable {w:World} {g:Heap} {c:Nat} {E:EnvD} {ρ ρ':List Addr} {hp hp':Hp}
theorem ItS.keep{src:Src}{i:Nat}{I:Addr}{h h':Heap}(x:ItS w ρ src i I h)(k:∀o,h.get? I=some o→h'.get? I=some o):ItS w ρ src i I h':=by
 cases src with
 | list a=>obtain ⟨a,e,⟨o,ho,r⟩⟩:=x;exact ⟨a,e,o,k o ho,r⟩
 | str s=>obtain ⟨t,⟨o,ho,r⟩,r2⟩:=x;exact ⟨t,⟨o,k o ho,r⟩,r2⟩
 | range a n=>exact k _ x
theorem ItS.ext{src:Src}{i:Nat}{I:Addr}{h:Heap}(x:ItS w ρ src i I h)(new:List Addr):ItS w (ρ++new) src i I h:=by
 cases src with
 | list a=>obtain ⟨a,e,r⟩:=x;exact ⟨a,ZaX e new,r⟩
 | str s=>exact x
 | range a n=>exact x
theorem ItS.alive{src:Src}{i:Nat}{I:Addr}{h:Heap}(x:ItS w ρ src i I h):∃o,h.get? I=some o:=by
 cases src with
 | list a=>obtain ⟨a,e,⟨o,ho,r⟩⟩:=x;exact ⟨o,ho⟩
 | str s=>obtain ⟨t,⟨o,ho,r⟩,r2⟩:=x;exact ⟨o,ho⟩
 | range a n=>exact ⟨_,x⟩
theorem ZiO(hA:Around)(hh:hA.handled=none)(x:Str)(t:Tok)(I:Addr):Walks pE w hA I [I] [I] x.cps.size (SignAt x) (fun i h=>h.IsStrIter I (strIterType x) x t i):=by
 cases ha:x.cps.all (· < 128)
 · have:strIterType x = "str_iterator" := by simp[strIterType,ha]
   rw[this];exact Walks.strWide hh I x t
 · have:strIterType x = "str_ascii_iterator" := by simp[strIterType,ha]
   rw[this];exact Walks.strAscii hh I x t
noncomputable def nextR(w:World)(ρ:List Addr)(src:Src)(i:Nat)(I:Addr)(h:Heap):Option MV→Option Value→Prop
 | some mv,some v=>VR ρ mv v∧ItS w ρ src (i+1) I h
 | none,none=>True
 | _,_=>False
theorem src_next{src:Src}{i:Nat}{I:Addr}{s:Shared}{A:Around}{Q:Option Value→Shared→Prop}{Ee:Value→Shared→Prop}{r:Option MV}(R:Rel w g ρ hp s.heap)(hA:A.handled=none)(hI:I∉ρ)
 (it:ItS w ρ src i I s.heap) (e:src.item i hp=some r) (h:∀h' tk v,nextR w ρ src i I h' r v→(∀b o,b≠I→s.heap.get? b=some o→h'.get? b=some o)→Q v {s with heap:=h',toks:=tk}):
 wpAny (model pE w) A (pyNext (.ref I)) Q Ee s:=by
 cases src with
 | list k=>
  refine ZJ it fun a ea hit=>?_;simp only[Src.item] at e;revert e;refine jW fun xs hk e=>?_;refine oi1 e fun yq=>?_;subst yq;refine Qs (R.list hk (v:=.ref a) ⟨a,ea,rfl⟩) fun a' vs ea' he hl x=>?_;cases he
  cases q:xs[i]? with
  | none=>
   refine wpAny_pyNext_list_end hA hit (Zaa hl) (by
    have:=List.getElem?_eq_none_iff.mp q;simp[x.len];lia) fun h' he=>?_
   exact h h' s.toks none (by rw[q];trivial) he
  | some mv=>
   refine ZJ (x.at i mv q) fun v e1 e2=>?_;refine wpAny_pyNext_list_item hit (Zaa hl) (x:=v) (by simpa using e1) fun h' hit' hs'=>?_;exact h h' s.toks (some v) (by rw[q];exact ⟨e2,a,ea,hit'⟩) hs'.extBut
 | str x=>
  refine ZJ it fun t st hle=>?_;have W:=ZiO (w:=w) A hA (mkS x) t I;simp only[Src.item] at e;split at e
  · rename_i ch q;refine oi1 e fun yq=>?_;subst yq;have hlt:i < (mkS x).cps.size:=by
     obtain ⟨a,_⟩:=lge q;simpa [mkS] using a
    refine W.item i s _ _ hlt st fun v h' tk hP st' k=>?_;refine ZeF hP fun ch' u q1 yq=>?_;subst yq;have e1:ch'=ch:=by
     have:(mkS x).cps[i]?=x[i]?:=by simp[mkS]
     rw[this,q] at q1;cases q1;rfl
    subst e1;refine h h' tk _ ⟨⟨u,rfl⟩,t,st',?_⟩ fun b o hb e=>k b o (by simpa using hb) e;have:i < x.length:=by simpa [mkS] using hlt
    lia
  · rename_i q;refine oi1 e fun yq=>?_;subst yq;have hi:i=(mkS x).cps.size:=by
     have:=List.getElem?_eq_none_iff.mp q;simp[mkS];lia
    subst hi;refine W.done s _ _ st fun h' tk k=>?_;exact h h' tk none trivial fun b o hb e=>k b o (by simpa using hb) e
 | range a n=>
  simp only[Src.item] at e;split at e
  · rename_i hlt;refine oi1 e fun yq=>?_;subst yq;refine wpAny_pyNext_range_item it (by lia) fun h' hit' hs'=>?_;refine h h' _ _ ⟨⟨_,rfl⟩,?_⟩ hs'.extBut;show IsRangeIter h' I (a+((i+1:Nat):Int)) ((n:Int) - ((i+1:Nat):Int)) 1
    have e1:a+((i+1:Nat):Int)=a+i+1:=by push_cast;lia
    have e2:(n:Int) - ((i+1:Nat):Int)=n - i - 1:=by push_cast;lia
    rw[e1,e2];exact hit'
  · refine oi1 e fun yq=>?_;subst yq;refine wpAny_pyNext_range_end hA it (by lia) fun h' he=>?_;exact h h' _ none trivial he
noncomputable def IvS(w:World)(g:Heap)(c:Nat)(E:EnvD)(ℓ:Loc)(hp:Hp)(e:PySem.Expr)(src:Src)(hp':Hp):Prop:=
 ∀(ρ:List Addr) (env:Env) (s:Shared) (A:Around) (Q Ee:Value→Shared→Prop),St w g E ρ hp ℓ env s.heap→AOK c A→
  (∀(I:Addr) (h':Heap) (tk:Nat) (ρ':List Addr),Post w g ρ s.heap ρ' hp' h'→I∉ρ'→g.get? I=none→s.heap.get? I=none→ItS w ρ' src 0 I h'→(∃o,h'.get? I=some o)→Q (.ref I) {s with heap:=h',toks:=tk})→
  wpAny (model pE w) A (eval e env) (fun x s₁=>wpAny (model pE w) A (pyIter x) Q Ee s₁) Ee s
noncomputable abbrev IF:=Loc→Hp→Option (Src×Hp)
noncomputable def DI(w:World)(g:Heap)(c:Nat)(E:EnvD)(e:PySem.Expr)(f:IF):Prop:=∀ℓ hp src hp',f ℓ hp=some (src,hp')→IvS w g c E ℓ hp e src hp'
noncomputable def itE(f:EF):IF:=fun ℓ hp=>match f ℓ hp with
 | some (.ref k,hp')=>(match hp'[k]? with
  | some (.list _)=>some (.list k,hp')
  | _=>none)
 | some (.str s,hp')=>some (.str s,hp')
 | _=>none
theorem ZG(h:Heap):h.get? h.objs.size=none:=by
 cases e:h.get? h.objs.size with
 | none=>rfl
 | some o=>exact absurd (Heap.lt_size e) (Nat.lt_irrefl _)
theorem Zak{g h:Heap}{I:Addr}(base:∀b o,g.get? b=some o→h.get? b=some o)(e:h.get? I=none):g.get? I=none:=by
 cases q:g.get? I with
 | none=>rfl
 | some o=>rw[base _ _ q] at e;cases e
theorem Rel.notin_none{h:Heap}(R:Rel w g ρ hp h){I:Addr}(e:h.get? I=none):I∉ρ:=fun hm=>by
 obtain ⟨i,hi,rfl⟩:=List.mem_iff_getElem.mp hm;have hi':i < hp.length:=by rw[← R.len];exact hi
 obtain ⟨o,ho⟩:=(R.obj i hp[i] ρ[i] (List.getElem?_eq_getElem hi') (List.getElem?_eq_getElem hi)).alive;rw[e] at ho;cases ho
theorem Post.notin_none{h h':Heap}(P:Post w g ρ h ρ' hp' h')(R:Rel w g ρ hp h){I:Addr}(e:h'.get? I=none):h.get? I=none:=by
 cases q:h.get? I with
 | none=>rfl
 | some o=>
  by_cases hm:I∈ρ
  · refine ZW P.ext fun n yq=>?_;subst yq;exact absurd (List.mem_append_left n hm) (P.rel.notin_none e)
  · rw[P.keep I o hm q] at e;cases e
noncomputable def itEo(o:Option (MV×Hp)):Option (Src×Hp):=match o with
 | some (.ref k,hp')=>(match hp'[k]? with
  | some (.list _)=>some (.list k,hp')
  | _=>none)
 | some (.str s,hp')=>some (.str s,hp')
 | _=>none
theorem itE_o{f:EF}{ℓ:Loc}{hp:Hp}{o:Option (MV×Hp)}(e:f ℓ hp=o):itE f ℓ hp=itEo o:=by subst e;rfl
theorem DI.value{e:PySem.Expr}{f:EF}(d:DE w g c E e f):DI w g c E e (itE f):=by
 intro ℓ hp src hp' q;cases q1:f ℓ hp with
 | none=>exact nn ((itE_o q1).symm.trans q)
 | some p=>cases p with
  | mk v hp1=>cases v with
  | ref k=>
   have q:=(itE_o q1).symm.trans q;revert q;refine jW fun xs q2 q=>?_;refine iS q ?_;intro ρ env s A Q Ee S hA h;refine d _ _ _ _ q1 ρ env s A _ Ee S hA fun va h1 tk1 ρ1 P1 v1=>?_;refine Qs (P1.rel.list (s:={s with heap:=h1,toks:=tk1}) q2 v1) fun a vs ea yq hl x=>?_;subst yq;refine wpAny_pyIter_list (Zaa hl) ?_;have P2:Post w g ρ1 h1 ρ1 _ (h1.push {cls:=.type "list_iterator", data:=.fields #[.ref a,.int 0 0]}):=P1.rel.keep fun b o e=>Heap.get?_push_of_some _ e;refine h h1.objs.size _ _ ρ1 (P1.trans P2) (P1.rel.notin_none (ZG h1)) (Zak P1.rel.base (ZG h1)) (P1.notin_none S.rel (ZG h1)) ⟨a,ea,_,Heap.get?_push_size _ rfl,rfl,rfl⟩ ⟨_,Heap.get?_push_size _ rfl⟩
  | str x=>
   refine oi2 ((itE_o q1).symm.trans q) fun yq yr=>?_;subst yq yr;intro ρ env s A Q Ee S hA h;refine d _ _ _ _ q1 ρ env s A _ Ee S hA fun va h1 tk1 ρ1 P1 v1=>?_;refine vrT v1 fun t=>?_;refine wpAny_pyIter_strU ?_;have P2:Post w g ρ1 h1 ρ1 hp' (h1.push {cls:=.type (strIterType (mkS x)),data:=.fields #[.str (mkS x) t,.int 0 0]}):=P1.rel.keep fun b o e=>Heap.get?_push_of_some _ e;refine h h1.objs.size _ _ ρ1 (P1.trans P2) (P1.rel.notin_none (ZG h1)) (Zak P1.rel.base (ZG h1)) (P1.notin_none S.rel (ZG h1)) ⟨t,⟨_,Heap.get?_push_size _ rfl,rfl,rfl⟩,Nat.zero_le _⟩ ⟨_,Heap.get?_push_size _ rfl⟩
  | _=>exact nn ((itE_o q1).symm.trans q)
end
end
section
noncomputable def ZE(scope sc:Scope):Scope:={scope with names:=scope.names.map fun (n,k)=>if (k==.free&&sc.kind==.function&&sc.names.lookup n==some .cell) then (n,.cell) else (n,k)}
theorem ZgV(scope:Scope)(env:Env):relabel scope env=ZE scope env.scope:=rfl
noncomputable def Zae(from_:List (Str×Nat))(scope:Scope):List (Str×Nat)→Prop
 | []=>True
 | (x,k)::r=>from_.lookup x=some k∧(x,NameKind.free)∈scope.names∧Zae from_ scope r
noncomputable def Zbg(cells:List (Str×Addr)):List (Str×NameKind)→List (Str×Addr)→List (Str×Addr)
 | [],acc=>acc
 | (n,k)::r,acc=>if k==.free then (match cells.lookup n with | some a=>Zbg cells r ((n,a)::acc) | none=>Zbg cells r acc) else Zbg cells r acc
theorem ZjD{env:Env}:∀(names:List (Str×NameKind)) (acc:List (Str×Addr)),(∀n,(n,NameKind.free)∈names→(env.cells.lookup n).isSome=true)→
 (forIn names acc (fun (x:Str×NameKind) (r:List (Str×Addr))=>(match x with | (name,kind)=>if (kind==.free)=true then (do let y ← cellOf env name;pure (ForInStep.yield ((name,y)::r))) else pure (ForInStep.yield r):Sem (ForInStep (List (Str×Addr))))):Sem (List (Str×Addr)))=pure (Zbg env.cells names acc):=by
 intro r;induction r with
 | nil=>
  intro acc υ;exact rfl
 | cons z' r ih=>
  obtain ⟨n,k⟩:=z';intro acc h;rw[List.forIn_cons];have ih:=fun acc=>ih acc fun m hm=>h m (.tail _ hm);by_cases hk:(k==.free)=true
  · have hk':k=.free:=by simpa using hk
    subst hk';refine ZW (Option.isSome_iff_exists.mp (h n (.head _))) fun a ha=>?_;simp only[cellOf,ha,Zbg,beq_self_eq_true,if_true,pure_bind];exact ih _
  · simp only[Zbg,hk,Bool.false_eq_true,if_false,pure_bind];exact ih _
theorem ZaQ{scope:Scope}{env:Env}(h:∀n,(n,NameKind.free)∈scope.names→(env.cells.lookup n).isSome=true):closureFor scope env=pure (Zbg env.cells scope.names []):=by
 have:=ZjD (env:=env) scope.names [] h;unfold closureFor;simp only[pure_bind,bind_pure];exact this
theorem Zip{cells:List (Str×Addr)}{x:Str}{a:Addr}(ha:cells.lookup x=some a):∀(names:List (Str×NameKind)) (acc:List (Str×Addr)),((x,NameKind.free)∈names∨acc.lookup x=some a)→(∀b,acc.lookup x=some b→b=a)→(Zbg cells names acc).lookup x=some a:=by
 intro r;induction r with
 | nil=>
  intro acc h h2;rcases h with h | h
  · cases h
  · exact h
 | cons z' r ih=>
  obtain ⟨n,k⟩:=z';intro acc h h2;by_cases hk:(k==.free)=true
  · have hk':k=.free:=by simpa using hk
    subst hk';simp only[Zbg,beq_self_eq_true,if_true];by_cases hn:x=n
    · subst hn;rw[ha];exact ih _ (.inr (by simp[List.lookup_cons])) fun b hb=>by simp[List.lookup_cons] at hb;exact hb.symm
    · have hb:(x==n)=false:=beq_eq_false_iff_ne.mpr hn;have h':(x,NameKind.free)∈r∨acc.lookup x=some a:=by
       rcases h with h | h
       · rcases lmc h with e | e
         · cases e;exact absurd rfl hn
         · exact .inl e
       · exact .inr h
      split
      · refine ih _ ?_ ?_
        · rw[List.lookup_cons,hb];exact h'
        · rw[List.lookup_cons,hb];exact h2
      · exact ih _ h' h2
  · simp only[Zbg,hk,Bool.false_eq_true,if_false];refine ih _ ?_ h2;rcases h with h | h
    · rcases lmc h with e | e
      · cases e;simp at hk
      · exact .inl e
    · exact .inr h
theorem CR.from{ρ:List Addr}{fr:List (Str×Nat)}{cs:List (Str×Addr)}{scope:Scope}(h:CR ρ fr cs):∀{cl:List (Str×Nat)},Zae fr scope cl→CR ρ cl (Zbg cs scope.names [])
 | [],_=>fun x k e=>by cases e
 | (y,k)::r,⟨e1,e2,e3⟩=>fun x k' e=>by
  rw[List.lookup_cons] at e;by_cases hx:x=y
  · subst hx;simp at e;subst e;refine ZJ (h x k e1) fun a h1 h2=>?_;exact Qd a h1 (Zip h2 _ _ (.inl e2) (by intro b hb;cases hb))
  · have hb:(x==y)=false:=beq_eq_false_iff_ne.mpr hx;rw[hb] at e;exact CR.from h e3 x k' e
section
variable {w:World} {g:Heap} {c:Nat} {E:EnvD}
theorem Zem{src:Src}{i:Nat}{I:Addr}{ρ:List Addr}{s:Shared}{A:Around}{Q:Value→Shared→Prop}{Ee:Value→Shared→Prop}(hA:A.handled=none)(it:ItS w ρ src i I s.heap)(h:Q (.ref I) s):wpAny (model pE w) A (pyIter (.ref I)) Q Ee s:=by
 cases src with
 | list k=>obtain ⟨a,ea,hit⟩:=it;exact wpAny_pyIter_listiter hit h
 | str x=>obtain ⟨t,st,hle⟩:=it;exact (ZiO (w:=w) A hA (mkS x) t I).self i s Q Ee st h
 | range a n=>exact wpAny_pyIter_rangeiter it h
noncomputable def TsS(w:World)(g:Heap)(c:Nat)(E:EnvD)(ℓ:Loc)(hp:Hp)(ifs:List PySem.Expr)(b:Bool)(hp':Hp):Prop:=
 ∀(ρ:List Addr) (env:Env) (s:Shared) (A:Around) (Q:Bool→Shared→Prop) (Ee:Value→Shared→Prop),St w g E ρ hp ℓ env s.heap→AOK c A→
  (∀(h':Heap) (tk:Nat) (ρ':List Addr),Post w g ρ s.heap ρ' hp' h'→Q b {s with heap:=h',toks:=tk})→
  wpAny (model pE w) A (forIn ifs true fun c r=>if r=true then do let ok ← isTrue c env (eval c env);pure (ForInStep.yield ok) else pure (ForInStep.yield r)) Q Ee s
noncomputable def DTs(w:World)(g:Heap)(c:Nat)(E:EnvD)(ifs:List PySem.Expr)(f:TF):Prop:=∀ℓ hp b hp',f ℓ hp=some (b,hp')→TsS w g c E ℓ hp ifs b hp'
noncomputable def Qi:TF:=fun υ hp=>some (true,hp)
theorem DTs.nil:DTs w g c E [] Qi:=by
 intro ℓ hp b hp' q;refine iS q ?_;intro ρ env s A Q Ee S hA h;exact wpAny_pure (h s.heap s.toks ρ S.rel.post)
theorem DTs.one{e:PySem.Expr}{f:TF}(d:DT w g c E e f):DTs w g c E [e] f:=by
 intro ℓ hp b hp' q ρ env s A Q Ee S hA h;rw[List.forIn_cons];simp only[if_true];refine wpAny_bind (wpAny_bind (d _ _ _ _ q ρ env s A _ Ee S hA fun h1 tk1 ρ1 P1=>?_));refine wpAny_pure ?_;exact wpAny_pure (h h1 tk1 ρ1 P1)
noncomputable def Zas(k:Nat)(x:MV)(hp:Hp):Option Hp:=match hp[k]? with
 | some (.list xs)=>if xs.length≤100000 then some (hp.set k (.list (xs++[x]))) else none
 | _=>none
theorem ZdZ{k:Nat}{x:MV}{hp hp':Hp}{ρ:List Addr}{s:Shared}{A:Around}{Q:Value→Shared→Prop}{Ee:Value→Shared→Prop}{a:Addr}{v:Value}(R:Rel w g ρ hp s.heap)(e:Zas k x hp=some hp')(ha:ρ[k]?=some a)(hv:VR ρ x v)
 (h:∀h',Post w g ρ s.heap ρ hp' h'→Q .none {s with heap:=h'}):wpAny (model pE w) A (call (.builtin "list.append") [.ref a,v]) Q Ee s:=by
 revert e;refine jW fun xs hk e=>?_;revert e;refine jI fun hz e=>?_;refine oi1 e fun yq=>?_;subst yq;refine Qs (R.list hk (v:=.ref a) ⟨a,ha,rfl⟩) fun a' vs ea' he hl xx=>?_;cases he
 refine wpAny_list_append_plain hl (fun h' hl' hs'=>h h' (R.update ha hs' ?_)) (by simp[xx.len,sizeLine];lia);exact Qd (vs++[v]) (by simpa using hl') (xx.append (.cons hv .nil))
noncomputable def Zgc(src:Src)(k:Nat)(t:TF)(f:EF):Nat→Nat→Hp→Option Hp
 | 0,_,_=>none
 | n+1,i,hp=>match src.item i hp with
  | some none=>some hp
  | some (some v)=>(match t [some v] hp with
   | some (false,hp2)=>Zgc src k t f n (i+1) hp2
   | some (true,hp2)=>(match f [some v] hp2 with
    | some (x,hp3)=>(match Zas k x hp3 with
     | some hp4=>Zgc src k t f n (i+1) hp4
     | none=>none)
    | none=>none)
   | none=>none)
  | none=>none
noncomputable def Qb(it:IF)(t:TF)(f:EF)(N:Nat):EF:=fun ℓ hp=>match it ℓ hp with
 | some (src,hp1)=>(match Zgc src hp1.length t f N 0 (hp1++[.list []]) with
  | some hp2=>some (.ref hp1.length,hp2)
  | none=>none)
 | none=>none
noncomputable def EnvD.comp(E:EnvD)(scope:Scope)(x:Str)(cl:List (Str×Nat)):EnvD:=⟨ZE scope E.scope,[x],cl,E.code,E.qual⟩
theorem Rel.writeWs{ρ:List Addr}{hp:Hp}{h h':Heap}{wr:List Addr}(R:Rel w g ρ hp h)(hL:∀a∈wr,a∉ρ∧g.get? a=none)(k:∀b o,b∉wr→h.get? b=some o→h'.get? b=some o):PostW w g wr ρ h ρ hp h':=by
 refine ⟨⟨fun b o e=>k b o (fun q=>by rw[(hL b q).2] at e;cases e) (R.base b o e),R.len,fun i mo a e1 e2=>?_,R.nd,R.off⟩,⟨[],(List.append_nil _).symm⟩,fun a h1 h2=>absurd h1 h2,fun b o hb h2 e=>k b o h2 e⟩;have x:=R.obj i mo a e1 e2;have ha:a∉wr:=fun q=>(hL a q).1 (List.mem_of_getElem? e2);refine ZW x.alive fun o ho=>?_;exact x.keep ((k a o ha ho).trans ho.symm)
noncomputable def DEtS(T:Nat)(w:World)(g:Heap)(c:Nat)(E:EnvD)(e:PySem.Expr)(ℓ:Loc)(hp:Hp)(mv:MV)(hp':Hp):Prop:=∀(ρ:List Addr) (env:Env) (s:Shared) (A:Around) (Q Ee:Value→Shared→Prop),St w g E ρ hp ℓ env s.heap→AOK c A→T≤s.toks→Ret w g ρ hp' mv Q s→wpAny (model pE w) A (eval e env) Q Ee s
noncomputable def DEt(T:Nat)(w:World)(g:Heap)(c:Nat)(E:EnvD)(e:PySem.Expr)(f:EF):Prop:=∀ℓ hp mv hp',f ℓ hp=some (mv,hp')→DEtS T w g c E e ℓ hp mv hp'
theorem ZoQ{e:PySem.Expr}{env:Env}{T:Nat}{s:Shared}{A:Around}{Q Ee:Value→Shared→Prop}(hT0:T≤s.toks)(h:wpAny (model pE w) A (eval e env) (fun x s₁=>wpAny (model pE w) A (pyIter x) (fun it s₂=>T≤s₂.toks→Q it s₂) Ee s₁) Ee s):
 wpAny (model pE w) A (eval e env) (fun x s₁=>wpAny (model pE w) A (pyIter x) Q Ee s₁) Ee s:=
 wpAny_with_toks hT0 (wpAny_mono h (fun x s1 h1 hT1=>wpAny_with_toks hT1 (wpAny_mono h1 (fun it s2 h2 hT2=>h2 hT2) fun υ υ e υ=>e)) fun υ υ e υ=>e)
theorem PostW.write{wr:List Addr}{ρ ρ':List Addr}{hp':Hp}{h h' h'':Heap}{C:Addr}(P:PostW w g wr ρ h ρ' hp' h')(hC:C∉ρ')(hg:g.get? C=none)(hm:C∈wr)(k:∀b o,b≠C→h'.get? b=some o→h''.get? b=some o):PostW w g wr ρ h ρ' hp' h'':=
 ⟨(P.rel.writeW hC hg k).rel,P.ext,P.fresh,fun b o h1 h2 e=>k b o (fun q=>h2 (q▸hm)) (P.keep b o h1 h2 e)⟩
theorem Zbf{ρ:List Addr}{cells:List (Str×Nat)}{cs:List (Str×Addr)}(h:CR ρ cells cs){scope:Scope}(hf:∀n,(n,NameKind.free)∈scope.names→(cells.lookup n).isSome=true):∀n,(n,NameKind.free)∈scope.names→(cs.lookup n).isSome=true:=fun n hn=>by
 refine ZW (Option.isSome_iff_exists.mp (hf n hn)) fun k e=>?_;refine ZJ (h n k e) fun a h1 h2=>?_;rw[h2];rfl
theorem DE.t0{e:PySem.Expr}{f:EF}(d:DE w g c E e f):DEt 0 w g c E e f:=fun ℓ hp mv hp' q ρ env s A Q Ee S hA υ h=>d ℓ hp mv hp' q ρ env s A Q Ee S hA h
noncomputable def wk(ℓ' ℓ:Loc):Prop:=∀(i:Nat) (v:MV),ℓ'[i]?=some (some v)→ℓ[i]?=some (some v)
theorem wkn(n:Nat)(ℓ:Loc):wk (List.replicate n none) ℓ:=fun i v e=>by
 rw[List.getElem?_replicate] at e;split at e
 · cases e
 · cases e
theorem wk.cons{a:Option MV}{r r':Loc}(h:wk r r'):wk (a::r) (a::r'):=fun i v e=>by
 cases i with
 | zero=>exact e
 | succ i=>exact h i v e
theorem St.weak{ρ:List Addr}{hp:Hp}{ℓ ℓ':Loc}{env:Env}{h:Heap}(S:St w g E ρ hp ℓ env h)(hl:wk ℓ' ℓ):St w g E ρ hp ℓ' env h:=by
 refine ZJ S.loc fun m hm hr=>?_;exact ⟨S.rel,S.sc,S.fn,S.gl,S.bi,S.cd,S.qu,S.cl,S.Lρ,S.Lg,m,hm,fun i x v e1 e2=>hr i x v e1 (hl i v e2)⟩
theorem ZaN{p:Addr→Prop}{I:Addr}(h:p I):∀a∈[I],p a:=fun a ha=>lms ha▸h
theorem ZbP{p:Addr→Prop}{I:Addr}{W:List Addr}(h:p I)(h2:∀a∈W,p a):∀a∈I::W,p a:=List.forall_mem_cons.mpr ⟨h,h2⟩
structure IsIt(g:Heap)(W:List Addr)(IT:List Addr→Nat→Heap→Prop):Prop where
 mv:∀{ρ:List Addr} {j:Nat} {h h':Heap},IT ρ j h→(∀a∈W,∀o,h.get? a=some o→h'.get? a=some o)→∀new,IT (ρ++new) j h'
 al:∀{ρ:List Addr} {j:Nat} {h:Heap},IT ρ j h→∀a∈W,∃o,h.get? a=some o
 bs:∀a∈W,g.get? a=none
noncomputable abbrev ITs(w:World)(src:Src)(I:Addr):List Addr→Nat→Heap→Prop:=fun ρ j h=>ItS w ρ src j I h
theorem IsIt.src{src:Src}{I:Addr}(hg:g.get? I=none):IsIt g [I] (ITs w src I):=⟨fun x k new=>(ItS.keep x (k _ (.head _))).ext new,fun x=>ZaN (ItS.alive x),ZaN hg⟩
structure CI(w:World)(g:Heap)(E:EnvD)(env:Env)(W:List Addr)(IT:List Addr→Nat→Heap→Prop)(ρ0:List Addr)(h0:Heap)(ρ:List Addr)(hp:Hp)(ℓ:Loc)(h:Heap)(j:Nat):Prop where
 V:IsIt g W IT
 C:env.locals∉W
 P:PostW w g (env.locals::W) ρ0 h0 ρ hp h
 S:St w g E ρ hp ℓ env h
 n:∀a∈W,a∉ρ
 it:IT ρ j h
structure CE(w:World)(g:Heap)(W:List Addr)(ρ:List Addr)(h:Heap)(k:Nat)(hp2:Hp)(D C:Addr)(ρ':List Addr)(h':Heap):Prop where
 P:PostW w g (C::W) ρ h ρ' hp2 h'
 Cn:h.get? C=none
 Cg:g.get? C=none
 Cρ:C∉ρ'
 D:ρ'[k]?=some D
 m:∃m,h'.Ns C m
section
variable {env cenv:Env} {W:List Addr} {IT:List Addr→Nat→Heap→Prop} {ρ0 ρ ρ':List Addr} {h0 h h':Heap} {hp hp' hp0:Hp} {ℓ ℓ' ℓ0:Loc} {j k T:Nat} {A:Around} {s:Shared} {D C:Addr} {Ee:Value→Shared→Prop}
theorem at_of{wr:List Addr}{hp':Hp}(P:PostW w g wr ρ0 h0 ρ hp' h)(e:ρ0[k]?=some D):ρ[k]?=some D:=by
 refine ZW P.ext fun new en=>?_;rw[en];exact ZaX e new
theorem CI.al(X:CI w g E env W IT ρ0 h0 ρ hp ℓ h j):∀a∈env.locals::W,∃o,h.get? a=some o:=ZbP X.S.alive (X.V.al X.it)
theorem freshW{wr:List Addr}(P:PostW w g wr ρ h ρ' hp' h'){a:Addr}(hn:a∉ρ)(al:∃o,h.get? a=some o):a∉ρ':=fun hm=>ZW al fun o ho=>nn ((P.fresh a hm hn).symm.trans ho)
theorem CI.wr(X:CI w g E env W IT ρ0 h0 ρ hp ℓ h j)(P:PostW w g [env.locals] ρ h ρ' hp' h')(S:St w g E ρ' hp' ℓ' env h'):CI w g E env W IT ρ0 h0 ρ' hp' ℓ' h' j:=
 ⟨X.V,X.C,X.P.trans (P.mono (ZaN (.inl (.head _)))) fun a ha=>.inl (X.al a ha),S,fun a ha=>freshW P (X.n a ha) (X.V.al X.it a ha),by
  refine ZW P.ext fun new en=>?_;rw[en];exact X.V.mv X.it (fun a ha o e=>P.keep a o (X.n a ha) (fun hm=>X.C (lms hm▸ha)) e) new⟩
theorem CI.mk0(V:IsIt g W IT)(hC:h.get? env.locals=none)(S:St w g E ρ' hp' ℓ env h')(P:Post w g ρ h ρ' hp' h')(hn:∀a∈W,a∉ρ)(it:IT ρ j h):CI w g E env W IT ρ' h' ρ' hp' ℓ h' j:=
 ⟨V,fun hm=>ZW (V.al it _ hm) fun o ho=>nn (hC.symm.trans ho),S.rel.post.toW,S,fun a ha=>freshW (P.toW (wr:=[])) (hn a ha) (V.al it a ha),by
  refine ZW P.ext fun new en=>?_;rw[en];exact V.mv it (fun a ha o e=>P.keep a o (hn a ha) e) new⟩
theorem CI.en(X:CI w g E env W IT ρ0 h0 ρ hp ℓ h j)(k:∀b o,b∉W→h.get? b=some o→h'.get? b=some o):PostW w g (env.locals::W) ρ0 h0 ρ hp h'∧St w g E ρ hp ℓ env h':=by
 have P3:=X.S.rel.writeWs (fun a ha=>⟨X.n a ha,X.V.bs a ha⟩) k;refine ⟨X.P.trans (P3.mono fun a ha=>.inl (.tail _ ha)) fun a ha=>.inl (X.al a ha),?_⟩;refine ZJ X.S.loc fun m yq hl=>?_;refine x3_2 yq fun o es ep ho r=>?_;exact ⟨P3.rel,X.S.sc,X.S.fn,X.S.gl,X.S.bi,X.S.cd,X.S.qu,X.S.cl,X.S.Lρ,X.S.Lg,m,⟨o,es,ep,k _ _ X.C ho,r⟩,hl⟩
theorem CI.nx{j':Nat}(X:CI w g E env W IT ρ0 h0 ρ hp ℓ h j)(k:∀b o,b∉W→h.get? b=some o→h'.get? b=some o)(it:IT ρ j' h'):CI w g E env W IT ρ0 h0 ρ hp ℓ h' j':=
 Qe (X.en k) fun P S=>⟨X.V,X.C,P,S,X.n,it⟩
theorem CI.weak(X:CI w g E env W IT ρ0 h0 ρ hp ℓ h j)(hl:wk ℓ' ℓ):CI w g E env W IT ρ0 h0 ρ hp ℓ' h j:=⟨X.V,X.C,X.P,X.S.weak hl,X.n,X.it⟩
theorem CI.src{β:Type}{src:Src}{I:Addr}{o1 r:Option β}{F:MV→Option β}{Q:Option Value→Shared→Prop}(X:CI w g E env [I] (ITs w src I) ρ0 h0 ρ hp ℓ s.heap j)(hA:A.handled=none)(hT:T≤s.toks)(q:(match src.item j hp with | some none=>o1 | some (some v)=>F v | none=>none)=r)(hr:r≠none)
 (f:∀h' tk,o1=r→PostW w g [env.locals,I] ρ0 h0 ρ hp h'→St w g E ρ hp ℓ env h'→Q none {s with heap:=h',toks:=tk})
 (f2:∀x v h' tk,F x=r→VR ρ x v→T≤tk→CI w g E env [I] (ITs w src I) ρ0 h0 ρ hp ℓ h' (j+1)→Q (some v) {s with heap:=h',toks:=tk}):wpAny (model pE w) A (pyNext (.ref I)) Q Ee s:=by
 cases e:src.item j hp with
 | none=>
  rw[e] at q;exact absurd q.symm hr
 | some m=>
  rw[e] at q;have nm:∀{h':Heap},(∀b o,b≠I→s.heap.get? b=some o→h'.get? b=some o)→∀b o,b∉[I]→s.heap.get? b=some o→h'.get? b=some o:=fun k b o hb=>k b o fun z=>hb (z▸.head _);refine wpAny_with_toks hT (src_next X.S.rel hA (X.n _ (.head _)) X.it e fun h3 tk3 v hv k3 hT3=>?_);cases m with
  | none=>cases v with
   | some v=>cases hv
   | none=>exact Qe (X.en (nm k3)) fun P S=>f h3 tk3 q P S
  | some x=>cases v with
   | none=>cases hv
   | some v=>exact Qe hv fun hv it3=>f2 x v h3 tk3 q hv hT3 (X.nx (nm k3) it3)
theorem CI.store{i:Nat}{x:Str}{px:Pos}{mv:MV}{v:Value}{Q:Unit→Shared→Prop}(X:CI w g E env W IT ρ0 h0 ρ hp ℓ s.heap j)(hi:E.slots[i]?=some x)(hk:E.scope.names.lookup x=some .local)(hn:E.slots.Nodup)(hv:VR ρ mv v)(hT:T≤s.toks)
 (f:∀h' tk,CI w g E env W IT ρ0 h0 ρ hp (ℓ.set i (some mv)) h' j→T≤tk→Q () {s with heap:=h',toks:=tk}):wpAny (model pE w) A (PySem.assign (.Name x px) env v) Q Ee s:=
 wpAny_assign_Name (wpAny_with_toks hT (Zbw hi hk hn X.S hv fun h4 tk4 P4 S4=>f h4 tk4 (X.wr P4 S4)))
theorem CI.bd{β:Type}{F:Hp→Option β}{r:β}{tp:Sem Bool}{elt:PySem.Expr}{t:TF}{f:EF}{E1 E2 E3:Value→Shared→Prop}{J:Shared→Prop}(X:CI w g E env W IT ρ0 h0 ρ hp ℓ s.heap j)(hA:AOK c A)(hT:T≤s.toks)(dt:∀b hp' (Q:Bool→Shared→Prop),t ℓ hp=some (b,hp')→(∀h' tk ρ',Post w g ρ s.heap ρ' hp' h'→Q b {s with heap:=h',toks:=tk})→wpAny (model pE w) A tp Q (fun e s'=>T≤s'.toks→E1 e s') s)(df:DEt T w g c E elt f)(hD:ρ0[k]?=some D)
 (q:(match t ℓ hp with
  | some (false,hp2)=>F hp2
  | some (true,hp2)=>(match f ℓ hp2 with
   | some (x,hp3)=>(match Zas k x hp3 with
    | some hp4=>F hp4
    | none=>none)
   | none=>none)
  | none=>none)=some r)
 (hJ:∀ρ' hp' h' tk,CI w g E env W IT ρ0 h0 ρ' hp' ℓ h' j→F hp'=some r→T≤tk→J {s with heap:=h',toks:=tk}):
 wpAny (model pE w) A tp (fun ok s3=>if ok=true then wpAny (model pE w) A (eval elt env) (fun x s4=>wpAny (model pE w) A (call (.builtin "list.append") [.ref D,x]) (fun υ s5=>J s5) E3 s4) E2 s3 else J s3) E1 s:=by
 cases e:t ℓ hp with
 | none=>rw[e] at q;exact nn q
 | some m=>cases m with
  | mk b hp5=>
   rw[e] at q;refine wpAny_with_toks hT (dt b hp5 _ e fun h5 tk5 ρ5 P5 hT5=>?_);have S5:=X.S.post P5;cases b with
   | false=>exact hJ ρ5 hp5 h5 tk5 (X.wr P5.toW S5) q hT5
   | true=>
    revert q;refine jV fun y hp6 q6 q=>?_;refine wpAny_with_toks hT5 (df _ _ _ _ q6 ρ5 env _ _ _ _ S5 hA hT5 fun vy h6 tk6 ρ6 P6 v6 hT6=>?_);revert q;refine jH fun hp7 q7 q=>?_;have PP:=P5.trans P6;refine ZdZ P6.rel q7 (at_of (X.wr PP.toW (S5.post P6)).P hD) v6 fun h7 P7=>?_;have PQ:=PP.trans P7;exact hJ ρ6 hp7 h7 tk6 (X.wr PQ.toW (X.S.post PQ)) q hT6
theorem CI.pk(X0:CI w g E env W IT ρ0 h0 ρ hp ℓ h j){Z:Nat→Nat→Loc→Hp→Prop}{s:Shared}{G:Prop}(T:Nat)
 (f:∀J:Nat→Shared→Prop,(∀n ρ hp ℓ h tk j,CI w g E env W IT ρ0 h0 ρ hp ℓ h j→Z n j ℓ hp→T≤tk→J n {s with heap:=h,toks:=tk})→
  (∀Tn:Nat→Shared→Prop,(∀n ρ hp ℓ h tk j,CI w g E env W IT ρ0 h0 ρ hp ℓ h j→Z n j ℓ hp→T≤tk→Tn n {s with heap:=h,toks:=tk})→∀n s',J n s'→Tn n s')→G):G:=
 f (fun n s'=>∀Tn:Nat→Shared→Prop,(∀n ρ hp ℓ h tk j,CI w g E env W IT ρ0 h0 ρ hp ℓ h j→Z n j ℓ hp→T≤tk→Tn n {s with heap:=h,toks:=tk})→Tn n s')
  (fun n ρ hp ℓ h tk j X z hT Tn k=>k n ρ hp ℓ h tk j X z hT) fun Tn k n s' y=>y Tn k
theorem CI.pkc(X0:CI w g E env W IT ρ0 h0 ρ hp ℓ h j){F:Nat→Nat→Hp→Option Hp}{r:Hp}{s:Shared}{G:Prop}(T:Nat)(hz:∀j hp,F 0 j hp=none)
 (f:∀J:Nat→Shared→Prop,(∀n ρ hp ℓ h tk j,CI w g E env W IT ρ0 h0 ρ hp ℓ h j→wk ℓ0 ℓ→F n j hp=some r→T≤tk→J n {s with heap:=h,toks:=tk})→
  (∀Tn:Nat→Shared→Prop,(∀n ρ hp h tk j,CI w g E env W IT ρ0 h0 ρ hp ℓ0 h j→F (n+1) j hp=some r→T≤tk→Tn (n+1) {s with heap:=h,toks:=tk})→∀n s',J n s'→Tn n s')→G):G:=
 X0.pk (Z:=fun n j ℓ hp=>wk ℓ0 ℓ∧F n j hp=some r) T fun J hJ he=>f J (fun n ρ hp ℓ h tk j X z q=>hJ n ρ hp ℓ h tk j X ⟨z,q⟩) fun Tn k=>he Tn fun n ρ hp ℓ h tk j X z hT=>by
  cases n with
  | zero=>exact nn ((hz j hp).symm.trans z.2)
  | succ n=>exact k n ρ hp h tk j (X.weak z.1) z.2 hT
theorem CI.ce{hp2:Hp}(P0:Post w g ρ h ρ0 hp0 h0)(hC:h.get? env.locals=none)(hD:ρ0[k]?=some D)(X:CI w g E env W IT ρ0 h0 ρ0 hp0 ℓ0 h0 j)(P:PostW w g (env.locals::W) ρ0 h0 ρ' hp2 h')(S:St w g E ρ' hp2 ℓ env h'):CE w g W ρ h k hp2 D env.locals ρ' h':=
 ZJ S.loc fun m hm υ=>⟨P0.toW.trans P fun a ha=>.inl (X.al a ha),hC,S.Lg,S.Lρ,at_of P hD,m,hm⟩
theorem Zga{K:Value→Env→Shared→Prop}{scope:Scope}{cs:List (Str×Addr)}{cl:List (Str×Nat)}{sl:List Str}(n:Nat)(hk:scope.kind=.function)(hcell:∀y∈scope.names,y.2≠.cell)(S1:St w g E ρ hp ℓ env s.heap)(hcs:CR ρ cl cs)(V:IsIt g W IT)(hn:∀a∈W,a∉ρ)(it:IT ρ 0 s.heap)
 (f:∀D cenv ρ0 h0,Post w g ρ s.heap ρ0 (hp++[.list []]) h0→s.heap.get? cenv.locals=none→ρ0[hp.length]?=some D→CI w g ⟨ZE scope E.scope,sl,cl,E.code,E.qual⟩ cenv W IT ρ0 h0 ρ0 (hp++[.list []]) (List.replicate n none) h0 0→K (.ref D) cenv {s with heap:=h0}):
 wpAny (model pE w) A (newList []) (fun acc s₃=>wpAny (model pE w) A (newFunctionEnv scope env.globals cs [] env.qual none .none (some env)) (fun cenv s₄=>K acc {cenv with scope:=relabel scope env} s₄) Ee s₃) Ee s:=by
 refine wpAny_newObj_type (wpAny_newFunctionEnv hcell (fun υ hy=>nomatch hy) (fun h₁ hns₁ hsb₁=>?_) hk);dsimp only at hns₁ hsb₁ ⊢;have R0:=S1.rel.newList (vs:=[]) (xs:=[]) (n:=0) .nil;revert hns₁ hsb₁ R0;refine gen (s.heap.objs.size) fun D=>?_;refine gen (s.heap.push {cls:=.type "list", dict:=none,data:=.seq ([]:List Value).toArray}) fun H2=>?_;refine genh (H2.objs.size) fun C hC hns₁ hsb₁ R0=>?_;have hCn:H2.get? C=none:=by rw[← hC];exact ZG H2
 have P1:Post w g (ρ++[D]) H2 (ρ++[D]) (hp++[.list []]) h₁:=R0.rel.keep fun b o e=>hsb₁.extBut b o (fun q=>by rw[q,hCn] at e;cases e) (Heap.get?_push_of_some _ e);have P01:=R0.trans P1;have hCs:s.heap.get? C=none:=R0.notin_none S1.rel hCn;let cenv:Env:={scope:=relabel scope env,locals:=C,globals:=env.globals,cells:=cs,qual:=env.qual,func:=none,code:=env.code,frame:=env.frame,builtins:=env.builtins}
 have St1:St w g ⟨ZE scope E.scope,sl,cl,E.code,E.qual⟩ (ρ++[D]) (hp++[.list []]) (List.replicate n none) cenv h₁:=
  ⟨P1.rel,by show relabel scope env=ZE scope E.scope;rw[ZgV,S1.sc],hk,S1.gl,S1.bi,S1.cd,S1.qu,hcs.ext _,R0.rel.notin_none hCn,Zak R0.rel.base hCn,_,hns₁,fun i y v e1 e2=>nn (wkn n [] i v e2)⟩
 exact f D cenv _ h₁ P01 hCs (Zbm S1.rel.len) (CI.mk0 V hCs St1 P01 hn it)
theorem CE.pd{hp1 hp2:Hp}{ρ1:List Addr}{h1 h'':Heap}(Y:CE w g W ρ1 h1 k hp2 D C ρ' h')(P1:Post w g ρ s.heap ρ1 hp1 h1)(S:St w g E ρ hp ℓ env s.heap)(hW:∀a∈W,s.heap.get? a=none)(P:PostW w g (C::W) ρ1 h1 ρ' hp2 h''):Post w g ρ s.heap ρ' hp2 h'':=
 have d:=ZbP (p:=fun a=>s.heap.get? a=none) (P1.notin_none S.rel Y.Cn) hW;PostW.dead (P1.toW.trans P fun a ha=>.inr (d a ha)) d
theorem Zgb{Q:Value→Shared→Prop}{hp1 hp2:Hp}{ρ1:List Addr}{h1:Heap}{tk:Nat}(P1:Post w g ρ s.heap ρ1 hp1 h1)(S:St w g E ρ hp ℓ env s.heap)(hW:∀a∈W,s.heap.get? a=none)(h:Ret w g ρ hp2 (.ref k) Q s)(Y:CE w g W ρ1 h1 k hp2 D C ρ' h'):compPost (model pE w) A Ee none Q (.ref D) C (.ok .next) {s with heap:=h',toks:=tk}:=
 ZW Y.m fun m hm=>Qd m hm fun h'' hs''=>h _ h'' tk ρ' (Y.pd P1 S hW (Y.P.write Y.Cρ Y.Cg (.head _) hs''.extBut)) ⟨D,Y.D,rfl⟩
theorem Znn{Q:Flow→Shared→Prop}{hp1 hp2:Hp}{ρ1:List Addr}{h1:Heap}{tk i:Nat}{y:Str}{py:Pos}(hi:E.slots[i]?=some y)(hky:E.scope.names.lookup y=some .local)(hn:E.slots.Nodup)(P1:Post w g ρ s.heap ρ1 hp1 h1)(S:St w g E ρ hp ℓ env s.heap)(hW:∀a∈W,s.heap.get? a=none)
 (h:∀(f:Flow) (h':Heap) (tk:Nat) (ρ':List Addr),FR ρ' .norm f→PostW w g [env.locals] ρ s.heap ρ' hp2 h'→St w g E ρ' hp2 (ℓ.set i (some (.ref k))) env h'→Q f {s with heap:=h',toks:=tk}) (Y:CE w g W ρ1 h1 k hp2 D C ρ' h'):compPost (model pE w) A Ee (some (PySem.assign (.Name y py) env)) (fun υ s'=>Q .next s') (.ref D) C (.ok .next) {s with heap:=h',toks:=tk}:=by
 have PQ:=Y.pd P1 S hW Y.P;have hCs:s.heap.get? C=none:=P1.notin_none S.rel Y.Cn;have S2:=S.post PQ;show wpAny _ A (PySem.assign (PySem.Expr.Name y py) env (.ref D)) _ _ _
 refine wpAny_assign_Name (Zbw hi hky hn S2 (mv:=.ref k) ⟨_,Y.D,rfl⟩ fun h2 tk2 P2 S3=>?_);have hCL:env.locals≠C:=fun e=>by
  refine ZW S.alive fun o ho=>?_;rw[e,hCs] at ho;cases ho
 refine ZW Y.m fun m hm=>?_;refine x3_2 hm fun o es ep ho r=>?_;refine Qd m ⟨o,es,ep,P2.keep C o Y.Cρ (fun z=>hCL (lms z).symm) ho,r⟩ fun h'' hs''=>?_;have P3:PostW w g [C] ρ' h2 ρ' hp2 h'':=S3.rel.writeW Y.Cρ Y.Cg hs''.extBut;have PZ:PostW w g [env.locals] ρ s.heap ρ' hp2 h'':=PostW.mono (wr:=[env.locals,C]) ((PQ.toW.trans (P2.mono (ZaN (.inl (.head _)))) (ZbP (.inl S2.alive) (ZaN (.inr hCs)))).write Y.Cρ Y.Cg (.tail _ (.head _)) hs''.extBut) (ZbP (.inl (.head _)) (ZaN (.inr hCs)));refine ZJ S3.loc fun m3 yq hl3=>?_;refine x3_2 yq fun o3 es3 ep3 ho3 r3=>?_;exact h .next h'' tk2 ρ' rfl PZ ⟨PZ.rel,S3.sc,S3.fn,S3.gl,S3.bi,S3.cd,S3.qu,S3.cl,S3.Lρ,S3.Lg,m3,⟨o3,es3,ep3,hs''.extBut _ _ hCL ho3,r3⟩,hl3⟩
theorem Zjm{Q:Flow→Shared→Prop}{y:Str}{py pos spos:Pos}{elt iter tg:PySem.Expr}{ifs:List PySem.Expr}{scope:Scope}(S:St w g E ρ hp ℓ env s.heap)(hk:scope.kind=.function)(hf:∀n,(n,NameKind.free)∈scope.names→(E.cells.lookup n).isSome=true)
 (hnames:∀y∈scope.names,y.2=.local→scope.names.lookup y.1=some .local) (hs:∀env x,foldedSetIterable iter env x=pure x)
 (hsw:∀env:Env,env.scope=E.scope→swapsWith (.ListComp elt [⟨tg,iter,ifs,0⟩] scope pos) (some (.Name y py)) spos.line env=pure true)
 (h:wpAny (model pE w) A (eval iter env) (fun x s₁=>wpAny (model pE w) A (pyIter x) (fun it s₂=>wpAny (model pE w) A (newList []) (fun acc s₃=>
  wpAny (model pE w) A (newFunctionEnv scope env.globals (Zbg env.cells scope.names []) [] env.qual none .none (some env)) (fun cenv s₄=>
   codeAny (model pE w) A (.compStart (.ListComp elt [⟨tg,iter,ifs,0⟩] scope pos) 0 it acc {cenv with scope:=relabel scope env}) (compPost (model pE w) A Ee (some (PySem.assign (.Name y py) env)) (fun υ s'=>Q .next s') acc cenv.locals) s₄) Ee s₃) Ee s₂) Ee s₁) Ee s):
 wpAny (model pE w) A (exec (.Assign [.Name y py] (.ListComp elt [⟨tg,iter,ifs,0⟩] scope pos) spos) env) Q Ee s:=by
 rw[exec_Assign_Name_used _ _ _ _ (hsw env S.sc)];refine wpAny_bind (wpAny_standAt (wpAny_bind ?_));show wpAny _ A (do let _ ← comprehension (.ListComp elt [⟨tg,iter,ifs,0⟩] scope pos) scope env _ (newList []) false (eval iter env) (some (PySem.assign (PySem.Expr.Name y py) env))) _ _ s
 exact wpAny_bind (wpAny_mono (wpAny_comprehension_free (use:=some (PySem.assign (PySem.Expr.Name y py) env)) (Q:=fun υ s'=>Q .next s') rfl (hs env) (ZaQ (Zbf S.cl hf)) hk hnames h)
  (fun υ s' hq=>wpAny_pure (wpAny_pure hq)) fun υ υ e=>e)
theorem Zhv(N:Nat){x:Str}{px pos:Pos}{iter elt:PySem.Expr}{ifs:List PySem.Expr}{scope:Scope}{cl:List (Str×Nat)}{t:TF}{f:EF}(dt:DTs w g c (E.comp scope x cl) ifs t)(df:DEt T w g c (E.comp scope x cl) elt f)
 (hk:scope.kind=.function) (hcell:∀y∈scope.names,y.2≠.cell) (hx:(ZE scope E.scope).names.lookup x=some .local)
 {src:Src} {hp2:Hp} (q:Zgc src hp.length t f N 0 (hp++[.list []])=some hp2) (S1:St w g E ρ hp ℓ env s.heap) (hA:AOK c A) (hTs:T≤s.toks) {I:Addr} (hI:I∉ρ) (hgI:g.get? I=none)
 (it:ItS w ρ src 0 I s.heap) {cs:List (Str×Addr)} (hcs:CR ρ cl cs) {RR:Value→Addr→Result→Shared→Prop}
 (hR:∀D C h' tk ρ',CE w g [I] ρ s.heap hp.length hp2 D C ρ' h'→RR (.ref D) C (.ok .next) {s with heap:=h',toks:=tk}):
 wpAny (model pE w) A (newList []) (fun acc s₃=>wpAny (model pE w) A (newFunctionEnv scope env.globals cs [] env.qual none .none (some env)) (fun cenv s₄=>
  codeAny (model pE w) A (.compStart (.ListComp elt [⟨.Name x px,iter,ifs,0⟩] scope pos) 0 (.ref I) acc {cenv with scope:=relabel scope env}) (RR acc cenv.locals) s₄) Ee s₃) Ee s:=by
 refine Zga (K:=fun acc cenv s₄=>codeAny (model pE w) A (.compStart (.ListComp elt [⟨.Name x px,iter,ifs,0⟩] scope pos) 0 (.ref I) acc cenv) (RR acc cenv.locals) s₄) (sl:=[x]) 1 hk hcell S1 hcs (IsIt.src hgI) (ZaN hI) it fun D cenv ρ0 h0 P0 hC hD X0=>?_;have loop:codeAny (model pE w) A (.compLoop (.ListComp elt [⟨.Name x px,iter,ifs,0⟩] scope pos) 0 (.ref I) (.ref D) cenv) (RR (.ref D) cenv.locals) {s with heap:=h0}:=by
  refine X0.pkc (ℓ0:=[none]) (F:=Zgc src hp.length t f) (r:=hp2) (s:=s) T (fun υ υ=>rfl) fun J hJ he=>?_;refine codeAny_compLoop_tests J (he _ fun n ρ2 hp3 h2 tk2 j X q2 hT2=>?_) N (hJ N _ _ _ _ s.toks 0 X0 (wkn 1 _) q hTs);refine X.src hA.hd hT2 q2 nofun (fun h3 tk3 e P S=>?_) fun mv v h3 tk3 q3 hv hT3 X3=>?_
  · exact oi1 e fun e=>hR D cenv.locals h3 tk3 ρ2 (CI.ce P0 hC hD X0 (e▸P) (e▸S))
  · exact X3.store (i:=0) rfl hx (by exact List.pairwise_singleton _ x) hv hT3 fun h4 tk4 X4 hT4=>X4.bd hA hT4 (fun b hp' Q e=>dt _ _ _ _ e _ _ _ _ Q _ X4.S hA) df hD q3 fun ρ5 hp5 h5 tk5 X5 q5 hT5=>Qd n (Nat.lt_succ_self n) (hJ n _ _ _ _ _ _ X5 (wkn 1 _) q5 hT5)
 exact codeAny_compStart_list loop (Zem hA.hd X0.it loop)
end
theorem DE.comp(N:Nat){x:Str}{px pos:Pos}{iter elt:PySem.Expr}{ifs:List PySem.Expr}{scope:Scope}(cl:List (Str×Nat)){fi:IF}{t:TF}{f:EF}(di:DI w g c E iter fi)(dt:DTs w g c (E.comp scope x cl) ifs t)(df:DE w g c (E.comp scope x cl) elt f)
 (hk:scope.kind=.function) (hcell:∀y∈scope.names,y.2≠.cell) (hx:(ZE scope E.scope).names.lookup x=some .local) (hf:∀n,(n,NameKind.free)∈scope.names→(E.cells.lookup n).isSome=true) (hcl:Zae E.cells scope cl)
 (hnames:∀y∈scope.names,y.2=.local→scope.names.lookup y.1=some .local) (hs:∀env x,foldedSetIterable iter env x=pure x):DE w g c E (.ListComp elt [⟨.Name x px,iter,ifs,0⟩] scope pos) (Qb fi t f N):=by
 intro ℓ hp mv hp' q;refine iR q fun src hp1 q1 qa=>?_;revert qa;refine jH fun hp2 q2 qb=>?_;refine iS qb ?_;intro ρ env s A Q Ee S hA h;rw[eval_ListComp];refine wpAny_comprehension_free (use:=none) rfl (hs env) (ZaQ (Zbf S.cl hf)) hk hnames (di _ _ _ _ q1 ρ env s A _ Ee S hA fun I h1 tk1 ρ1 P1 hI hgI hsI it hal=>?_);have S1:=S.post P1;exact Zhv N dt df.t0 hk hcell hx q2 (s:={s with heap:=h1,toks:=tk1}) S1 hA (Nat.zero_le _) hI hgI it (S1.cl.from hcl) (RR:=fun acc C=>compPost (model pE w) A Ee none Q acc C) fun D C h' tk ρ'=>Zgb (s:=s) P1 S (ZaN hsI) h
theorem Zci(i:Nat){y:Str}{py spos:Pos}(N:Nat){x:Str}{px pos:Pos}{iter elt:PySem.Expr}{ifs:List PySem.Expr}{scope:Scope}(cl:List (Str×Nat)){fi:IF}{t:TF}{f:EF}(di:DI w g c E iter fi)(dt:DTs w g c (E.comp scope x cl) ifs t){T:Nat}(df:DEt T w g c (E.comp scope x cl) elt f)
 (hk:scope.kind=.function) (hcell:∀y∈scope.names,y.2≠.cell) (hx:(ZE scope E.scope).names.lookup x=some .local) (hf:∀n,(n,NameKind.free)∈scope.names→(E.cells.lookup n).isSome=true) (hcl:Zae E.cells scope cl)
 (hnames:∀y∈scope.names,y.2=.local→scope.names.lookup y.1=some .local) (hs:∀env x,foldedSetIterable iter env x=pure x)
 (hi:E.slots[i]?=some y) (hky:E.scope.names.lookup y=some .local) (hn:E.slots.Nodup)
 (hsw:∀env:Env,env.scope=E.scope→swapsWith (.ListComp elt [⟨.Name x px,iter,ifs,0⟩] scope pos) (some (.Name y py)) spos.line env=pure true):
 ∀ℓ hp k ℓ' hp',ZU i (Qb fi t f N) ℓ hp=some (k,ℓ',hp')→∀(ρ:List Addr) (env:Env) (s:Shared) (A:Around) (Q:Flow→Shared→Prop) (Ee:Value→Shared→Prop),St w g E ρ hp ℓ env s.heap→AOK c A→T≤s.toks→
 (∀(f:Flow) (h':Heap) (tk:Nat) (ρ':List Addr),FR ρ' k f→PostW w g [env.locals] ρ s.heap ρ' hp' h'→St w g E ρ' hp' ℓ' env h'→Q f {s with heap:=h',toks:=tk})→
 wpAny (model pE w) A (exec (.Assign [.Name y py] (.ListComp elt [⟨.Name x px,iter,ifs,0⟩] scope pos) spos) env) Q Ee s:=by
 intro ℓ hp k ℓ' hp' q;revert q;refine jV fun v hpx q0 qa=>?_;refine oi3 qa fun yq yr y'3=>?_;subst yq yr y'3;refine iR q0 fun src hp1 q1 qb=>?_;revert qb;refine jH fun hp2 q2 qc=>?_;refine oi2 qc fun yq yr=>?_;subst yq yr;intro ρ env s A Q Ee S hA hT0 h;refine Zjm S hk hf hnames hs hsw (ZoQ hT0 (di _ _ _ _ q1 ρ env s A _ Ee S hA fun I h1 tk1 ρ1 P1 hI hgI hsI it hal hT1=>?_));have S1:=S.post P1;exact Zhv N dt df hk hcell hx q2 (s:={s with heap:=h1,toks:=tk1}) S1 hA hT1 hI hgI it (S1.cl.from hcl) (RR:=fun acc C=>compPost (model pE w) A Ee (some (PySem.assign (PySem.Expr.Name y py) env)) (fun υ s'=>Q .next s') acc C) fun D C h' tk ρ'=>Znn (s:=s) hi hky hn P1 S (ZaN hsI) h
theorem DS1.assignComp(i:Nat){y:Str}{py spos:Pos}(N:Nat){x:Str}{px pos:Pos}{iter elt:PySem.Expr}{ifs:List PySem.Expr}{scope:Scope}(cl:List (Str×Nat)){fi:IF}{t:TF}{f:EF}(di:DI w g c E iter fi)(dt:DTs w g c (E.comp scope x cl) ifs t)(df:DE w g c (E.comp scope x cl) elt f)
 (hk:scope.kind=.function) (hcell:∀y∈scope.names,y.2≠.cell) (hx:(ZE scope E.scope).names.lookup x=some .local) (hf:∀n,(n,NameKind.free)∈scope.names→(E.cells.lookup n).isSome=true) (hcl:Zae E.cells scope cl)
 (hnames:∀y∈scope.names,y.2=.local→scope.names.lookup y.1=some .local) (hs:∀env x,foldedSetIterable iter env x=pure x)
 (hi:E.slots[i]?=some y) (hky:E.scope.names.lookup y=some .local) (hn:E.slots.Nodup)
 (hsw:∀env:Env,env.scope=E.scope→swapsWith (.ListComp elt [⟨.Name x px,iter,ifs,0⟩] scope pos) (some (.Name y py)) spos.line env=pure true):
 DS1 w g c E (.Assign [.Name y py] (.ListComp elt [⟨.Name x px,iter,ifs,0⟩] scope pos) spos) (ZU i (Qb fi t f N)):=
 fun ℓ hp k ℓ' hp' q ρ env s A Q Ee S hA=>Zci i N cl di dt df.t0 hk hcell hx hf hcl hnames hs hi hky hn hsw ℓ hp k ℓ' hp' q ρ env s A Q Ee S hA (Nat.zero_le _)
end
end
section
section
variable {w:World} {g:Heap} {c:Nat} {E:EnvD} {mg mb:Str→Option Value}
theorem VRs.post{ρ ρ':List Addr}{h h':Heap}{hp':Hp}{xs:List MV}{vs:List Value}(hv:VRs ρ xs vs)(P:Post w g ρ h ρ' hp' h'):VRs ρ' xs vs:=by
 refine ZW P.ext fun new yq=>?_;subst yq;exact hv.ext new
noncomputable abbrev AF:=Loc→Hp→Option (List MV×Hp)
noncomputable def AvS(w:World)(g:Heap)(c:Nat)(E:EnvD)(ℓ:Loc)(hp:Hp)(es:List PySem.Expr)(mvs:List MV)(hp':Hp):Prop:=
 ∀(ρ:List Addr) (env:Env) (pos:Pos) (s:Shared) (A:Around) (Q:List Value→Shared→Prop) (Ee:Value→Shared→Prop),St w g E ρ hp ℓ env s.heap→AOK c A→
  (∀(vs:List Value) (h':Heap) (tk:Nat) (ρ':List Addr),Post w g ρ s.heap ρ' hp' h'→VRs ρ' mvs vs→Q vs {s with heap:=h',toks:=tk})→
  wpAny (model pE w) A (spliced (backTo pos (starEach es env))) Q Ee s
noncomputable def DA(w:World)(g:Heap)(c:Nat)(E:EnvD)(es:List PySem.Expr)(f:AF):Prop:=
 (∀ℓ hp mvs hp',f ℓ hp=some (mvs,hp')→AvS w g c E ℓ hp es mvs hp')∧∀env,∃ts,starEach es env=ts∧∀t∈ts,t.1=false
noncomputable def Zp:AF:=fun υ hp=>some ([],hp)
noncomputable def Zd(f:EF)(r:AF):AF:=fun ℓ hp=>match f ℓ hp with
 | some (v,hp1)=>(match r ℓ hp1 with
  | some (vs,hp2)=>some (v::vs,hp2)
  | none=>none)
 | none=>none
theorem DA.nil:DA w g c E [] Zp:=by
 refine ⟨?_,fun env=>⟨[],rfl,by simp⟩⟩;intro ℓ hp mvs hp' q;refine iS q ?_;intro ρ env pos s A Q Ee S hA h;exact args_nil (h [] s.heap s.toks ρ S.rel.post .nil)
theorem DA.cons{e:PySem.Expr}{es:List PySem.Expr}{f:EF}{r:AF}(d:DE w g c E e f)(dr:DA w g c E es r)(he:∀env,starEach (e::es) env=(false,eval e env)::starEach es env):DA w g c E (e::es) (Zd f r):=by
 refine ⟨?_,fun env=>?_⟩
 · intro ℓ hp mvs hp' q ρ env pos s A Q Ee S hA h;revert q;refine jV fun v hp1 q1 q=>?_;revert q;refine jA fun vs hp2 q2 q=>?_;refine oi2 q fun yq yr=>?_;subst yq yr;refine args_cons (d _ _ _ _ q1 ρ env s A _ Ee S hA fun va h1 tk1 ρ1 P1 v1=>?_) (he env);refine dr.1 _ _ _ _ q2 ρ1 env pos _ A _ Ee (S.post P1) hA fun vs h2 tk2 ρ2 P2 v2=>?_;exact h _ h2 tk2 ρ2 (P1.trans P2) (.cons (v1.post P2) v2)
 · refine ZJ (dr.2 env) fun ts e1 e2=>?_;exact ⟨_,he env,fun t ht=>by
    rcases lmc ht with rfl | ht
    · rfl
    · rw[e1] at ht;exact e2 t ht⟩
theorem Zam{f:Value}{pos:Pos}{es:List PySem.Expr}{env:Env}{A:Around}{s:Shared}{Q:Args→Shared→Prop}{Ee:Value→Shared→Prop}(ht:∃ts,starEach es env=ts∧∀t∈ts,t.1=false)
 (h:wpAny (model pE w) A (spliced (backTo pos (starEach es env))) (fun vs s'=>Q ⟨vs,[]⟩ s') Ee s):wpAny (model pE w) A (evalArgs f true (backTo pos (starEach es env)) []) Q Ee s:=by
 refine ZJ ht fun ts e1 e2=>?_;rw[e1] at h ⊢;cases ts with
 | nil=>
  unfold evalArgs;show wpAny _ A (spliced []>>=_) Q Ee s
  refine wpAny_bind (wpAny_mono h (fun vs s' h'=>?_) fun υ υ x=>x);refine wpAny_holding ?_;exact wpAny_bind (wpAny_pure (wpAny_bind (wpAny_pure (wpAny_pure h'))))
 | cons t r=>
  obtain ⟨b,x⟩:=t;have hb:b=false:=e2 _ (.head _);subst hb;exact Calls.evalArgs_plain h
theorem ZaB{es:List PySem.Expr}{env:Env}{pos:Pos}(h:∃ts,starEach es env=ts∧∀t∈ts,t.1=false):(backTo pos (starEach es env)).any (·.1)=false:=by
 refine ZJ h fun ts e1 e2=>?_;rw[e1];simp only[backTo,List.any_map,List.any_eq_false,Function.comp];intro t ht;simp[e2 t ht]
noncomputable def ZH(f:AF):EF:=fun ℓ hp=>match f ℓ hp with
 | some (vs,hp1)=>if vs.length≤100000 then some (.ref hp1.length,hp1++[.list vs]) else none
 | none=>none
theorem DE.list{es:List PySem.Expr}{f:AF}{pos:Pos}(d:DA w g c E es f):DE w g c E (.List es pos) (ZH f):=by
 intro ℓ hp mv hp' q;revert q;refine jA fun vs hp1 q1 qa=>?_;revert qa;refine jI fun hz qb=>?_;refine iS qb ?_;intro ρ env s A Q Ee S hA h;refine wpAny_List (d.1 _ _ _ _ q1 ρ env pos s A _ Ee S hA fun vs' h1 tk1 ρ1 P1 v1=>⟨by rw[v1.len];unfold sizeLine;lia,?_⟩);exact Zbx (s:={s with heap:=h1,toks:=tk1}) (tk:=tk1) P1.rel v1 (h.then P1)
theorem DE.glob(B:Bs w g mg mb){x:Str}{pos:Pos}{mv:MV}(hk:E.scope.names.lookup x=some .globalImplicit)(hm:∃v,mg x=some v∧∀ρ,VR ρ mv v)(hd:(x==("__debug__" : Str))=false):DE w g c E (.Name x pos) (Zb mv):=by
 intro ℓ hp mv' hp' q;refine iS q ?_;intro ρ env s A Q Ee S hA h;refine ZJ hm fun v e1 e2=>?_;exact Calls.Name_function_global (by rw[S.sc];exact S.fn) (by unfold Env.kindOf;rw[S.sc];exact hk) (Calls.loadGlobal_global (by rw[S.gl];exact B.mg.keeps S.rel.base) e1 (h.pure0 S.rel (e2 ρ))) hd
theorem DE.builtin(B:Bs w g mg mb){x:Str}{pos:Pos}{mv:MV}(hk:E.scope.names.lookup x=some .globalImplicit)(hm:mg x=none)(hb:∃v,mb x=some v∧∀ρ,VR ρ mv v)(hd:(x==("__debug__" : Str))=false):DE w g c E (.Name x pos) (Zb mv):=by
 intro ℓ hp mv' hp' q;refine iS q ?_;intro ρ env s A Q Ee S hA h;refine ZJ hb fun v e1 e2=>?_;exact Calls.Name_function_global (by rw[S.sc];exact S.fn) (by unfold Env.kindOf;rw[S.sc];exact hk) (Calls.loadGlobal_builtin (by rw[S.gl];exact B.mg.keeps S.rel.base) hm (by rw[S.bi];exact B.mb.keeps S.rel.base) e1 (h.pure0 S.rel (e2 ρ))) hd
noncomputable def ZL(k:Nat):EF:=fun υ hp=>match hp[k]? with
 | some (.cell (some v))=>some (v,hp)
 | some (.cellk s t)=>some (.str s,hp)
 | _=>none
noncomputable def getCo(hp:Hp)(o:Option MO):Option (MV×Hp):=match o with
 | some (.cell (some v))=>some (v,hp)
 | some (.cellk s t)=>some (.str s,hp)
 | _=>none
theorem Zji{k:Nat}{ℓ:Loc}{hp:Hp}{o:Option MO}(e:hp[k]?=o):ZL k ℓ hp=getCo hp o:=by subst e;rfl
theorem DE.cell{x:Str}{pos:Pos}{k:Nat}(hk:E.scope.names.lookup x=some .cell∨E.scope.names.lookup x=some .free)(hc:E.cells.lookup x=some k)(hd:(x==("__debug__" : Str))=false)(hd2:(x==("__classdict__" : Str))=false):DE w g c E (.Name x pos) (ZL k):=by
 intro ℓ hp mv hp' q ρ env s A Q Ee S hA h;have key:∀(a:Addr) (v':Value),env.cells.lookup x=some a→s.heap.IsCell a (some v')→VR ρ mv v'→hp'=hp→wpAny (model pE w) A (eval (.Name x pos) env) Q Ee s:=fun a v' e2 h1 h2 he=>by
  subst he;rcases hk with hk | hk
  · exact wpAny_Name (wpAny_loadName_cell (by rw[S.sc];exact S.fn) (by unfold Env.kindOf;rw[S.sc];exact hk) e2 h1 (h.pure0 S.rel h2)) hd
  · exact wpAny_Name (wpAny_loadName_free (by rw[S.sc];exact S.fn) (by unfold Env.kindOf;rw[S.sc];exact hk) e2 h1 (h.pure0 S.rel h2) hd2) hd
 refine ZJ (S.cl x k hc) fun a e1 e2=>?_;cases e:hp[k]? with
 | none=>exact nn ((Zji e).symm.trans q)
 | some m=>cases m with
  | cell v=>cases v with
   | none=>exact nn ((Zji e).symm.trans q)
   | some v=>
    refine oi2 ((Zji e).symm.trans q) fun yq yr=>?_;subst yq yr;refine ZJ (S.rel.obj k _ a e e1) fun v' h1 h2=>?_;cases v' with
    | none=>exact h2.elim
    | some v'=>exact key a v' e2 h1 h2 rfl
  | cellk y t=>
   refine oi2 ((Zji e).symm.trans q) fun yq yr=>?_;subst yq yr;exact key a _ e2 (S.rel.obj k _ a e e1) ⟨t,rfl⟩ rfl
  | _=>exact nn ((Zji e).symm.trans q)
noncomputable def Zlr(k:Nat)(v:MV)(hp:Hp):Option Hp:=match hp[k]? with
 | some (.cell _)=>some (hp.set k (.cell (some v)))
 | _=>none
noncomputable def setCo(k:Nat)(v:MV)(hp:Hp)(o:Option MO):Option Hp:=match o with
 | some (.cell _)=>some (hp.set k (.cell (some v)))
 | _=>none
theorem Zon{k:Nat}{v:MV}{hp:Hp}{o:Option MO}(e:hp[k]?=o):Zlr k v hp=setCo k v hp o:=by subst e;rfl
theorem Zcj{x:Str}{k:Nat}{ρ:List Addr}{hp hp':Hp}{ℓ:Loc}{env:Env}{s:Shared}{A:Around}{Q:Unit→Shared→Prop}{Ee:Value→Shared→Prop}{mv:MV}{v:Value}
 (hk:E.scope.names.lookup x=some .cell) (hc:E.cells.lookup x=some k) (S:St w g E ρ hp ℓ env s.heap) (hv:VR ρ mv v) (q:Zlr k mv hp=some hp')
 (h:∀h',Post w g ρ s.heap ρ hp' h'→Q () {s with heap:=h'}):wpAny (model pE w) A (storeName env x v) Q Ee s:=by
 refine ZJ (S.cl x k hc) fun a e1 e2=>?_;cases e:hp[k]? with
 | none=>exact nn ((Zon e).symm.trans q)
 | some m=>cases m with
  | cell u=>
   refine oi1 ((Zon e).symm.trans q) fun yq=>?_;subst yq;refine ZJ (S.rel.obj k _ a e e1) fun v' h1 h2=>?_;refine wpAny_storeName_cell (by rw[S.sc];exact S.fn) (by unfold Env.kindOf;rw[S.sc];exact hk) e2 h1 fun h' hc' hs'=>h h' (S.rel.update e1 hs' ⟨some v,hc',hv⟩)
  | _=>exact nn ((Zon e).symm.trans q)
noncomputable def asgC(k:Nat)(f:EF):SF:=fun ℓ hp=>match f ℓ hp with
 | some (v,hp1)=>(match Zlr k v hp1 with
  | some hp2=>some (.norm,ℓ,hp2)
  | none=>none)
 | none=>none
theorem DS1.assignC{k:Nat}{x:Str}{p' pos:Pos}{e:PySem.Expr}{f:EF}(d:DE w g c E e f)(hk:E.scope.names.lookup x=some .cell)(hc:E.cells.lookup x=some k)
 (hs:∀env:Env,env.scope=E.scope→swapsWith e (some (.Name x p')) pos.line env=pure false):DS1 w g c E (.Assign [.Name x p'] e pos) (asgC k f):=by
 intro ℓ hp kk ℓ' hp' q;revert q;refine jV fun v hp1 q1 qa=>?_;revert qa;refine jH fun hp2 q2 qb=>?_;refine iT qb ?_;intro ρ env s A Q Ee S hA h;refine wpAny_Assign_Name (d _ _ _ _ q1 ρ env s A _ Ee S hA fun va h1 tk1 ρ1 P1 v1=>?_) (hs env S.sc);refine Zcj hk hc (S.post P1) v1 q2 fun h2 P2=>?_;exact h .next h2 tk1 ρ1 rfl (P1.trans P2).toW (S.post (P1.trans P2))
noncomputable abbrev FF:=List MV→Hp→Option (MV×Hp)
noncomputable def CFS(w:World)(g:Heap)(c:Nat)(fv:Value)(args:List MV)(hp:Hp)(mv:MV)(hp':Hp):Prop:=∀(ρ:List Addr) (vs:List Value) (s:Shared) (A:Around) (Q Ee:Value→Shared→Prop),Rel w g ρ hp s.heap→AOK c A→VRs ρ args vs→Ret w g ρ hp' mv Q s→wpAny (model pE w) A (call fv vs) Q Ee s
noncomputable def CF(w:World)(g:Heap)(c:Nat)(fv:Value)(F:FF):Prop:=∀args hp mv hp',F args hp=some (mv,hp')→CFS w g c fv args hp mv hp'
noncomputable def Zr(F:FF)(a:AF):EF:=fun ℓ hp=>match a ℓ hp with
 | some (vs,hp1)=>F vs hp1
 | none=>none
theorem DE.callB{id:String}{x:Str}{p pos:Pos}{es:List PySem.Expr}{F:FF}{a:AF}(hf:DE w g c E (.Name x p) (Zb (.glob (.builtin id))))(d:DA w g c E es a)(hF:CF w g c (.builtin id) F):DE w g c E (.Call (.Name x p) es [] pos) (Zr F a):=by
 intro ℓ hp mv hp' q;revert q;refine jA fun vs hp1 q1 qa=>?_;intro ρ env s A Q Ee S hA h;refine wpAny_Call_ofName (hf _ _ _ _ rfl ρ env s A _ Ee S hA fun va h0 tk0 ρ0 P0 v0=>?_);cases v0
 refine Calls.callWith_builtin (ZaB (d.2 env)) (Zam (d.2 env) (d.1 _ _ _ _ q1 ρ0 env pos _ A _ Ee (S.post P0) hA fun vs' h1 tk1 ρ1 P1 v1=>?_));exact hF _ _ _ _ qa ρ1 vs' _ A Q Ee P1.rel hA v1 (h.then (P0.trans P1))
theorem DE.callT{T:String}{x:Str}{p pos:Pos}{es:List PySem.Expr}{F:FF}{a:AF}(hf:DE w g c E (.Name x p) (Zb (.glob (.type T))))(d:DA w g c E es a)(hF:CF w g c (.type T) F):DE w g c E (.Call (.Name x p) es [] pos) (Zr F a):=by
 intro ℓ hp mv hp' q;revert q;refine jA fun vs hp1 q1 qa=>?_;intro ρ env s A Q Ee S hA h;refine wpAny_Call_ofName (hf _ _ _ _ rfl ρ env s A _ Ee S hA fun va h0 tk0 ρ0 P0 v0=>?_);cases v0
 refine PySem.callWith_type (ZaB (d.2 env)) (Zam (d.2 env) (d.1 _ _ _ _ q1 ρ0 env pos _ A _ Ee (S.post P0) hA fun vs' h1 tk1 ρ1 P1 v1=>?_));exact hF _ _ _ _ qa ρ1 vs' _ A Q Ee P1.rel hA v1 (h.then (P0.trans P1))
theorem DE.callF{fa:Addr}{o:Obj}{fd:FuncData}{x:Str}{p pos:Pos}{es:List PySem.Expr}{F:FF}{a:AF}(hf:DE w g c E (.Name x p) (Zb (.glob (.ref fa))))(ho:g.get? fa=some o)(hdt:o.data=.func fd)(d:DA w g c E es a)(hF:CF w g c (.ref fa) F):DE w g c E (.Call (.Name x p) es [] pos) (Zr F a):=by
 intro ℓ hp mv hp' q;revert q;refine jA fun vs hp1 q1 qa=>?_;intro ρ env s A Q Ee S hA h;refine wpAny_Call_ofName (hf _ _ _ _ rfl ρ env s A _ Ee S hA fun va h0 tk0 ρ0 P0 v0=>?_);cases v0
 refine Calls.callWith_function (o:=o) (fd:=fd) (Zam (d.2 env) (d.1 _ _ _ _ q1 ρ0 env pos _ A _ Ee (S.post P0) hA fun vs' h1 tk1 ρ1 P1 v1=>?_));exact ⟨⟨P1.rel.base _ _ ho,hdt⟩,hF _ _ _ _ qa ρ1 vs' _ A Q Ee P1.rel hA v1 (h.then (P0.trans P1))⟩
noncomputable def tyOf(hp:Hp):MV→Option String
 | .str _=>some "str"
 | .int _=>some "int"
 | .ref k=>match hp[k]? with
  | some (.list _)=>some "list"
  | some (.dict _)=>some "dict"
  | _=>none
 | .glob v=>if isG 76 v then some "dict" else none
 | _=>none
structure B2(w:World)(g:Heap):Prop where
 b3:∃o,g.get? 76=some o∧o.cls=.type "dict" ∧ o.dict=none
noncomputable def tyR:Option MO→Option String
 | some (.list _)=>some "list"
 | some (.dict _)=>some "dict"
 | _=>none
theorem Zej{hp:Hp}{k:Nat}{o:Option MO}(h:hp[k]?=o):tyOf hp (.ref k)=tyR o:=by subst h;rfl
theorem ty_sound(B:B2 w g){ρ:List Addr}{hp:Hp}{s:Shared}{x:MV}{v:Value}{T:String}(R:Rel w g ρ hp s.heap)(e:tyOf hp x=some T)(hv:VR ρ x v):s.TypeIs v T∧∀a,v=.ref a→∃ob,s.heap.get? a=some ob∧ob.dict=none:=by
 cases x with
 | str x=>cases e;obtain ⟨t,rfl⟩:=hv;exact ⟨typeIs_str s _ t,fun a e=>by cases e⟩
 | int x=>cases e;obtain ⟨t,rfl⟩:=hv;exact ⟨typeIs_int s _ t,fun a e=>by cases e⟩
 | ref k=>
  cases hk:hp[k]? with
  | none=>exact nn ((Zej hk).symm.trans e)
  | some m=>cases m with
   | list xs=>
    cases (Zej hk).symm.trans e
    refine Qs (R.list hk hv) fun a vs ea yq yr x=>?_;subst yq;refine ZW yr fun n ho=>?_;exact ⟨⟨_,ho,rfl⟩,fun b e=>by cases e;exact ⟨_,ho,rfl⟩⟩
   | dict xs=>
    cases (Zej hk).symm.trans e
    refine x2_5 (R.dict hk hv) fun a f ea yq yr x υ=>?_;subst yq;refine x3_3 yr fun o es ep ho hx r=>?_;exact ⟨⟨o,ho,hx.1⟩,fun b e=>by cases e;exact ⟨o,ho,hx.2.1⟩⟩
   | _=>exact nn ((Zej hk).symm.trans e)
 | glob v=>
  refine iI e fun hg e=>?_;have hg:=ZoR hg;subst hg;cases e;cases hv
  refine ZgO B.b3 fun o h1 h2 h3=>?_;exact ⟨⟨o,R.base _ _ h1,h2⟩,fun a e=>by cases e;exact ⟨o,R.base _ _ h1,h3⟩⟩
 | _=>exact nn e
noncomputable def ZV(T:String)(F:FF)(f:EF)(a:AF):EF:=fun ℓ hp=>match f ℓ hp with
 | some (v,hp1)=>(match a ℓ hp1 with
  | some (vs,hp2)=>if tyOf hp1 v=some T then F (v::vs) hp2 else none
  | none=>none)
 | none=>none
theorem DE.meth(B:B2 w g){T id:String}{o:PySem.Expr}{name:Str}{apos pos:Pos}{es:List PySem.Expr}{F:FF}{f:EF}{a:AF}(df:DE w g c E o f)(d:DA w g c E es a)(hF:CF w g c (.builtin id) F)
 (pa:PlainAttrs T) (slot:Slot T name id) (hty:typeOf (.builtin id)=pure (.type "method_descriptor"))
 (hbase:∀env,attributeBase o name env (eval o env)=eval o env)
 (hfew:∀env,((backTo pos (starEach es env)).all (fun x=>!x.1)&&(backToKw pos (keywordEach [] env)).all (fun x=>x.1.isSome)&&decide (es.length+([]:List Keyword).length+(if ([]:List Keyword).isEmpty then 0 else 1) < 30))=true)
 (hline:(apos.endLine==pos.line)=true):DE w g c E (.Call (.Attribute o name apos) es [] pos) (ZV T F f a):=by
 intro ℓ hp mv hp' q;revert q;refine jV fun v hp1 q1 qa=>?_;revert qa;refine jA fun vs hp2 q2 qb=>?_;revert qb;refine jI fun hT qc=>?_;intro ρ env s A Q Ee S hA h;refine wpAny_Call_method (hbase env) (hfew env) hline pa slot hty (df _ _ _ _ q1 ρ env s A _ Ee S hA fun va h1 tk1 ρ1 P1 v1=>?_);refine Qe (ty_sound B (s:={s with heap:=h1,toks:=tk1}) P1.rel hT v1) fun t1 t2=>?_;refine ZnZ t1 t2 ?_;refine Calls.callWith_builtin (ZaB (d.2 env)) (Zam (d.2 env) (d.1 _ _ _ _ q2 ρ1 env pos _ A _ Ee (S.post P1) hA fun vs' h2 tk2 ρ2 P2 v2=>?_));exact hF _ _ _ _ qc ρ2 _ _ A Q Ee P2.rel hA (.cons (v1.post P2) v2) (h.then (P1.trans P2))
end
end
section
section
variable {w:World} {g:Heap} {c:Nat} {E:EnvD} {mg mb:Str→Option Value}
theorem Zbu{α:Type}:∀{l:List (Str×α)} {x:Str} {v:α},(l.map (·.1)).Nodup→(x,v)∈l→l.lookup x=some v
 | (y,u)::r,x,v,hn,hm=>by
  rw[List.map_cons,List.nodup_cons] at hn;rcases lmc hm with e | e
  · cases e;simp[List.lookup_cons]
  · have hne:x≠y:=fun q=>hn.1 (q▸List.mem_map_of_mem (f:=(·.1)) e);rw[List.lookup_cons,beq_eq_false_iff_ne.mpr hne];exact Zbu hn.2 e
theorem ZcQ{names:List Str}{vs:List Value}(hn:names.Nodup){i:Nat}{x:Str}{v:Value}(h1:names[i]?=some x)(h2:vs[i]?=some v):(names.zip vs).reverse.lookup x=some v:=by
 have hi:i < names.length:=(lge h1).1;have hm:(x,v)∈names.zip vs:=by
  have:(names.zip vs)[i]?=some (x,v):=by rw[List.getElem?_zip_eq_some];exact ⟨h1,h2⟩
  exact List.mem_of_getElem? this
 refine Zbu ?_ (List.mem_reverse.mpr hm);rw[List.map_reverse];refine List.pairwise_reverse.mpr (List.Pairwise.imp (fun h=>Ne.symm h) ?_);show List.Nodup _
 have:(names.zip vs).map (·.1)=names.take vs.length:=by
  induction names generalizing vs i with
  | nil=>simp
  | cons a r ih=>cases vs with
   | nil=>simp
   | cons b q=>
    simp only[List.zip_cons_cons,List.map_cons,List.length_cons,List.take_succ_cons];congr 1
    clear ih h1 h2 hi hm hn;induction r generalizing q with
    | nil=>simp
    | cons a r ih=>cases q with
     | nil=>simp
     | cons b q=>simp[ih q]
 rw[this];exact List.Nodup.sublist (List.take_sublist _ _) hn
noncomputable def Qw(n m:Nat)(f:SF):FF:=fun args hp=>if args.length=n then (match f (args.map some++List.replicate m none) hp with
 | some (.ret v,_,hp')=>some (v,hp')
 | some (.norm,_,hp')=>some (.none,hp')
 | none=>none) else none
theorem jRet{o:Option (Ctl×Loc×Hp)}{mv:MV}{hp':Hp}{G:Prop}(f1:∀v ℓ2 hp2,o=some (.ret v,ℓ2,hp2)→some (v,hp2)=some (mv,hp')→G)(f2:∀ℓ2 hp2,o=some (.norm,ℓ2,hp2)→some (MV.none,hp2)=some (mv,hp')→G)
 (q:(match (generalizing:=false) o with
 | some (.ret v,_,hp')=>some (v,hp')
 | some (.norm,_,hp')=>some (.none,hp')
 | none=>none)=some (mv,hp')):G:=by
 cases o with
 | none=>exact nn q
 | some p=>cases p with
  | mk c p=>cases p with
   | mk l h=>cases c with
    | ret v=>exact f1 v l h rfl q
    | norm=>exact f2 l h rfl q
theorem CF.def{fa:Addr}{fd:FuncData}{o:Obj}{body:List Stmt}{names more:List Str}{f:SF}(B:Bs w g mg mb)(ho:g.get? fa=some o)(hd:o.data=.func fd)(hbody:fd.body=.stmts body)(hgl:fd.globals=mainGlobals)(hbi:fd.builtins=builtinsNs)(hclo:fd.closure=[])
 (hcode:g.CodeRec fd.code fd.qualname) (hb:∀vs:List Value,vs.length=names.length→bindArgs fd ⟨vs,[]⟩=pure (names.zip vs)) (hcell:∀x∈fd.scope.names,x.2≠.cell) (hloc:∀x∈names,fd.scope.names.lookup x=some .local) (hnd:names.Nodup)
 (hco:fd.scope.isCoroutine=false) (hgen:fd.scope.isGenerator=false) (hk:fd.scope.kind=.function) (d:DS w g c ⟨fd.scope,names++more,[],fd.code,fd.qualname ++ ".<locals>."⟩ body f):CF w g (c+1) (.ref fa) (Qw names.length more.length f):=by
 intro args hp mv hp' q;revert q;refine jI fun hlen qa=>?_;intro ρ vs s A Q Ee R hA hvs h;have hvl:vs.length=names.length:=by rw[hvs.len,hlen]
 refine wpAny_call ?_;have hdep:A.depth < recursionLimit:=by have:=hA.dep;have:recursionLimit=1000:=(by decide +kernel);lia
 have hcode':s.heap.CodeRec fd.code fd.qualname:=by
  refine x4_3 hcode fun c' o' vs' t e h1 h2=>?_;exact p4_3 c' o' vs' t e (R.base _ _ h1) h2
 refine codeAny_call_def hdep (R.base _ _ ho) hd (B.nolimit.keeps R.base) hcode' hbody (BindsTo.of_eq (hb vs hvl)) hcell (fun x hx=>hloc _ (List.of_mem_zip hx).1) (fun h₀ hns hkeep=>?_) hco hgen hk;have P0:Post w g ρ s.heap ρ hp h₀:=R.keep hkeep;have hLn:=ZG s.heap;have S0:St w g ⟨fd.scope,names++more,[],fd.code,fd.qualname ++ ".<locals>."⟩ ρ hp (args.map some++List.replicate more.length none) (callEnv fd s.heap.objs.size fa) h₀:=by
  refine ⟨P0.rel,rfl,hk,hgl,hbi,rfl,rfl,(fun x k e=>by cases e),R.notin_none hLn,Zak R.base hLn,_,hns,fun i x v e1 e2=>?_⟩;have hi:i < args.length:=by
   by_cases hi:i < args.length
   · exact hi
   · rw[List.getElem?_append_right (by simpa using hi)] at e2;have:=List.mem_of_getElem? e2;rw[List.mem_replicate] at this;cases this.2
  rw[List.getElem?_append_left (by simpa using hi)] at e2;rw[List.getElem?_append_left (by lia)] at e1;have e3:args[i]?=some v:=by
   rw[List.getElem?_map] at e2;cases h5:args[i]? with
   | none=>rw[h5] at e2;cases e2
   | some u=>rw[h5] at e2;cases e2;rfl
  refine ZJ (hvs.at i v e3) fun v' h3 h4=>?_;exact Qd v' (ZcQ hnd e1 h3) h4
 have hA':AOK c (A.deeper (callEnv fd s.heap.objs.size fa)):=⟨hA.hd,by have:=hA.dep;show A.depth+1+_≤_;lia,by have:=hA.un;show A.units+3+_≤_;lia⟩;have fin:∀{ρ2:List Addr} {hp2:Hp} {h2:Heap},PostW w g [s.heap.objs.size] ρ h₀ ρ2 hp2 h2→Post w g ρ s.heap ρ2 hp2 h2:=fun P=>
  PostW.dead (wr:=[s.heap.objs.size]) ((P0.toW).trans P fun a ha=>by rw[lms ha];exact .inr hLn) fun a ha=>by rw[lms ha];exact hLn
 revert qa;refine jRet (fun v ℓ2 hp2 q2 qa=>?_) fun ℓ2 hp2 q2 qa=>?_
 · refine oi2 qa fun yq yr=>?_;subst yq yr;refine d _ _ _ _ _ q2 ρ _ _ _ _ _ S0 hA' fun fl h2 tk2 ρ2 hf P2 S2=>?_;refine ZJ hf fun x yq hx=>?_;subst yq;exact h x h2 tk2 ρ2 (fin P2) hx
 · refine oi2 qa fun yq yr=>?_;subst yq yr;refine d _ _ _ _ _ q2 ρ _ _ _ _ _ S0 hA' fun fl h2 tk2 ρ2 hf P2 S2=>?_;cases hf
   exact h .none h2 tk2 ρ2 (fin P2) rfl
noncomputable def ZO:MV→Bool
 | .ref _=>false
 | _=>true
noncomputable def Zgt(F:FF):FF:=fun args hp=>if args.all ZO then (match F args [] with
 | some (mv,_)=>if ZO mv then some (mv,hp) else none
 | none=>none) else none
theorem VR.plain{ρ ρ':List Addr}{x:MV}{v:Value}(hx:ZO x=true)(h:VR ρ x v):VR ρ' x v:=by
 cases x with
 | ref k=>cases hx
 | _=>exact h
theorem VRs.plain{ρ ρ':List Addr}{xs:List MV}{vs:List Value}(hx:xs.all ZO=true)(h:VRs ρ xs vs):VRs ρ' xs vs:=by
 induction h with
 | nil=>exact .nil
 | cons h1 _ ih=>
  rw[List.all_cons,Bool.and_eq_true] at hx;exact .cons (h1.plain hx.1) (ih hx.2)
theorem CF.iso{fv:Value}{F:FF}(d:CF w g c fv F):CF w g c fv (Zgt F):=by
 intro args hp mv hp' q;revert q;refine jI fun hpl qa=>?_;revert qa;refine jV fun mv' hp2 q2 qb=>?_;revert qb;refine jI fun hpm qc=>?_;refine iS qc ?_;intro ρ vs s A Q Ee R hA hvs h;have R0:Rel w g [] [] s.heap:=⟨R.base,rfl,fun k mo a e=>by simp at e,List.nodup_nil,fun a ha=>by cases ha⟩;refine d _ _ _ _ q2 [] vs s A Q Ee R0 hA (hvs.plain hpl) fun v h' tk ρ' P hv=>?_;exact h v h' tk ρ (R.keep fun b o e=>P.keep b o List.not_mem_nil e) (hv.plain hpm)
theorem CF.mono{fv:Value}{F:FF}(d:CF w g c fv F){c':Nat}(h:c≤c'):CF w g c' fv F:=fun args hp mv hp' q ρ vs s A Q Ee R hA hvs hr=>d args hp mv hp' q ρ vs s A Q Ee R (hA.le h) hvs hr
noncomputable def lenF:FF:=fun args hp=>match args with
 | [.str x]=>if x.length≤100000 then some (.int x.length,hp) else none
 | [.ref k]=>(match hp[k]? with
  | some (.list xs)=>if xs.length≤100000 then some (.int xs.length,hp) else none
  | _=>none)
 | _=>none
theorem CF.len:CF w g c (.builtin "len") lenF:=by
 intro args hp mv hp' q;cases args with
 | nil=>exact nn q
 | cons a' args=>cases a' with
  | str x=>
   cases args with
   | nil=>
    revert q;refine jI fun hz qa=>?_;refine iS qa ?_;intro ρ vs s A Q Ee R hA hvs h;refine vr1 hvs fun υ h1=>?_;refine vrT h1 fun t=>?_;exact PyProof.Rows.len_str (by rw[Zay];lia) (h.pure R ⟨_,by rw[Zay]⟩)
   | cons _ _=>exact nn q
  | ref k=>
   cases args with
   | nil=>
    revert q;refine jW fun xs hk q=>?_;revert q;refine jI fun hz q=>?_;refine iS q ?_;intro ρ vs s A Q Ee R hA hvs h;refine vr1 hvs fun υ h1=>?_;refine Qs (R.list hk h1) fun a vs ea yq hl x=>?_;subst yq;exact Calls.call_len_list (Zaa hl) (by simp[x.len];lia) (h.pure R ⟨s.toks+1,by simp[x.len]⟩)
   | cons _ _=>exact nn q
  | _=>exact nn q
noncomputable def ordF:FF:=fun args hp=>match args with
 | [.str [n]]=>some (.int n,hp)
 | _=>none
theorem CF.ord:CF w g c (.builtin "ord") ordF:=by
 intro args hp mv hp' q;cases args with
 | nil=>exact nn q
 | cons a' args=>cases a' with
  | str x=>cases x with
   | nil=>exact nn q
   | cons n r=>cases r with
    | cons _ _=>exact nn q
    | nil=>cases args with
     | cons _ _=>exact nn q
     | nil=>
      refine iS q ?_;intro ρ vs s A Q Ee R hA hvs h;refine vr1 hvs fun υ h1=>?_;refine vrT h1 fun t=>?_;exact PySem.P.ord_of_char (c:=n) (h.pure R ⟨_,rfl⟩)
  | _=>exact nn q
noncomputable def Zpr:FF:=fun args hp=>match args with
 | [.int i]=>if 0≤i∧i≤0x10FFFF then some (.str [i.toNat],hp) else none
 | _=>none
theorem CF.chr:CF w g c (.builtin "chr") Zpr:=by
 intro args hp mv hp' q;cases args with
 | nil=>exact nn q
 | cons a' args=>cases a' with
  | int i=>
   cases args with
   | nil=>
    revert q;refine jI fun hz q=>?_;refine iS q ?_;intro ρ vs s A Q Ee R hA hvs h;refine vr1 hvs fun υ h1=>?_;refine vrI h1 fun t=>?_;exact PySem.P.chr_of_int (by simp;lia) (h.pure R ⟨_,rfl⟩)
   | cons _ _=>exact nn q
  | _=>exact nn q
noncomputable def Zco:List MV→Option (List Int)
 | []=>some []
 | .int i::r=>(match Zco r with
  | some is=>some (i::is)
  | none=>none)
 | _=>none
theorem Zhp{ρ:List Addr}:∀{xs:List MV} {is:List Int} {vs:List Value},Zco xs=some is→VRs ρ xs vs→IntsAre vs is:=by
 intro xs;induction xs with
 | nil=>intro is vs e h;cases e;cases h;exact .nil
 | cons x r ih=>
  intro is vs e h;cases x with
  | int i=>
   cases q:Zco r with
   | none=>exact nn ((show Zco (.int i::r)=none by simp only[Zco,q])▸e)
   | some js=>
    refine oi1 ((show Zco (.int i::r)=some (i::js) by simp only[Zco,q])▸e) fun y'=>?_;subst y';cases h with
    | cons h1 h2=>obtain ⟨t,rfl⟩:=h1;exact .cons i t (ih q h2)
  | _=>exact nn e
end
end
set_option tactic.hygienic false
section
section
variable {w:World} {g:Heap} {c:Nat} {E:EnvD} {mg mb:Str→Option Value}
noncomputable def ZoE:FF:=fun args hp=>match args with
 | [.str x]=>if (Txt.lower (mkS x)).length≤100000 then some (.str (Txt.lower (mkS x)).cps.toList,hp) else none
 | _=>none
theorem CF.lower:CF w g c (.builtin "str.lower") ZoE:=by
 intro args hp mv hp' q;cases args with
 | nil=>exact nn q
 | cons a' args=>cases a' with
  | str x=>
   cases args with
   | nil=>
    revert q;refine jI fun hz qa=>?_;refine iS qa ?_;intro ρ vs s A Q Ee R hA hvs h;refine vr1 hvs fun υ h1=>?_;refine vrT h1 fun t=>?_;exact SC.lower (by simp only[Builtin.Str.tooLong,decide_eq_false_iff_not];unfold sizeLine;lia) (h.pure R ⟨s.toks,by rw[Zhj]⟩)
   | cons _ _=>exact nn q
  | _=>exact nn q
noncomputable def ZjZ:FF:=fun args hp=>match args with
 | [.str x,.str y]=>some (.bool (Txt.startswith (mkS x) (mkS y)),hp)
 | _=>none
theorem CF.starts:CF w g c (.builtin "str.startswith") ZjZ:=by
 intro args hp mv hp' q;cases args with
 | nil=>exact nn q
 | cons a' args=>cases a' with
  | str x=>
   cases args with
   | nil=>exact nn q
   | cons a' args=>cases a' with
    | str y=>
     cases args with
     | nil=>
      refine iS q ?_;intro ρ vs s A Q Ee R hA hvs h;refine vr2 hvs fun υ υ h1 h3=>?_;refine vrT h1 fun t=>?_;refine vrT h3 fun u=>?_;exact SC.startswith (h.pure0 R rfl)
     | cons _ _=>exact nn q
    | _=>exact nn q
  | _=>exact nn q
noncomputable def endsF:FF:=fun args hp=>match args with
 | [.str x,.str y]=>some (.bool (Txt.endswith (mkS x) (mkS y)),hp)
 | _=>none
theorem CF.ends:CF w g c (.builtin "str.endswith") endsF:=by
 intro args hp mv hp' q;cases args with
 | nil=>exact nn q
 | cons a' args=>cases a' with
  | str x=>
   cases args with
   | nil=>exact nn q
   | cons a' args=>cases a' with
    | str y=>
     cases args with
     | nil=>
      refine iS q ?_;intro ρ vs s A Q Ee R hA hvs h;refine vr2 hvs fun υ υ h1 h3=>?_;refine vrT h1 fun t=>?_;refine vrT h3 fun u=>?_;exact SC.endswith (h.pure0 R rfl)
     | cons _ _=>exact nn q
    | _=>exact nn q
  | _=>exact nn q
noncomputable def find3(x y:Str)(i j:Int):Int:=match Builtin.Str.occurrences x y (fromIndex x.length i) (min (fromIndex x.length j) x.length) 1 with | k::_=>(k:Int) | []=>-1
theorem Zed(x y:Str)(i j:Int)(t u v v':Tok):Gives (Builtin.«str.find» ⟨[.str x t,.str y u,.int i v,.int j v'],[]⟩) (.int (find3 x y i j)):=by
 show Gives (match Builtin.Str.occurrences x y (fromIndex x.length i) (min (fromIndex x.length j) x.length) 1 with | k::_=>PySem.retInt k | []=>(do rule "str.find.not-found";PySem.retInt (-1))) _
 unfold find3;cases Builtin.Str.occurrences x y (fromIndex x.length i) (min (fromIndex x.length j) x.length) 1 with
 | nil=>exact .rule (.of_eq rfl)
 | cons k _=>exact .of_eq rfl
noncomputable def ZdD:FF:=fun args hp=>match args with
 | [.str x,.str y]=>some (.int (Txt.find (mkS x) (mkS y)),hp)
 | [.str x,.str y,.int i,.int j]=>some (.int (find3 (mkS x) (mkS y) i j),hp)
 | _=>none
theorem CF.find:CF w g c (.builtin "str.find") ZdD:=by
 intro args hp mv hp' q;cases args with
 | nil=>exact nn q
 | cons a' args=>cases a' with
  | str x=>
   cases args with
   | nil=>exact nn q
   | cons a' args=>cases a' with
    | str y=>
     cases args with
     | nil=>
      refine iS q ?_;intro ρ vs s A Q Ee R hA hvs h;refine vr2 hvs fun υ υ h1 h3=>?_;refine vrT h1 fun t=>?_;refine vrT h3 fun u=>?_;exact SC.find (h.pure R ⟨_,rfl⟩)
     | cons a' args=>cases a' with
      | int i=>
       cases args with
       | nil=>exact nn q
       | cons a' args=>cases a' with
        | int j=>
         cases args with
         | nil=>
          refine iS q ?_;intro ρ vs s A Q Ee R hA hvs h;refine vr4 hvs fun υ υ υ υ h1 h3 h5 h7=>?_;refine vrT h1 fun t=>?_;refine vrT h3 fun u=>?_;refine vrI h5 fun v=>?_;refine vrI h7 fun v'=>?_;exact call_gives F.slot_str_find (typeIs_str _ _ _) F.entry_str_find (F.args_str_find_4 _ _ _ _) (Zed _ _ _ _ _ _ _ _) (h.pure R ⟨_,rfl⟩)
         | cons _ _=>exact nn q
        | _=>exact nn q
      | _=>exact nn q
    | _=>exact nn q
  | _=>exact nn q
noncomputable def strsM(l:List Str):List MV:=l.map fun x=>.str x.cps.toList
theorem strs_are{ρ:List Addr}:∀(l:List (Str×Tok)),VRs ρ (strsM (l.map (·.1))) (strValues l):=by
 intro r;induction r with
 | nil=>
  exact .nil
 | cons z' r ih=>
  obtain ⟨x,t⟩:=z';exact .cons ⟨t,by rw[Zhj]⟩ (ih)
noncomputable def ZgQ:FF:=fun args hp=>match args with
 | [.str x,.str y]=>if y≠[]∧x.length≤1000∧(Builtin.Str.partsBetween (mkS x) (Builtin.Str.occurrences (mkS x) (mkS y) 0 (mkS x).length ((mkS x).length+1)) (mkS y).length).length≤100000 then some (.ref hp.length,hp++[.list (strsM (Txt.split (mkS x) (mkS y)))]) else none
 | _=>none
theorem CF.split:CF w g c (.builtin "str.split") ZgQ:=by
 intro args hp mv hp' q;cases args with
 | nil=>exact nn q
 | cons a' args=>cases a' with
  | str x=>
   cases args with
   | nil=>exact nn q
   | cons a' args=>cases a' with
    | str y=>
     cases args with
     | nil=>
      revert q;refine jI fun hz q=>?_;refine iS q ?_;intro ρ vs s A Q Ee R hA hvs h;refine vr2 hvs fun υ υ h1 h3=>?_;refine vrT h1 fun t=>?_;refine vrT h3 fun u=>?_;have hy:((mkS y).length==0)=false:=by
       rw[Zay,beq_eq_false_iff_ne];intro e;exact hz.1 (List.length_eq_zero_iff.mp e)
      have fin:∀(l:List (Str×Tok)) (tk:Nat),l.map (·.1)=Txt.split (mkS x) (mkS y)→Q (.ref s.heap.objs.size) {s with heap:=s.heap.push {cls:=.type "list", data:=.seq (strValues l).toArray},toks:=tk}:=fun l tk e=>by
       have:=strs_are (ρ:=ρ) l;rw[e] at this;exact Zbx R this h
      have hsz:(mkS x).length≤sizeLine:=by rw[Zay];unfold sizeLine;lia
      have hsz2:(Builtin.Str.partsBetween (mkS x) (Builtin.Str.occurrences (mkS x) (mkS y) 0 (mkS x).length ((mkS x).length+1)) (mkS y).length).length≤sizeLine:=by unfold sizeLine;lia
      cases h1:(decide ((mkS x).length < (mkS y).length) || decide (Builtin.Str.strKind (mkS x) < Builtin.Str.strKind (mkS y)))
      · cases hf:(Builtin.Str.occurrences (mkS x) (mkS y) 0 (mkS x).length ((mkS x).length+1)).isEmpty
        · refine call_meets F.slot_str_split (typeIs_str _ _ _) F.entry_str_split (F.args_str_split_2 _ _) (meets_str_split_sep (mkS x) (mkS y) t u h1 hy hf hsz hsz2) ?_;show wants Q Ee _ {s with toks:=_,heap:=s.heap.push {cls:=.type "list", data:=.seq (strsFrom s.toks (Builtin.Str.partsBetween (mkS x) (Builtin.Str.occurrences (mkS x) (mkS y) 0 (mkS x).length ((mkS x).length+1)) (mkS y).length)).toArray}}
          rw[strsFrom_eq];exact fin (numbered s.toks _) _ ((numbered_texts _ _).trans ((if_neg (ne_true_of_eq_false h1)).trans (if_neg (ne_true_of_eq_false hf))).symm)
        · exact call_meets F.slot_str_split (typeIs_str _ _ _) F.entry_str_split (F.args_str_split_2 _ _) (meets_str_split_not_found (mkS x) (mkS y) t u h1 hy hf)
           (fin [(mkS x,t)] s.toks ((if_neg (ne_true_of_eq_false h1)).trans (if_pos hf)).symm)
      · exact call_meets F.slot_str_split (typeIs_str _ _ _) F.entry_str_split (F.args_str_split_2 _ _) (meets_str_split_cannot_occur (mkS x) (mkS y) t u h1)
         (fin [(mkS x,t)] s.toks (if_pos h1).symm)
     | cons _ _=>exact nn q
    | _=>exact nn q
  | _=>exact nn q
noncomputable def Zgk:FF:=fun args hp=>match args with
 | [.ref k,x]=>(match Zas k x hp with
  | some hp'=>some (.none,hp')
  | none=>none)
 | _=>none
theorem CF.append:CF w g c (.builtin "list.append") Zgk:=by
 intro args hp mv hp' q;cases args with
 | nil=>exact nn q
 | cons a' args=>cases a' with
  | ref k=>
   cases args with
   | nil=>exact nn q
   | cons x args=>
    cases args with
    | nil=>
     revert q;refine jH fun hp2 q2 q=>?_;refine iS q ?_;intro ρ vs s A Q Ee R hA hvs h;refine vr2 hvs fun υ υ h1 h3=>?_;refine vrR h1 fun a ea=>?_;exact ZdZ R q2 ea h3 fun h' P=>h _ h' s.toks ρ P rfl
    | cons _ _=>exact nn q
  | _=>exact nn q
end
end
set_option tactic.hygienic true
set_option tactic.hygienic false
section
section
variable {w:World} {g:Heap} {c:Nat} {E:EnvD} {mg mb:Str→Option Value}
noncomputable def ZnG(hp:Hp)(o i:MV):Option MV:=match o,i with
 | .str s,.int i=>if 0≤i∧i≤100000 then (match s[i.toNat]? with
  | some n=>some (.str [n])
  | none=>none) else none
 | .ref k,.int i=>(match hp[k]? with
  | some (.list xs)=>if 0≤i∧i≤100000 then xs[i.toNat]? else if i < 0∧-(xs.length:Int)≤i∧xs.length≤100000 then xs[(i+xs.length).toNat]? else none
  | _=>none)
 | .ref k,.str s=>(match hp[k]? with
  | some (.dict es)=>es.lookup s
  | _=>none)
 | _,_=>none
theorem Zhr{o i mv:MV}{vo vi:Value}{ρ:List Addr}{hp:Hp}{s:Shared}{A:Around}{Q Ee:Value→Shared→Prop}(e:ZnG hp o i=some mv)(R:Rel w g ρ hp s.heap)(ho:VR ρ o vo)(hi:VR ρ i vi)(h:Ret w g ρ hp mv Q s):
 wpAny (model pE w) A (getItem vo vi) Q Ee s:=by
 cases o with
 | str x=>cases i with
  | int j=>
   revert e;refine jI fun hz e=>?_;revert e;refine jQ fun n hn e=>?_;refine oi1 e fun yq=>?_;subst yq;obtain ⟨t,rfl⟩:=ho;obtain ⟨u,rfl⟩:=hi;have hlt:j.toNat < x.length:=(lge hn).1;have hc:Txt.charAt (mkS x) j=some n:=by
    unfold Txt.charAt;rw[seqIndex_of hz.1 (by rw[Zay];lia)];show (mkS x).cps[j.toNat]?=some n
    rw[show (mkS x).cps[j.toNat]?=x[j.toNat]? by simp[mkS],hn]
   refine SB.getItem (by unfold fitsSsize;simp;lia) (by rw[hc];rfl) ?_;have e2:Txt.item (mkS x) j=mkS [n]:=by unfold Txt.item;rw[hc];rfl
   rw[e2];exact h.pure R ⟨_,rfl⟩
  | _=>exact nn e
 | ref k=>cases i with
  | int j=>
   revert e;refine jW fun xs hk e=>?_;refine Qs (R.list hk ho) fun a vs ea yq hl x=>?_;subst yq;refine vrI hi fun u=>?_;split at e
   · rename_i hz;refine ZJ (x.at _ _ e) fun v e1 e2=>?_;exact wpAny_getItem_list (Zaa hl) hz.1 (by lia) (by simpa using e1) (h.pure0 R e2)
   · revert e;refine jI fun hz e=>?_;refine ZJ (x.at _ _ e) fun v e1 e2=>?_;exact wpAny_getItem_list_neg (Zaa hl) hz.1 (by simp[x.len];lia) (by lia) (by simpa [x.len] using e1) (h.pure0 R e2)
  | str y=>
   revert e;refine jWd fun es hk e=>?_;refine x2_5 (R.dict hk ho) fun d f ea yq h1 h2 h3=>?_;subst yq;refine vrT hi fun u=>?_;have:=h2 y;rw[e] at this;refine ZJ this fun v e1 e2=>?_;exact wpAny_getItem_of (ZfK _ u) h1.mapOf e1 (h.pure R e2)
  | _=>exact nn e
 | _=>exact nn e
theorem Zat(a:Str)(b:Value)(r:List (Str×Value))(z:Str):valueAt ((a,b)::r) z=if a=z then some b else valueAt r z:=by
 unfold valueAt;rw[List.find?_cons];by_cases h:a=z<;>simp[h]
theorem ZjY(k:Str)(v:Value)(z:Str):∀kvs:List (Str×Value),valueAt (kvs.map (fun kv=>if kv.1=k then (kv.1,v) else kv)) z=if z=k then (valueAt kvs z).map (fun υ=>v) else valueAt kvs z:=by
 intro r;induction r with
 | nil=>
  simp[valueAt]
 | cons z' r ih=>
  obtain ⟨a,b⟩:=z';rw[List.map_cons];have ih:=ih;by_cases ha:a=k
  · simp only[ha,if_true];rw[Zat,Zat,ih];by_cases hz:z=k
    · subst hz;simp
    · simp[hz,Ne.symm hz]
  · simp only[ha,if_false];rw[Zat,Zat,ih];by_cases hz:z=k
    · subst hz;simp[ha]
    · simp[hz]
theorem ZiL(k:Str)(v:Value)(z:Str):∀kvs:List (Str×Value),valueAt (kvs++[(k,v)]) z=match valueAt kvs z with | some u=>some u | none=>if k=z then some v else none:=by
 intro r;induction r with
 | nil=>
  rw[List.nil_append,Zat];simp[valueAt]
 | cons z' r ih=>
  obtain ⟨a,b⟩:=z';rw[List.cons_append,Zat,Zat,ih];by_cases h:a=z<;>simp[h]
theorem ZeG(k:Str):∀kvs:List (Str×Value),kvs.any (fun kv=>decide (kv.1=k))=(valueAt kvs k).isSome:=by
 intro r;induction r with
 | nil=>
  exact rfl
 | cons z' r ih=>
  obtain ⟨a,b⟩:=z';rw[List.any_cons,Zat,ih];by_cases h:a=k<;>simp[h]
theorem ZcM(kvs:List (Str×Value))(k:Str)(v:Value)(z:Str):valueAt (stored kvs k v) z=if z=k then some v else valueAt kvs z:=by
 unfold stored;split
 · rename_i h;rw[ZjY];rw[ZeG] at h;by_cases hz:z=k
   · subst hz;refine ZW (Option.isSome_iff_exists.mp h) fun u e=>?_;simp[e]
   · simp[hz]
 · rename_i h;rw[ZiL];rw[ZeG] at h;by_cases hz:z=k
   · subst hz;have:valueAt kvs z=none:=by simpa using h
     simp[this]
   · simp only[hz,if_false,Ne.symm hz];cases valueAt kvs z<;>rfl
noncomputable def setI(hp:Hp)(o i v:MV):Option Hp:=match o,i with
 | .ref k,.int i=>(match hp[k]? with
  | some (.list xs)=>if 0≤i∧i < xs.length∧xs.length≤100000 then some (hp.set k (.list (xs.set i.toNat v))) else none
  | _=>none)
 | .ref k,.str s=>(match hp[k]? with
  | some (.dict es)=>if es.length≤1000 then some (hp.set k (.dict ((s,v)::es))) else none
  | _=>none)
 | _,_=>none
theorem VRs.set{ρ:List Addr}{xs:List MV}{vs:List Value}{y:MV}{u:Value}(x:VRs ρ xs vs)(hy:VR ρ y u):∀n,VRs ρ (xs.set n y) (vs.set n u):=by
 induction x with
 | nil=>intro n;exact .nil
 | cons h1 h2 ih=>intro n;cases n with
  | zero=>exact .cons hy h2
  | succ n=>exact .cons h1 (ih n)
theorem setPlain{l:Addr}{items:Array Value}{k:Int}{t:Tok}{v:Value}{s:Shared}{A:Around}{Ee:Value→Shared→Prop}{Q:Unit→Shared→Prop}(hl:s.heap.PlainList l items)
 (h0:0≤k) (hfit:k < 2 ^ 63) (hn:k < items.size)
 (hQ:∀h',h'.PlainList l (items.setIfInBounds k.toNat v)→Heap.SameBut l s.heap h'→Q () {s with heap:=h'}):
 wpAny (model pE w) A (setItem (.ref l) (.int k t) v) Q Ee s:=by
 refine ZW hl fun ne ho=>?_;have hl':s.heap.IsList l items:=⟨_,ho,rfl,ne,rfl⟩;unfold setItem;try with_reducible refine wpAny_holding ?_
 first | refine wpAny_bind (wpAny_pure ?_) | skip
 refine wpAny_bind (wpAny_sequenceKey hl'.typeIs (by decide) ?_);refine wpAny_bind (wpAny_callSpecial?_slot (name:=Str.ofString "__setitem__") hl'.typeIs PySem.slot_list_setitem
  (wpAny_call_entry PySem.slot_list_setitem hl'.typeIs PySem.entry_list_setitem ?_ (PySem.args_list_setitem _ _ _)))
 show wpAny _ _ (Builtin.List.listSubscript? (.int k t)>>=_) _ _ s
 refine wpAny_bind (wpAny_listSubscript_int (fitsIndex_of h0 hfit) ?_);clear hfit;refine ZW (Int.eq_ofNat_of_zero_le h0) fun j yq=>?_;subst yq;have hj:j < items.size:=by lia
 have hx':items[j]?=some items[j]:=Array.getElem?_eq_getElem hj;show wpAny _ _ ((seqItemAt l j>>=fun r=>pure (r.map (j,·)))>>=_) _ _ s
 refine wpAny_bind (wpAny_bind (wpAny_seqItemAt ho rfl (wpAny_pure ?_)));rw[hx'];show wpAny _ _ (setSeqItemAt l j v>>=_) _ _ s
 refine ZW (Obj.data_mapSeq (o:={cls:=.type "list", data:=.seq items ne}) rfl (·.setIfInBounds j v)) fun n' hd'=>?_;have hfin:(s.heap.update l (Obj.mapSeq (·.setIfInBounds j v))).PlainList l (items.setIfInBounds j v):=
  ⟨_,Heap.get?_update_self _ ho (Obj.isFreed_of_seq hd')⟩
 refine wpAny_bind (wpAny_setSeqItemAt ho rfl ?_);first
  | exact wpAny_bind (wpAny_pure (wpAny_pure ⟨.none,rfl,wpAny_pure (hQ _ hfin (Heap.SameBut.update ..))⟩))
  | exact wpAny_pure ⟨.none,rfl,wpAny_pure (hQ _ hfin (Heap.SameBut.update ..))⟩
theorem ZgT{o i mv:MV}{vo vi v:Value}{ρ:List Addr}{hp hp':Hp}{s:Shared}{A:Around}{Ee:Value→Shared→Prop}{Q:Unit→Shared→Prop}(e:setI hp o i mv=some hp')(R:Rel w g ρ hp s.heap)(ho:VR ρ o vo)(hi:VR ρ i vi)(hv:VR ρ mv v)
 (h:∀h' tk,Post w g ρ s.heap ρ hp' h'→Q () {s with heap:=h',toks:=tk}):wpAny (model pE w) A (setItem vo vi v) Q Ee s:=by
 cases o with
 | ref k=>cases i with
  | int j=>
   revert e;refine jW fun xs hk e=>?_;revert e;refine jI fun hz e=>?_;refine oi1 e fun yq=>?_;subst yq;refine Qs (R.list hk ho) fun a vs ea yq hl x=>?_;subst yq;refine vrI hi fun u=>?_;refine setPlain hl hz.1 (by lia) (by simp[x.len];lia) fun h' hl' hs'=>h h' s.toks (R.update ea hs' ⟨vs.set j.toNat v,?_,x.set hv _⟩);simpa using hl'
  | str y=>
   revert e;refine jWd fun es hk e=>?_;revert e;refine jI fun hz e=>?_;refine oi1 e fun yq=>?_;subst yq;refine x2_5 (R.dict hk ho) fun d f ea yq h1 h2 h3=>?_;subst yq;refine vrT hi fun u=>?_;refine wpAny_setItem_pairs (ZfK _ u) h1 (fun h' hm' hs'=>h h' _ (R.update ea hs' ⟨_,hm',?_,?_⟩)) (by unfold sizeLine;lia)
   · intro z;rw[ZcM,List.lookup_cons];by_cases hz:z=y
     · subst hz;simp;exact hv
     · have hb:(z==y)=false:=beq_eq_false_iff_ne.mpr hz;have hne:mkS z≠mkS y:=fun q=>hz (ZkJ q);simp only[hb,hne,if_false];exact h2 z
   · unfold stored;split
     · simp;lia
     · simp;lia
  | _=>exact nn e
 | _=>exact nn e
noncomputable def ZZ(f1 f2:EF):EF:=fun ℓ hp=>match f1 ℓ hp with
 | some (o,hp1)=>(match f2 ℓ hp1 with
  | some (i,hp2)=>(match ZnG hp2 o i with
   | some v=>some (v,hp2)
   | none=>none)
  | none=>none)
 | none=>none
theorem getI_ty{ρ:List Addr}{hp:Hp}{s:Shared}{o i mv:MV}{vo:Value}(e:ZnG hp o i=some mv)(R:Rel w g ρ hp s.heap)(ho:VR ρ o vo):∃T id,s.TypeIs vo T∧typeLookup (.type T) "__getitem__" = pure (some (.builtin id)):=by
 cases o with
 | str x=>
  obtain ⟨t,rfl⟩:=ho;exact ⟨"str", _,typeIs_str _ _ _,F.slot_str_getitem.lookup⟩
 | ref k=>cases i with
  | int j=>
   revert e;refine jW fun υ hk e=>?_;refine Qs (R.list hk ho) fun a vs ea yq hl x=>?_;subst yq;exact ZeN ("list") _ ((Zaa hl).typeIs) PySem.slot_list_getitem.lookup
  | str y=>
   revert e;refine jWd fun υ hk e=>?_;refine x2_5 (R.dict hk ho) fun d f ea yq h1 h2 h3=>?_;subst yq;exact ZeN ("dict") _ h1.mapOf.typeIs PySem.slot_dict_getitem.lookup
  | _=>exact nn e
 | _=>exact nn e
theorem Zoi{value slice:PySem.Expr}{o i:Value}{T id:String}{s:Shared}{A:Around}{Q Ee:Value→Shared→Prop}{ops:List Value}(hT:s.TypeIs o T)
 (hl:typeLookup (.type T) "__getitem__" = pure (some (.builtin id))) (h:wpAny (model pE w) A (getItem o i) Q Ee s)
 (hs:subscripted slice false o i=operate ops (getItem o i)):wpAny (model pE w) A (subscriptTail value slice o i) Q Ee s:=by
 unfold subscriptTail;refine wpAny_bind ?_;rw[getitemInPython_of_ne hT.not_modules];refine wpAny_bind (wpAny_specialOf hT hl ?_);have fin:wpAny (model pE w) A (subscripted slice false o i) (fun r s₃=>wpAny (model pE w) A (letTemporaryGo value o r>>=fun υ=>pure r) Q Ee s₃) Ee s:=by
  rw[hs];exact wpAny_operating (wpAny_mono h (fun r s₃ h₃=>wpAny_bind (wpAny_letTemporaryGo (wpAny_pure h₃))) fun υ υ x=>x)
 first
  | exact wpAny_pure (wpAny_bind fin)
  | exact wpAny_bind (wpAny_pure (wpAny_bind fin))
  | exact wpAny_bind fin
theorem DE.sub{e1 e2:PySem.Expr}{f1 f2:EF}{pos:Pos}(d1:DE w g c E e1 f1)(d2:DE w g c E e2 f2)(hs:∀o i,subscripted e2 false o i=operate [o,i] (getItem o i)):DE w g c E (.Subscript e1 e2 pos) (ZZ f1 f2):=by
 intro ℓ hp mv hp' e;revert e;refine jV fun o hp1 q1 ea=>?_;revert ea;refine jV fun i hp2 q2 eb=>?_;revert eb;refine jM fun v q3 ec=>?_;refine iS ec ?_;intro ρ env s A Q Ee S hA h;refine Subscript_ (d1 _ _ _ _ q1 ρ env s A _ Ee S hA fun vo h1 tk1 ρ1 P1 v1=>?_);refine d2 _ _ _ _ q2 ρ1 env _ A _ Ee (S.post P1) hA fun vi h2 tk2 ρ2 P2 v2=>?_;refine ZeF (getI_ty (s:={s with heap:=h2,toks:=tk2}) q3 P2.rel (v1.post P2)) fun T id t1 t2=>?_;exact Zoi t1 t2 (Zhr q3 P2.rel (v1.post P2) v2 (h.then (P1.trans P2))) (hs _ _)
noncomputable def asgI(f fo fi:EF):SF:=fun ℓ hp=>match f ℓ hp with
 | some (v,hp1)=>(match fo ℓ hp1 with
  | some (o,hp2)=>(match fi ℓ hp2 with
   | some (i,hp3)=>(match setI hp3 o i v with
    | some hp4=>some (.norm,ℓ,hp4)
    | none=>none)
   | none=>none)
  | none=>none)
 | none=>none
theorem DS1.assignI{o i e:PySem.Expr}{p' pos:Pos}{f fo fi:EF}(d:DE w g c E e f)(do_:DE w g c E o fo)(di:DE w g c E i fi)(hs:∀env,swapsWith e (some (.Subscript o i p')) pos.line env=pure false):DS1 w g c E (.Assign [.Subscript o i p'] e pos) (asgI f fo fi):=by
 intro ℓ hp k ℓ' hp' q;revert q;refine jV fun v hp1 q1 qa=>?_;revert qa;refine jV fun vo hp2 q2 qb=>?_;revert qb;refine jV fun vi hp3 q3 qc=>?_;revert qc;refine jH fun hp4 q4 qd=>?_;refine iT qd ?_;intro ρ env s A Q Ee S hA h;refine wpAny_Assign_Subscript (d _ _ _ _ q1 ρ env s A _ Ee S hA fun va h1 tk1 ρ1 P1 v1=>?_) (hs env);refine do_ _ _ _ _ q2 ρ1 env _ A _ Ee (S.post P1) hA fun oa h2 tk2 ρ2 P2 v2=>?_;refine di _ _ _ _ q3 ρ2 env _ A _ Ee ((S.post P1).post P2) hA fun ia h3 tk3 ρ3 P3 v3=>?_;refine ZgT q4 P3.rel (v2.post P3) v3 ((v1.post P2).post P3) fun h4 tk4 P4=>?_;have P:=((P1.trans P2).trans P3).trans P4;exact h .next h4 tk4 ρ3 rfl P.toW (S.post P)
end
end
set_option tactic.hygienic true
set_option tactic.hygienic false
section
section
variable {w:World} {g:Heap} {c:Nat} {E:EnvD} {mg mb:Str→Option Value}
theorem ZhE{ρ:List Addr}{hp:Hp}{h:Heap}{k n:Nat}{a:Addr}{its:Array Value}{f:Array Value→Array Value}{ys:List MV}{ws:List Value}(R:Rel w g ρ hp h)(ea:ρ[k]?=some a)(ho:h.get? a=some {cls:=.type "list", data:=.seq its n})(hf:f its=ws.toArray)(x:VRs ρ ys ws):
 Post w g ρ h ρ (hp.set k (.list ys)) (h.update a (Obj.mapSeq f)):=by
 refine R.update ea (Heap.SameBut.update ..) ⟨ws,?_,x⟩;refine ZW (Obj.data_mapSeq (o:={cls:=.type "list", data:=.seq its n}) rfl f) fun n' hd'=>?_;rw[← hf];exact ⟨_,Heap.get?_update_self _ ho (Obj.isFreed_of_seq hd')⟩
noncomputable def ZfL:FF:=fun args hp=>match args with
 | [.ref k,.int i,x]=>(match hp[k]? with
  | some (.list xs)=>if 0≤i∧i≤100000∧xs.length≤100000 then some (.none,hp.set k (.list (xs.take (min i.toNat xs.length)++x::xs.drop (min i.toNat xs.length)))) else none
  | _=>none)
 | _=>none
theorem CF.insert:CF w g c (.builtin "list.insert") ZfL:=by
 intro args hp mv hp' q;cases args with
 | nil=>exact nn q
 | cons a' args=>cases a' with
  | ref k=>
   cases args with
   | nil=>exact nn q
   | cons a' args=>cases a' with
    | int i=>
     cases args with
     | nil=>exact nn q
     | cons x args=>
      cases args with
      | nil=>
       revert q;refine jW fun xs hk q=>?_;revert q;refine jI fun hz q=>?_;refine iS q ?_;intro ρ vs s A Q Ee R hA hvs h;refine vr3 hvs fun υ υ vy h1 h3 h5=>?_;refine Qs (R.list hk h1) fun a vs ea yq yr xx=>?_;subst yq;refine ZW yr fun n ho=>?_;refine vrI h3 fun u=>?_;refine call_meets F.slot_list_insert ⟨_,ho,rfl⟩ F.entry_list_insert (F.args_list_insert_3 _ _ _) (AutoSeq1.list_insert_list_int_val_1 a _ n i u _ (by simp[Builtin.List.listFitsIndex];lia) (by simp[xx.len,sizeLine];lia)) ⟨ho,?_⟩;refine h _ _ s.toks ρ (ZhE (ws:=vs.take (min i.toNat xs.length)++vy::vs.drop (min i.toNat xs.length)) R ea ho ?_ ((xx.take _).append (.cons h5 (xx.drop _)))) rfl;have hneg:¬i < 0:=by lia
       simp only[hneg,if_false,List.size_toArray,xx.len];apply Array.ext'
       simp;exact List.take_of_length_le (by simp[xx.len])
      | cons _ _=>exact nn q
    | _=>exact nn q
  | _=>exact nn q
noncomputable def popF:FF:=fun args hp=>match args with
 | [.ref k,.int i]=>(match hp[k]? with
  | some (.list xs)=>if 0≤i∧i < xs.length∧xs.length≤100000 then (match xs[i.toNat]? with
   | some x=>some (x,hp.set k (.list (xs.eraseIdx i.toNat)))
   | none=>none) else none
  | _=>none)
 | _=>none
theorem VRs.erase{ρ:List Addr}{xs:List MV}{vs:List Value}(x:VRs ρ xs vs):∀n,VRs ρ (xs.eraseIdx n) (vs.eraseIdx n):=by
 induction x with
 | nil=>intro n;exact .nil
 | cons h1 h2 ih=>intro n;cases n with
  | zero=>exact h2
  | succ n=>exact .cons h1 (ih n)
theorem Zdm(vs:List Value)(k:Nat):vs.toArray.eraseIdxIfInBounds k=(vs.eraseIdx k).toArray:=by
 apply Array.ext'
 simp
theorem CF.pop:CF w g c (.builtin "list.pop") popF:=by
 intro args hp mv hp' q;cases args with
 | nil=>exact nn q
 | cons a' args=>cases a' with
  | ref k=>
   cases args with
   | nil=>exact nn q
   | cons a' args=>cases a' with
    | int i=>
     cases args with
     | nil=>
      revert q;refine jW fun xs hk q=>?_;revert q;refine jI fun hz q=>?_;revert q;refine jM fun y hy q=>?_;refine iS q ?_;intro ρ vs s A Q Ee R hA hvs h;refine vr2 hvs fun υ υ h1 h3=>?_;refine Qs (R.list hk h1) fun a vs ea yq yr xx=>?_;subst yq;refine ZW yr fun n ho=>?_;refine vrI h3 fun u=>?_;refine ZJ (xx.at _ _ hy) fun v e1 e2=>?_;refine call_meets F.slot_list_pop ⟨_,ho,rfl⟩ F.entry_list_pop (F.args_list_pop_2 _ _) (MeetsSeq.list_pop_at a _ n i u i.toNat v (by simp[Builtin.List.listFitsIndex];lia) (seqIndex_of hz.1 (by simp[xx.len];lia)) (by simpa using e1) (by simp[xx.len,sizeLine];lia)) ⟨ho,?_⟩;exact h _ _ s.toks ρ (ZhE R ea ho (Zdm _ _) (xx.erase _)) e2
     | cons _ _=>exact nn q
    | _=>exact nn q
  | _=>exact nn q
noncomputable def ZkR:FF:=fun args hp=>match args with
 | [.ref k,.ref j]=>(match hp[k]?,hp[j]? with
  | some (.list xs),some (.list ys)=>if xs.length+ys.length≤100000 then some (.none,hp.set k (.list (xs++ys))) else none
  | _,_=>none)
 | _=>none
theorem CF.extend:CF w g c (.builtin "list.extend") ZkR:=by
 intro args hp mv hp' q;cases args with
 | nil=>exact nn q
 | cons a' args=>cases a' with
  | ref k=>
   cases args with
   | nil=>exact nn q
   | cons a' args=>cases a' with
    | ref j=>
     cases args with
     | nil=>
      revert q;refine jW2 fun xs ys hk hj q=>?_;revert q;refine jI fun hz q=>?_;refine iS q ?_;intro ρ vs s A Q Ee R hA hvs h;refine vr2 hvs fun υ υ h1 h3=>?_;refine Qs (R.list hk h1) fun a vs ea yq yr xx=>?_;subst yq;refine ZW yr fun n ho=>?_;refine Qs (R.list hj h3) fun b ws eb yq yr yy=>?_;subst yq;refine ZW yr fun n2 ho2=>?_;refine call_meets F.slot_list_extend ⟨_,ho,rfl⟩ F.entry_list_extend (F.args_list_extend_2 _ _) (AutoSeq1.list_extend_list_list_0 a _ n b _ n2 (by simp[Builtin.List.listTooLong,xx.len,yy.len,sizeLine];lia) (by simp[xx.len,sizeLine];lia) (by simp[xx.len,yy.len,sizeLine];lia)) ⟨ho,ho2,?_⟩;exact h _ _ s.toks ρ (ZhE R ea ho (by simp) (xx.append yy)) rfl
     | cons _ _=>exact nn q
    | _=>exact nn q
  | _=>exact nn q
noncomputable def ZbQ:List MV→Option (List Bool)
 | []=>some []
 | .bool b::r=>(match ZbQ r with
  | some bs=>some (b::bs)
  | none=>none)
 | _=>none
noncomputable def ZcS:FF:=fun args hp=>match args with
 | [.ref k,.bool b]=>(match hp[k]? with
  | some (.list xs)=>(match ZbQ xs with
   | some bs=>some (.int (bs.count b),hp)
   | none=>none)
  | _=>none)
 | _=>none
theorem Zpt{ρ:List Addr}:∀{xs:List MV} {bs:List Bool} {vs:List Value},ZbQ xs=some bs→VRs ρ xs vs→vs=bs.map Value.bool:=by
 intro xs;induction xs with
 | nil=>intro bs vs e h;cases e;cases h;rfl
 | cons x r ih=>
  intro bs vs e h;cases x with
  | bool b=>
   cases q:ZbQ r with
   | none=>exact nn ((show ZbQ (.bool b::r)=none by simp only[ZbQ,q])▸e)
   | some js=>
    refine oi1 ((show ZbQ (.bool b::r)=some (b::js) by simp only[ZbQ,q])▸e) fun y'=>?_;subst y';cases h with
    | cons h1 h2=>cases h1;rw[ih q h2];rfl
  | _=>exact nn e
theorem CF.count:CF w g c (.builtin "list.count") ZcS:=by
 intro args hp mv hp' q;cases args with
 | nil=>exact nn q
 | cons a' args=>cases a' with
  | ref k=>
   cases args with
   | nil=>exact nn q
   | cons a' args=>cases a' with
    | bool b=>
     cases args with
     | nil=>
      revert q;refine jW fun xs hk q=>?_;revert q;refine jE fun bs hb q=>?_;refine iS q ?_;intro ρ vs s A Q Ee R hA hvs h;refine vr2 hvs fun υ υ h1 h3=>?_;cases h3
      refine Qs (R.list hk h1) fun a vs ea yq yr xx=>?_;subst yq;refine ZW yr fun n ho=>?_;have ev:=Zpt hb xx;subst ev;refine call_meets F.slot_list_count ⟨_,ho,rfl⟩ F.entry_list_count (F.args_list_count_2 _ _) (SeqAt.list_countAt a _ n none #[] (.bool b) (fun v=>match v with | .bool x=>x==b | _=>false)) ⟨ho,fun y hy=>?_,?_⟩
      · have:y∈bs.map Value.bool:=by simpa using hy
        refine ZJ (List.mem_map.mp this) fun x υ yq=>?_;subst yq;exact SeqAt.EqAt.bool_bool x b
      · have e:((bs.map Value.bool).toArray.toList.countP (fun v=>match v with | .bool x=>x==b | _=>false))=bs.count b:=by
         show (bs.map Value.bool).countP _=_
         rw[List.countP_map];rfl
        rw[e];exact h.pure R ⟨_,rfl⟩
     | cons _ _=>exact nn q
    | _=>exact nn q
  | _=>exact nn q
noncomputable def iop(op:Operator)(a b:MV):Option MV:=match op,a,b with
 | .Add,.int x,.int y=>some (.int (x+y))
 | .Sub,.int x,.int y=>some (.int (x - y))
 | .FloorDiv,.int x,.int y=>if 0 < y∧y < 1000001 then some (.int (x / y)) else none
 | .Add,.str x,.str y=>if x.length+y.length≤100000 then some (.str (x++y)) else none
 | _,_,_=>none
theorem Zjf{op:Operator}{a b mv:MV}{va vb:Value}{ρ:List Addr}{hp:Hp}{s:Shared}{A:Around}{Q Ee:Value→Shared→Prop}(e:iop op a b=some mv)(R:Rel w g ρ hp s.heap)(ha:VR ρ a va)(hb:VR ρ b vb)(h:Ret w g ρ hp mv Q s):wpAny (model pE w) A (inplaceOp op va vb) Q Ee s:=by
 cases op with
 | Add=>cases a with
  | int x=>cases b with
   | int y=>
    cases e;obtain ⟨t,rfl⟩:=ha;obtain ⟨u,rfl⟩:=hb;exact PyProof.Rows.iadd_int (h.pure R ⟨_,rfl⟩)
   | _=>exact nn e
  | str x=>cases b with
   | str y=>
    revert e;refine jI fun hz e=>?_;cases e;obtain ⟨t,rfl⟩:=ha;obtain ⟨u,rfl⟩:=hb
    exact SB.iadd (fun t' k=>by rw[Zhk];exact h.pure R ⟨_,rfl⟩) (by rw[Zay,Zay];unfold sizeLine;lia)
   | _=>exact nn e
  | _=>exact nn e
 | Sub=>cases a with
  | int x=>cases b with
   | int y=>
    cases e;obtain ⟨t,rfl⟩:=ha;obtain ⟨u,rfl⟩:=hb;exact PyProof.Rows.isub_int (h.pure R ⟨_,rfl⟩)
   | _=>exact nn e
  | _=>exact nn e
 | FloorDiv=>cases a with
  | int x=>cases b with
   | int y=>
    revert e;refine jI fun hz e=>?_;cases e;obtain ⟨t,rfl⟩:=ha;obtain ⟨u,rfl⟩:=hb
    refine ifloordiv_int (by lia) ?_ (.inl (PyProof.noPylong_small (by lia)));rw[Int.fdiv_eq_ediv_of_nonneg _ (by lia)];exact h.pure R ⟨_,rfl⟩
   | _=>exact nn e
  | _=>exact nn e
 | _=>exact nn e
noncomputable def Ziz(i:Nat)(op:Operator)(f:EF):SF:=fun ℓ hp=>match Zf i ℓ hp with
 | some (a,_)=>(match f ℓ hp with
  | some (b,hp1)=>(match iop op a b with
   | some v=>some (.norm,ℓ.set i (some v),hp1)
   | none=>none)
  | none=>none)
 | none=>none
theorem DS1.aug(i:Nat){op:Operator}{x:Str}{p' pos:Pos}{e:PySem.Expr}{f:EF}(d:DE w g c E e f)(hi:E.slots[i]?=some x)(hk:E.scope.names.lookup x=some .local)(hn:E.slots.Nodup):DS1 w g c E (.AugAssign (.Name x p') op e pos) (Ziz i op f):=by
 intro ℓ hp k ℓ' hp' q;revert q;refine jV fun a hp0 q0 qa=>?_;revert qa;refine jV fun b hp1 q1 qb=>?_;revert qb;refine jM fun v q2 qc=>?_;refine iT qc ?_;revert q0;refine jLm fun v' hv' q0=>?_;refine oi2 q0 fun yq yr=>?_;subst yq yr;intro ρ env s A Q Ee S hA h;refine ZJ S.loc fun m hm hl=>?_;refine ZJ (hl i x _ hi hv') fun va e1 e2=>?_;refine wpAny_AugAssign_Name (wpAny_loadName_local (by rw[S.sc];exact S.fn) (by unfold Env.kindOf;rw[S.sc];exact hk) hm e1 ?_);refine d _ _ _ _ q1 ρ env s A _ Ee S hA fun vb h1 tk1 ρ1 P1 v1=>?_;refine Zjf q2 P1.rel (e2.post P1) v1 fun vr h2 tk2 ρ2 P2 v2=>?_;refine Zbw hi hk hn (S.post (P1.trans P2)) v2 fun h3 tk3 P3 S3=>?_;exact h .next h3 tk3 ρ2 rfl (St.transW (P1.trans P2).toW (S.post (P1.trans P2)) P3) S3
noncomputable def augI(op:Operator)(fo fi f:EF):SF:=fun ℓ hp=>match fo ℓ hp with
 | some (o,hp1)=>(match fi ℓ hp1 with
  | some (i,hp2)=>(match ZnG hp2 o i with
   | some a=>(match f ℓ hp2 with
    | some (b,hp3)=>(match iop op a b with
     | some v=>(match setI hp3 o i v with
      | some hp4=>some (.norm,ℓ,hp4)
      | none=>none)
     | none=>none)
    | none=>none)
   | none=>none)
  | none=>none)
 | none=>none
theorem DS1.augI{op:Operator}{o i e:PySem.Expr}{p' pos:Pos}{f fo fi:EF}(do_:DE w g c E o fo)(di:DE w g c E i fi)(d:DE w g c E e f)
 (hi:∀ov iv new,augStore i ov iv new=(do holding [new,ov,iv] (setItem ov iv new);release [new,ov,iv] [];pure .next)):DS1 w g c E (.AugAssign (.Subscript o i p') op e pos) (augI op fo fi f):=by
 intro ℓ hp k ℓ' hp' q;revert q;refine jV fun vo hp1 q1 qa=>?_;revert qa;refine jV fun vi hp2 q2 qb=>?_;revert qb;refine jM fun a q3 qc=>?_;revert qc;refine jV fun b hp3 q4 qd=>?_;revert qd;refine jM fun v q5 qe=>?_;revert qe;refine jH fun hp4 q6 qf=>?_;refine iT qf ?_;intro ρ env s A Q Ee S hA h;refine wpAny_AugAssign_SubscriptAny (do_ _ _ _ _ q1 ρ env s A _ Ee S hA fun oa h1 tk1 ρ1 P1 v1=>?_) hi;refine di _ _ _ _ q2 ρ1 env _ A _ Ee (S.post P1) hA fun ia h2 tk2 ρ2 P2 v2=>?_;refine Zhr q3 P2.rel (v1.post P2) v2 fun va h3 tk3 ρ3 P3 v3=>?_;have S3:=S.post ((P1.trans P2).trans P3);refine d _ _ _ _ q4 ρ3 env _ A _ Ee S3 hA fun vb h4 tk4 ρ4 P4 v4=>?_;refine Zjf q5 P4.rel (v3.post P4) v4 fun vr h5 tk5 ρ5 P5 v5=>?_;refine ZgT q6 P5.rel ((((v1.post P2).post P3).post P4).post P5) (((v2.post P3).post P4).post P5) v5 fun h6 tk6 P6=>?_;have P:=((((P1.trans P2).trans P3).trans P4).trans P5).trans P6;exact h .next h6 tk6 ρ5 rfl P.toW (S.post P)
end
end
set_option tactic.hygienic true
section
section
variable {w:World} {g:Heap} {c:Nat} {E:EnvD} {mg mb:Str→Option Value}
noncomputable abbrev PF:=Loc→Hp→Option (Option Int×Hp)
noncomputable def PR:Option Int→Value→Prop
 | none,v=>v=.none
 | some i,v=>∃t,v=.int i t
noncomputable def DPS(w:World)(g:Heap)(c:Nat)(E:EnvD)(p:Option PySem.Expr)(ℓ:Loc)(hp:Hp)(r:Option Int)(hp':Hp):Prop:=
 ∀(ρ:List Addr) (env:Env) (s:Shared) (A:Around) (Q Ee:Value→Shared→Prop),St w g E ρ hp ℓ env s.heap→AOK c A→
  (∀v h' tk ρ',Post w g ρ s.heap ρ' hp' h'→PR r v→Q v {s with heap:=h',toks:=tk})→wpAny (model pE w) A (evalPart p env) Q Ee s
noncomputable def DP(w:World)(g:Heap)(c:Nat)(E:EnvD)(p:Option PySem.Expr)(f:PF):Prop:=∀ℓ hp r hp',f ℓ hp=some (r,hp')→DPS w g c E p ℓ hp r hp'
noncomputable def noP:PF:=fun υ hp=>some (none,hp)
noncomputable def Qj(f:EF):PF:=fun ℓ hp=>match f ℓ hp with
 | some (.int i,hp')=>some (some i,hp')
 | _=>none
theorem DP.none:DP w g c E none noP:=by
 intro ℓ hp r hp' q;refine iS q ?_;intro ρ env s A Q Ee S hA h;exact wpAny_evalPart_none (h .none s.heap s.toks ρ S.rel.post rfl)
theorem DP.some{e:PySem.Expr}{f:EF}(d:DE w g c E e f):DP w g c E (some e) (Qj f):=by
 intro ℓ hp r hp' q;revert q;refine jVi fun i hp1 q1 q=>?_;refine iS q ?_;intro ρ env s A Q Ee S hA h;exact wpAny_evalPart_some (d _ _ _ _ q1 ρ env s A _ Ee S hA fun v h1 tk1 ρ1 P1 v1=>h v h1 tk1 ρ1 P1 v1)
noncomputable def ZiQ(hp:Hp)(o:MV)(lo hi:Option Int):Option (MV×Hp):=match o with
 | .str x=>if x.length≤100000 then some (.str (Txt.slice (mkS x) lo hi).cps.toList,hp) else none
 | .ref k=>(match hp[k]? with
  | some (.list xs)=>(match lo,hi with
   | none,some j=>if 0≤j∧j≤xs.length∧xs.length≤100000 then some (.ref hp.length,hp++[.list (xs.take j.toNat)]) else none
   | _,_=>none)
  | _=>none)
 | _=>none
noncomputable def ZgR(f:EF)(pl pu:PF):EF:=fun ℓ hp=>match f ℓ hp with
 | some (o,hp1)=>(match pl ℓ hp1 with
  | some (lo,hp2)=>(match pu ℓ hp2 with
   | some (hi,hp3)=>ZiQ hp3 o lo hi
   | none=>none)
  | none=>none)
 | none=>none
theorem PR.part{o:Option Int}{v:Value}(h:PR o v):IsPart v o:=by
 cases o with
 | none=>cases h;exact .none
 | some i=>obtain ⟨t,rfl⟩:=h;exact .int i t
theorem PR.tok{o:Option Int}{v:Value}(h:PR o v):∃p:Option (Int×Tok),v=partValue p∧p.map (·.1)=o:=by
 cases o with
 | none=>cases h;exact ⟨none,rfl,rfl⟩
 | some i=>obtain ⟨t,rfl⟩:=h;exact ⟨some (i,t),rfl,rfl⟩
theorem Znw{X:Str}{t:Tok}{l u:Option (Int×Tok)}{Q:Value→Shared→Prop}{s:Shared}(hx:X.length≤sizeLine)(h:∀t' k,Q (.str (Txt.slice X (l.map (·.1)) (u.map (·.1))) t') {s with toks:=k}):(sliceMade X t l u none).post Q s:=by
 cases l<;>cases u<;>exact post_val_or_str ⟨Nat.le_trans (Txt.slice_le X _ _) hx,h⟩
theorem DE.slice{e:PySem.Expr}{lo hi:Option PySem.Expr}{p pos:Pos}{f:EF}{pl pu:PF}(d:DE w g c E e f)(dl:DP w g c E lo pl)(du:DP w g c E hi pu)(ht:∀o r,letTemporaryGo e o r=pure ()):DE w g c E (.Subscript e (.Slice lo hi none p) pos) (ZgR f pl pu):=by
 intro ℓ hp mv hp' q;revert q;refine jV fun o hp1 q1 qa=>?_;revert qa;refine jP fun rl hp2 q2 qb=>?_;revert qb;refine jP fun ru hp3 q3 qc=>?_;cases o with
 | str x=>
  revert qc;refine jI fun hz qd=>?_;refine iS qd ?_;intro ρ env s A Q Ee S hA h;refine wpAny_Subscript_str_slice (d _ _ _ _ q1 ρ env s A _ Ee S hA fun vo h1 tk1 ρ1 P1 v1=>?_) ht;refine dl _ _ _ _ q2 ρ1 env _ A _ Ee (S.post P1) hA fun vl h2 tk2 ρ2 P2 v2=>?_;refine du _ _ _ _ q3 ρ2 env _ A _ Ee ((S.post P1).post P2) hA fun vu h3 tk3 ρ3 P3 v3=>?_;refine vrT v1 fun t=>?_;refine ZJ v2.tok fun l yq hl=>?_;subst yq;refine ZJ v3.tok fun u yq hu=>?_;subst yq;refine p4_4 _ t l u rfl rfl rfl ?_;have P:Post w g ρ s.heap ρ3 _ (h3.push {cls:=.type "slice", data:=.fields #[partValue l,partValue u,.none]}):=((P1.trans P2).trans P3).trans (P3.rel.keep fun b o e=>Heap.get?_push_of_some _ e);have hx:(mkS x).length≤sizeLine:=by rw[Zay];unfold sizeLine;lia
  refine Znw hx ?_;have key:∀t' k,Q (.str (Txt.slice (mkS x) (l.map (·.1)) (u.map (·.1))) t') {s with heap:=h3.push {cls:=.type "slice", data:=.fields #[partValue l,partValue u,.none]},toks:=k}:=fun t' k=>by
   rw[hl,hu];exact h _ _ k ρ3 P ⟨t',by rw[Zhj]⟩
  exact key
 | ref k=>
  revert qc;refine jW fun xs hk qc=>?_;cases rl with
  | some _=>exact nn qc
  | none=>cases ru with
   | none=>exact nn qc
   | some j=>
    revert qc;refine jI fun hz qc=>?_;refine iS qc ?_;intro ρ env s A Q Ee S hA h;refine wpAny_Subscript_list_slice (d _ _ _ _ q1 ρ env s A _ Ee S hA fun vo h1 tk1 ρ1 P1 v1=>?_) ht;refine dl _ _ _ _ q2 ρ1 env _ A _ Ee (S.post P1) hA fun vl h2 tk2 ρ2 P2 v2=>?_;refine du _ _ _ _ q3 ρ2 env _ A _ Ee ((S.post P1).post P2) hA fun vu h3 tk3 ρ3 P3 v3=>?_;refine Qs (P3.rel.list (s:={s with heap:=h3,toks:=tk3}) hk ((v1.post P2).post P3)) fun a vs ea yq hl xx=>?_;subst yq;refine p4_6 a _ _ _ rfl (Zaa hl) (by simp[xx.len,sizeLine];lia) v2.part v3.part ?_;refine ZW (Int.eq_ofNat_of_zero_le hz.1) fun jn yq=>?_;subst yq;rw[slicePick_upto vs.toArray jn (by simp[xx.len];lia)];have Pk:Post w g ρ3 h3 ρ3 _ (h3.push {cls:=.type "slice", data:=.fields #[vl,vu,.none]}):=P3.rel.keep fun b o e=>Heap.get?_push_of_some _ e;have PP:=((P1.trans P2).trans P3).trans Pk;have:=Zbx (s:={s with heap:=h3.push {cls:=.type "slice", data:=.fields #[vl,vu,.none]},toks:=tk3}) (tk:=tk3) Pk.rel (xx.take jn) (h.then PP);rw[show ({s with heap:=h3.push {cls:=.type "slice", data:=.fields #[vl,vu,.none]},toks:=tk3}:Shared).heap.objs.size=h3.objs.size+1 from Heap.size_push ..] at this;exact this
 | _=>exact nn qc
noncomputable def dict0:EF:=fun υ hp=>some (.ref hp.length,hp++[.dict []])
theorem DE.dict0{pos:Pos}:DE w g c E (.Dict [] [] pos) dict0:=by
 intro ℓ hp mv hp' q;refine iS q ?_;intro ρ env s A Q Ee S hA h;refine wpAny_Dict_empty ?_;exact h _ _ s.toks _ (S.rel.alloc (ZG _) (fun b o e=>Heap.get?_push_of_some _ e) ⟨[],Heap.DictOf.new _,fun s=>rfl,Nat.le_refl _⟩) ⟨_,Zbm S.rel.len,rfl⟩
noncomputable def sumF:FF:=fun args hp=>match args with
 | [.ref k]=>(match hp[k]? with
  | some (.list xs)=>(match Zco xs with
   | some is=>if is.length≤1000∧is.all (fun i=>decide (-1000000000≤i∧i≤1000000000))=true then some (.int is.sum,hp) else none
   | none=>none)
  | _=>none)
 | _=>none
theorem Zog:∀(l:List Int),(∀i∈l,-1000000000≤i∧i≤1000000000)→-(1000000000 * (l.length:Int))≤l.sum∧l.sum≤1000000000 * (l.length:Int):=by
 intro r;induction r with
 | nil=>
  intro υ;simp
 | cons a r ih=>
  intro h;have ih:=ih fun i hi=>h i (.tail _ hi);have:=h a (.head _);simp only[List.sum_cons,List.length_cons];push_cast
  lia
theorem fits_of{is:List Int}(h1:is.length≤1000)(h2:∀i∈is,-1000000000≤i∧i≤1000000000):PySem.SumFits is:=by
 intro j hj;have e1:-1000000000≤is.getD j 0∧is.getD j 0≤1000000000:=by
  rw[List.getD_eq_getElem?_getD,List.getElem?_eq_getElem hj];exact h2 _ (List.getElem_mem hj)
 have e2:=Zog (is.take (j+1)) fun i hi=>h2 i (List.mem_of_mem_take hi);have e3:(is.take (j+1)).length≤1000:=by simp;lia
 refine ⟨?_,?_⟩
 · unfold InLong;lia
 · unfold InLong;lia
theorem CF.sum:CF w g c (.builtin "sum") sumF:=by
 intro args hp mv hp' q;cases args with
 | nil=>exact nn q
 | cons a' args=>cases a' with
  | ref k=>
   cases args with
   | nil=>
    revert q;refine jW fun xs hk q=>?_;revert q;refine jN fun is hi q=>?_;revert q;refine jI fun hz q=>?_;refine iS q ?_;intro ρ vs s A Q Ee R hA hvs h;refine vr1 hvs fun υ h1=>?_;refine Qs (R.list hk h1) fun a vs ea yq hl xx=>?_;subst yq;have ia:=Zhp hi xx;have hfit:PySem.SumFits is:=fits_of hz.1 fun i hi'=>by
     have:=lae hz.2 i hi';simpa using this
    refine ZW ia.allInts.items fun ys hys=>?_;have hn:(ys.toList.map (·.1))=is:=by
     rw[← ia.numsOf,← nums_intItems,← hys]
    have hl2:=Zaa hl;rw[hys] at hl2;refine sum_intList hA.hd hl2 (fun j hj=>?_) fun h' tk t' hk=>?_
    · rw[numAt_eq,preSum_eq,hn];exact hfit j (by rw[← hn];simpa using hj)
    · rw[preSum_eq,List.take_of_length_le (by simp),hn];exact h _ h' tk ρ (R.keep hk) ⟨t',rfl⟩
   | cons _ _=>exact nn q
  | _=>exact nn q
theorem DT.and{e1 e2:PySem.Expr}{f1 f2:TF}{pos:Pos}(d1:DT w g c E e1 f1)(d2:DT w g c E e2 f2):DT w g c E (.BoolOp .And [e1,e2] pos) (andT f1 f2):=by
 intro ℓ hp b hp' q;unfold andT at q;split at q
 · rename_i hp1 q1;intro ρ env s A Q Ee S hA h;refine wpAny_isTrue_BoolOp (wpAny_allTrue_And_cons (d1 _ _ _ _ q1 ρ env s A _ Ee S hA fun h1 tk1 ρ1 P1=>?_));simp only[if_true];refine wpAny_allTrue_And_cons (d2 _ _ _ _ q ρ1 env _ A _ Ee (S.post P1) hA fun h2 tk2 ρ2 P2=>?_);cases b with
   | true=>simp only[if_true];exact wpAny_allTrue_And_nil (h _ _ _ (P1.trans P2))
   | false=>simp only[Bool.false_eq_true,if_false];exact h _ _ _ (P1.trans P2)
 · rename_i hp1 q1;refine iS q ?_;intro ρ env s A Q Ee S hA h;refine wpAny_isTrue_BoolOp (wpAny_allTrue_And_cons (d1 _ _ _ _ q1 ρ env s A _ Ee S hA fun h1 tk1 ρ1 P1=>?_));simp only[Bool.false_eq_true,if_false];exact h _ _ _ P1
 · exact nn q
theorem DT.or{e1 e2:PySem.Expr}{f1 f2:TF}{pos:Pos}(d1:DT w g c E e1 f1)(d2:DT w g c E e2 f2):DT w g c E (.BoolOp .Or [e1,e2] pos) (orT f1 f2):=by
 intro ℓ hp b hp' q;unfold orT at q;split at q
 · rename_i hp1 q1;intro ρ env s A Q Ee S hA h;refine wpAny_isTrue_BoolOp (wpAny_allTrue_Or_cons (d1 _ _ _ _ q1 ρ env s A _ Ee S hA fun h1 tk1 ρ1 P1=>?_));simp only[Bool.false_eq_true,if_false];refine wpAny_allTrue_Or_cons (d2 _ _ _ _ q ρ1 env _ A _ Ee (S.post P1) hA fun h2 tk2 ρ2 P2=>?_);cases b with
   | true=>simp only[if_true];exact h _ _ _ (P1.trans P2)
   | false=>simp only[Bool.false_eq_true,if_false];exact wpAny_allTrue_Or_nil (h _ _ _ (P1.trans P2))
 · rename_i hp1 q1;refine iS q ?_;intro ρ env s A Q Ee S hA h;refine wpAny_isTrue_BoolOp (wpAny_allTrue_Or_cons (d1 _ _ _ _ q1 ρ env s A _ Ee S hA fun h1 tk1 ρ1 P1=>?_));simp only[if_true];exact h _ _ _ P1
 · exact nn q
end
end
set_option tactic.hygienic false
section
section
variable {w:World} {g:Heap} {c:Nat} {E:EnvD} {mg mb:Str→Option Value}
noncomputable def rngL(a:Int):Nat→List MV
 | 0=>[]
 | n+1=>MV.int a::rngL (a+1) n
theorem Zoq{ρ:List Addr}:∀(n:Nat) (a:Int) (vs:List Value),vs.length=n→(∀(i:Nat) (v:Value),vs[i]?=some v→∃t,v=Value.int (a+i) t)→VRs ρ (rngL a n) vs
 | 0,a,vs,h1,h2=>by
  have:vs=[]:=List.length_eq_zero_iff.mp h1;subst this;exact .nil
 | n+1,a,[],h1,h2=>by simp at h1
 | n+1,a,v::vs,h1,h2=>by
  refine .cons ?_ (Zoq n (a+1) vs (by simpa using h1) fun i v hv=>?_)
  · refine ZW (h2 0 v rfl) fun t e=>?_;exact ⟨t,by simpa using e⟩
  · refine ZW (h2 (i+1) v (by simpa using hv)) fun t e=>?_;exact ⟨t,by rw[e];push_cast;congr 1;lia⟩
noncomputable def Zig(as:AF):EF:=fun ℓ hp=>match as ℓ hp with
 | some ([.int a,.int b],hp2)=>if a≤b∧b≤1000000∧-1000000≤a then some (.ref hp2.length,hp2++[.list (rngL a (b - a).toNat)]) else none
 | _=>none
theorem ZdA{a b:Int}(h:a≤b):Builtin.Range.rangeSize a b 1=((b - a).toNat:Int):=by
 unfold Builtin.Range.rangeSize;rw[if_pos (by decide)];split<;>lia
theorem small1{a b:Int}(h:a≤b)(h1:b≤1000000)(h2:-1000000≤a):Builtin.Range.small a b 1=true:=by
 unfold Builtin.Range.small;rw[ZdA h];unfold Builtin.Range.rangeFitsLong;simp only[Bool.and_eq_true,Bool.or_eq_true,decide_eq_true_eq,if_pos (show (1:Int) > 0 by decide)];refine ⟨⟨⟨⟨⟨by lia,by lia⟩,by lia,by lia⟩,by lia,by lia⟩,by lia,by lia⟩,.inr ⟨by lia,by lia⟩⟩
theorem DE.listRange{p1 p2 pos1 pos2:Pos}{l r:Str}{es:List PySem.Expr}{as:AF}(hl:DE w g c E (.Name l p1) (Zb (.glob (.type "list"))))(hr:DE w g c E (.Name r p2) (Zb (.glob (.type "range"))))(da:DA w g c E es as):DE w g c E (.Call (.Name l p1) [.Call (.Name r p2) es [] pos2] [] pos1) (Zig as):=by
 intro ℓ hp mv hp' q;revert q;refine jAii fun a b hp2 q1 q=>?_;revert q;refine jI fun hz qa=>?_;refine iS qa ?_;intro ρ env s A Q Ee S hA h;refine wpAny_Call_ofName (hl _ _ _ _ rfl ρ env s A _ Ee S hA fun va h0 tk0 ρ0 P0 v0=>?_);cases v0
 have S0:=S.post P0;have hts0:∃ts,starEach [PySem.Expr.Call (.Name r p2) es [] pos2] env=ts∧∀t∈ts,t.1=false:=⟨[(false,eval (.Call (.Name r p2) es [] pos2) env)],rfl,by simp⟩;refine PySem.callWith_type (ZaB hts0) (Zam hts0 (args_cons ?_ rfl));refine wpAny_Call_ofName (hr _ _ _ _ rfl ρ0 env _ A _ Ee S0 hA fun vb h1 tk1 ρ1 P1 v1=>?_);cases v1
 have S1:=S0.post P1;refine PySem.callWith_type (ZaB (da.2 env)) (Zam (da.2 env) (da.1 _ _ _ _ q1 ρ1 env pos2 _ A _ Ee S1 hA fun vs h2 tk2 ρ2 P2 v2=>?_));refine vr2 v2 fun υ υ u1 u3=>?_;refine vrI u1 fun t=>?_;refine vrI u3 fun u=>?_;refine call_range_2 ?_;refine args_nil ?_;have P3:Post w g ρ2 h2 ρ2 _ (h2.push {cls:=.type "range", data:=.fields #[.int a t,.int b u,.int 1 tk2]}):=P2.rel.keep fun b o e=>Heap.get?_push_of_some _ e;refine call_list_range hA.hd (r:=h2.objs.size) (IsRange.new _ _ _ _ _ _ _) (small1 hz.1 hz.2.1 hz.2.2) (ZdA hz.1) (by lia) fun h' tk' acc' c' hk ho hacc=>?_;have x:VRs ρ2 (rngL a (b - a).toNat) acc'.toList:=Zoq _ _ _ (by simpa using hacc.1) fun i v hv=>by
  refine ZW (hacc.2 i v (by simpa using hv)) fun t e=>?_;exact ⟨t,by rw[e];congr 1;lia⟩
 have P4:=P3.rel.alloc (mo:=.list (rngL a (b - a).toNat)) (ZG (h2.push {cls:=.type "range", data:=.fields #[.int a t,.int b u,.int 1 tk2]})) hk ⟨acc'.toList,⟨c',by simpa using ho⟩,x.ext _⟩;exact h _ h' tk' _ ((((P0.trans P1).trans P2).trans P3).trans P4) ⟨_,Zbm P3.rel.len,rfl⟩
noncomputable def rngI(as:AF):IF:=fun ℓ hp=>match as ℓ hp with
 | some ([.int b],hp2)=>if 0≤b∧b≤1000000 then some (.range 0 b.toNat,hp2) else none
 | _=>none
theorem DI.range{p2 pos2:Pos}{r:Str}{es:List PySem.Expr}{as:AF}(hr:DE w g c E (.Name r p2) (Zb (.glob (.type "range"))))(da:DA w g c E es as):DI w g c E (.Call (.Name r p2) es [] pos2) (rngI as):=by
 intro ℓ hp src hp' q;revert q;refine jAi fun b hp2 q1 q=>?_;revert q;refine jI fun hz q=>?_;refine iS q ?_;intro ρ env s A Q Ee S hA h;refine wpAny_Call_ofName (hr _ _ _ _ rfl ρ env _ A _ Ee S hA fun vb h1 tk1 ρ1 P1 v1=>?_);cases v1
 have S1:=S.post P1;refine PySem.callWith_type (ZaB (da.2 env)) (Zam (da.2 env) (da.1 _ _ _ _ q1 ρ1 env pos2 _ A _ Ee S1 hA fun vs h2 tk2 ρ2 P2 v2=>?_));refine vr1 v2 fun υ u1=>?_;refine vrI u1 fun t=>?_;refine call_range_1 ?_;have P3:Post w g ρ2 h2 ρ2 _ (h2.push {cls:=.type "range", data:=.fields #[.int 0 tk2,.int b t,.int 1 (tk2+1)]}):=P2.rel.keep fun b o e=>Heap.get?_push_of_some _ e;refine wpAny_pyIter_range (r:=h2.objs.size) (IsRange.new _ _ _ _ _ _ _) (small1 hz.1 hz.2 (by lia)) ?_;rw[ZdA hz.1];generalize hH:h2.push {cls:=.type "range", data:=.fields #[.int 0 tk2,.int b t,.int 1 (tk2+1)]}=H at P3 ⊢;have P4:Post w g ρ2 H ρ2 _ (H.push {cls:=.type "range_iterator", data:=.fields #[rawInt 0,rawInt (((b - 0).toNat:Nat):Int),rawInt 1]}):=P3.rel.keep fun b o e=>Heap.get?_push_of_some _ e;have PP:=((P1.trans P2).trans P3);refine h H.objs.size _ _ ρ2 (PP.trans P4) (P3.rel.notin_none (ZG H)) (Zak P3.rel.base (ZG H)) (PP.notin_none S.rel (ZG H)) ?_ ⟨_,Heap.get?_push_size _ rfl⟩;show IsRangeIter _ _ (0+((0:Nat):Int)) ((b.toNat:Int) - ((0:Nat):Int)) 1
 have e1:(0:Int)+((0:Nat):Int)=0:=by simp
 have e2:(b.toNat:Int) - ((0:Nat):Int)=(((b - 0).toNat:Nat):Int):=by simp
 rw[e1,e2];exact Heap.get?_push_size _ rfl
noncomputable def ZfI:FF:=fun args hp=>match args with
 | [.str x]=>if x.length≤100000 then some (.ref hp.length,hp++[.list (x.map fun c=>.str [c])]) else none
 | _=>none
theorem ZjE{ρ:List Addr}:∀(x:List Nat) (vs:List Value),vs.length=x.length→(∀(i:Nat) (v:Value),vs[i]?=some v→∃ch u,x[i]?=some ch∧v=Value.str ⟨#[ch]⟩ u)→VRs ρ (x.map fun c=>MV.str [c]) vs
 | [],vs,h1,h2=>by
  have:vs=[]:=List.length_eq_zero_iff.mp (by simpa using h1);subst this;exact .nil
 | a::x,[],h1,h2=>by simp at h1
 | a::x,v::vs,h1,h2=>by
  refine .cons ?_ (ZjE x vs (by simpa using h1) fun i v hv=>?_)
  · refine ZeF (h2 0 v rfl) fun ch u e1 e2=>?_;simp at e1;subst e1;exact ⟨u,e2⟩
  · refine ZeF (h2 (i+1) v (by simpa using hv)) fun ch u e1 e2=>?_;exact ZeN ch u (by simpa using e1) e2
theorem CF.listStr:CF w g c (.type "list") Internal.ZfI:=by
 intro args hp mv hp' q;cases args with
 | nil=>exact nn q
 | cons a' args=>cases a' with
  | str x=>
   cases args with
   | nil=>
    revert q;refine jI fun hz q=>?_;refine iS q ?_;intro ρ vs s A Q Ee R hA hvs h;refine vr1 hvs fun υ h1=>?_;refine vrT h1 fun t=>?_;refine call_list_str hA.hd (mkS x) t (fun h' tk acc' c' hk ho hacc=>?_) (by show (mkS x).length≤_;rw[Zay];unfold sizeLine;lia);have hsz:(mkS x).cps.size=x.length:=by simp[mkS]
    have xx:VRs ρ (x.map fun c=>MV.str [c]) acc'.toList:=ZjE _ _ (by have:=hacc.1;simp[this,hsz]) fun i v hv=>by
     refine ZeF (hacc.2 i v (by simpa using hv)) fun ch u e1 e2=>?_;exact ZeN ch u (by simpa [mkS] using e1) e2
    have P4:=R.alloc (mo:=.list (x.map fun c=>MV.str [c])) (ZG s.heap) hk ⟨acc'.toList,⟨c',by simpa using ho⟩,xx.ext _⟩;exact h _ h' tk _ P4 ⟨_,Zbm R.len,rfl⟩
   | cons _ _=>exact nn q
  | _=>exact nn q
end
end
set_option tactic.hygienic true
set_option tactic.hygienic false
section
section
variable {w:World} {g:Heap} {c:Nat} {E:EnvD} {mg mb:Str→Option Value}
structure B3(w:World)(g:Heap)(look:Int→Option (List Nat)):Prop extends B2 w g where
 tab:∃f:Int→Option Value,g.MapOf (intKind pE w) 76 f∧∀i,match look i with
  | none=>f i=none
  | some s=>∃t,f i=some (.str (mkS s) t)
noncomputable def getB3(look:Int→Option (List Nat)):FF:=fun args hp=>match args with
 | [.glob v,.int i]=>if isG 76 v then (match look i with
  | none=>some (.none,hp)
  | some s=>some (.str s,hp)) else none
 | _=>none
theorem CF.getB3{look:Int→Option (List Nat)}(B:B3 w g look)(hs:(76==sysModules)=false):CF w g c (.builtin "dict.get") (getB3 look):=by
 intro args hp mv hp' q;cases args with
 | nil=>exact nn q
 | cons v args=>cases v with
  | glob v=>cases args with
   | nil=>exact nn q
   | cons u args=>cases u with
    | int i=>cases args with
     | cons _ _=>exact nn q
     | nil=>
      refine iI q fun hg q'=>?_;clear q;have q:=q';clear q';have hg:=ZoR hg;subst hg;intro ρ vs s A Q Ee R hA hvs h;refine vr2 hvs fun υ υ h1 h3=>?_;cases h1
      refine vrI h3 fun t=>?_;refine ZJ B.tab fun f yq hf=>?_;refine x3_2 yq fun o es ep ho r=>?_;have hm:s.heap.MapOf (intKind pE w) 76 f:=⟨o,es,ep,R.base _ _ ho,r⟩;refine call_meetsIn F.slot_dict_get hm.typeIs F.entry_dict_get (F.args_dict_get_2 _ _) (meets_dict_get (intKind pE w) 76 (ZkM i t) hs) ⟨f,hm,?_⟩;have:=hf i;revert q;cases e:look i with
      | none=>
       intro q;refine oi2 q fun yq yr=>?_;subst yq yr;rw[e] at this;rw[this];exact h.pure R rfl
      | some s=>
       intro q;refine oi2 q fun yq yr=>?_;subst yq yr;rw[e] at this;refine ZW this fun t2 this=>?_;rw[this];exact h.pure R ⟨_,rfl⟩
    | _=>exact nn q
  | _=>exact nn q
noncomputable abbrev KF_:=Loc→Hp→Option (List (List Nat×MV)×Hp)
inductive KRs (ρ:List Addr):List (List Nat×MV)→List (Value×Value)→Prop where
 | nil:KRs ρ [] []
 | cons {s x t v xs vs}:VR ρ x v→KRs ρ xs vs→KRs ρ ((s,x)::xs) ((.str (mkS s) t,v)::vs)
noncomputable def DKS(w:World)(g:Heap)(c:Nat)(E:EnvD)(ks:List (Option PySem.Expr))(vs:List PySem.Expr)(ℓ:Loc)(hp:Hp)(r:List (List Nat×MV))(hp':Hp):Prop:=
 ∀(ρ:List Addr) (env:Env) (pos:Pos) (s:Shared) (A:Around) (Q:List (Value×Value)→Shared→Prop) (Ee:Value→Shared→Prop),St w g E ρ hp ℓ env s.heap→AOK c A→
  (∀xs h' tk ρ',Post w g ρ s.heap ρ' hp' h'→KRs ρ' r xs→Q xs {s with heap:=h',toks:=tk})→wpAny (model pE w) A (evalPairs (pairTrees ks vs env pos)) Q Ee s
noncomputable def DK(w:World)(g:Heap)(c:Nat)(E:EnvD)(ks:List (Option PySem.Expr))(vs:List PySem.Expr)(f:KF_):Prop:=∀ℓ hp r hp',f ℓ hp=some (r,hp')→DKS w g c E ks vs ℓ hp r hp'
noncomputable def nilK:KF_:=fun υ hp=>some ([],hp)
noncomputable def Zjw(fk fv:EF)(r:KF_):KF_:=fun ℓ hp=>match fk ℓ hp with
 | some (.str s,hp1)=>(match fv ℓ hp1 with
  | some (v,hp2)=>(match r ℓ hp2 with
   | some (l,hp3)=>some ((s,v)::l,hp3)
   | none=>none)
  | none=>none)
 | _=>none
theorem DK.nil:DK w g c E [] [] nilK:=by
 intro ℓ hp r hp' q;refine iS q ?_;intro ρ env pos s A Q Ee S hA h;exact pairTrees_nil_walk (h [] s.heap s.toks ρ S.rel.post .nil)
theorem DK.cons{k v:PySem.Expr}{ks:List (Option PySem.Expr)}{vs:List PySem.Expr}{fk fv:EF}{r:KF_}(dk:DE w g c E k fk)(dv:DE w g c E v fv)(dr:DK w g c E ks vs r):DK w g c E (some k::ks) (v::vs) (Zjw fk fv r):=by
 intro ℓ hp rr hp' q;revert q;refine jVs fun sk hp1 q1 q=>?_;revert q;refine jV fun vv hp2 q2 q=>?_;revert q;refine jK fun l hp3 q3 q=>?_;refine iS q ?_;intro ρ env pos s A Q Ee S hA h;refine pairTrees_cons_walk (dk _ _ _ _ q1 ρ env s A _ Ee S hA fun va h1 tk1 ρ1 P1 v1=>?_);refine dv _ _ _ _ q2 ρ1 env _ A _ Ee (S.post P1) hA fun vb h2 tk2 ρ2 P2 v2=>?_;refine dr _ _ _ _ q3 ρ2 env pos _ A _ Ee ((S.post P1).post P2) hA fun xs h3 tk3 ρ3 P3 v3=>?_;refine vrT v1 fun t=>?_;exact h _ h3 tk3 ρ3 ((P1.trans P2).trans P3) (.cons (v2.post P3) v3)
noncomputable def dictE(f:KF_):EF:=fun ℓ hp=>match f ℓ (hp++[.dict []]) with
 | some (l,hp1)=>(match hp1[hp.length]? with
  | some (.dict [])=>some (.ref hp.length,hp1.set hp.length (.dict (l.foldl (fun es kv=>kv::es) [])))
  | _=>none)
 | none=>none
theorem Zhy{ρ:List Addr}:∀{l:List (List Nat×MV)} {xs:List (Value×Value)},KRs ρ l xs→∃kvs:List (Str×Value),Carries (PySem.strKind pE w) xs kvs∧∀es (acc:List (Str×Value)),DR ρ es (valueAt acc)→acc.length≤es.length→DR ρ (l.foldl (fun es kv=>kv::es) es) (valueAt (merged acc kvs))∧(merged acc kvs).length≤(l.foldl (fun es kv=>kv::es) es).length
 | _,_,.nil=>⟨[],trivial,fun es acc h1 h2=>⟨h1,h2⟩⟩
 | _,_,.cons (s:=sk) (x:=x) (t:=t) (v:=v) hv hr=>by
  refine ZJ (Zhy hr) fun kvs hc hm=>?_;refine Qd ((mkS sk,v)::kvs) ⟨ZfK _ t,rfl,hc⟩ (fun es acc h1 h2=>?_);refine hm ((sk,x)::es) (stored acc (mkS sk) v) ?_ ?_
  · intro z;rw[ZcM,List.lookup_cons];by_cases hz:z=sk
    · subst hz;simp;exact hv
    · have hb:(z==sk)=false:=beq_eq_false_iff_ne.mpr hz;have hne:mkS z≠mkS sk:=fun q=>hz (ZkJ q);simp only[hb,hne,if_false];exact h1 z
  · have:=stored_length_le acc (mkS sk) v;simp only[List.length_cons];lia
theorem DE.dict{ks:List (Option PySem.Expr)}{vs:List PySem.Expr}{pos:Pos}{f:KF_}(d:DK w g c E ks vs f)(hall:ks.all (·.isSome)=true)(hl:ks.length=vs.length)(h0:ks≠[])(hlen:ks.length≤15):DE w g c E (.Dict ks vs pos) (dictE f):=by
 intro ℓ hp mv hp' q;revert q;refine jK fun l hp1 q1 qa=>?_;split at qa
 · rename_i q2;refine iS qa ?_;intro ρ env s A Q Ee S hA h;refine wpAny_Dict_walk (knd:=PySem.strKind pE w) hall hl h0 hlen ?_;have P0:Post w g ρ s.heap (ρ++[s.heap.objs.size]) (hp++[.dict []]) (s.heap.push {cls:=.type "dict", data:=.dict #[]}):=S.rel.alloc (ZG _) (fun b o e=>Heap.get?_push_of_some _ e) ⟨[],Heap.DictOf.new _,fun s=>rfl,Nat.le_refl _⟩;refine d _ _ _ _ q1 _ env pos _ A _ Ee (S.post P0) hA fun xs h1 tk1 ρ1 P1 k1=>?_;have hD:ρ1[hp.length]?=some s.heap.objs.size:=by
    refine ZW P1.ext fun new en=>?_;rw[en];exact ZaX (Zbm S.rel.len) new
   refine ZgO (P1.rel.obj _ _ _ q2 hD) fun kvs0 hd0 hdr0 hle0=>?_;have hk0:kvs0=[]:=by simpa using hle0
   subst hk0;refine ZJ (Zhy (w:=w) k1) fun kvs hc hm=>?_;refine ZnY kvs hc hd0 (fun h' hd' hs'=>?_);refine Qe (hm [] [] (fun s=>rfl) (Nat.le_refl _)) fun m1 m2=>?_;exact h _ h' _ ρ1 ((P0.trans P1).trans (P1.rel.update hD hs' ⟨_,hd',m1,m2⟩)) ⟨_,hD,rfl⟩
 · exact nn qa
noncomputable def delI(hp:Hp)(o i:MV):Option Hp:=match o,i with
 | .ref k,.int i=>(match hp[k]? with
  | some (.list xs)=>if xs.length≤100000 then (if 0≤i∧i < xs.length then some (hp.set k (.list (xs.eraseIdx i.toNat))) else if i < 0∧-(xs.length:Int)≤i then some (hp.set k (.list (xs.eraseIdx (i+xs.length).toNat))) else none) else none
  | _=>none)
 | _,_=>none
noncomputable def delS(fo fi:EF):SF:=fun ℓ hp=>match fo ℓ hp with
 | some (o,hp1)=>(match fi ℓ hp1 with
  | some (i,hp2)=>(match delI hp2 o i with
   | some hp3=>some (.norm,ℓ,hp3)
   | none=>none)
  | none=>none)
 | none=>none
theorem DS1.del{o i:PySem.Expr}{p pos:Pos}{fo fi:EF}(do_:DE w g c E o fo)(di:DE w g c E i fi):DS1 w g c E (.Delete [.Subscript o i p] pos) (delS fo fi):=by
 intro ℓ hp k ℓ' hp' q;revert q;refine jV fun vo hp1 q1 qa=>?_;revert qa;refine jV fun vi hp2 q2 qb=>?_;revert qb;refine jH fun hp3 q3 qc=>?_;refine oi3 qc fun yq yr y'3=>?_;subst yq yr y'3;intro ρ env s A Q Ee S hA h;have he:deleteEach [PySem.Expr.Subscript o i p] env=(do delete (.Subscript o i p) env;deleteEach [] env):=rfl;refine wpAny_Delete ?_;rw[he];refine wpAny_bind (delete_Subscript (do_ _ _ _ _ q1 ρ env s A _ Ee S hA fun oa h1 tk1 ρ1 P1 v1=>?_));refine di _ _ _ _ q2 ρ1 env _ A _ Ee (S.post P1) hA fun ia h2 tk2 ρ2 P2 v2=>?_;have P:=P1.trans P2;cases vo with
 | ref kk=>cases vi with
  | int j=>
   revert q3;refine jW fun xs hk q3=>?_;refine Qs (P2.rel.list (s:={s with heap:=h2,toks:=tk2}) hk (v1.post P2)) fun a vs ea yq hl xx=>?_;subst yq;refine vrI v2 fun u=>?_;have fin:∀n,∀h',h'.PlainList a (vs.toArray.eraseIdxIfInBounds n)→Heap.SameBut a h2 h'→hp'=hp2.set kk (.list (xs.eraseIdx n))→wpAny (model pE w) A (deleteEach [] env) (fun υ s₁=>Q .next s₁) Ee {s with heap:=h',toks:=tk2}:=fun n h' hl' hs' e=>by
    refine wpAny_deleteEach_nil ?_;rw[Zdm] at hl';have P3:=P.trans (P2.rel.update (mo:=.list (xs.eraseIdx n)) ea hs' ⟨_,hl',xx.erase n⟩);rw[← e] at P3;exact h .next h' tk2 ρ2 rfl P3.toW (S.post P3)
   revert q3;refine jI fun hlen qd=>?_;have hsz:vs.toArray.size≤sizeLine:=by simp[xx.len,sizeLine];lia
   split at qd
   · rename_i hz;refine oi1 qd fun yq=>?_;subst yq;exact wpAny_delItem_plain hl (by simp[Builtin.List.listFitsIndex];lia) (seqIndex_of hz.1 (by simp[xx.len];lia)) (fun h' hl' hs'=>fin _ h' hl' hs' rfl) hsz
   · revert qd;refine jI fun hz qe=>?_;refine oi1 qe fun yq=>?_;subst yq;refine wpAny_delItem_plain hl (by simp[Builtin.List.listFitsIndex];lia) (PySem.seqIndex_neg hz.1 (by simp[xx.len];lia)) (fun h' hl' hs'=>fin _ h' hl' hs' ?_) hsz;simp[xx.len]
  | _=>exact nn q3
 | _=>exact nn q3
end
end
set_option tactic.hygienic true
section
section
variable {w:World} {g:Heap} {c:Nat} {E:EnvD} {mg mb:Str→Option Value}
theorem Rel.allocs{ρ:List Addr}{hp:Hp}{h h':Heap}(R:Rel w g ρ hp h){as:List Addr}{ms:List MO}(hl:as.length=ms.length)(hn:∀a∈as,h.get? a=none)(nd:as.Nodup)(k:∀b o,h.get? b=some o→h'.get? b=some o)
 (x:∀(i:Nat) (mo:MO) (a:Addr),ms[i]?=some mo→as[i]?=some a→OR w (ρ++as) h' a mo):Post w g ρ h (ρ++as) (hp++ms) h':=by
 refine ⟨⟨fun b o e=>k b o (R.base b o e),by simp[R.len,hl],fun i mo' a' e1 e2=>?_,?_,fun b hb=>?_⟩,⟨as,rfl⟩,fun b hb hnb=>?_,fun b o υ e=>k b o e⟩
 · by_cases hi:i < hp.length
   · rw[List.getElem?_append_left hi] at e1;rw[List.getElem?_append_left (by rw[R.len];exact hi)] at e2;have y:=R.obj i mo' a' e1 e2;refine ZW y.alive fun o ho=>?_;exact (y.ext as).keep ((k a' o ho).trans ho.symm)
   · rw[List.getElem?_append_right (by lia)] at e1;rw[List.getElem?_append_right (by rw[R.len];lia),R.len] at e2;exact x _ _ _ e1 e2
 · rw[List.nodup_append];exact ZnZ R.nd nd (fun b hb c hc e=>by subst e;exact R.notin_none (hn b hc) hb)
 · rcases List.mem_append.mp hb with hb | hb
   · exact R.off b hb
   · exact Zak R.base (hn b hb)
 · rcases List.mem_append.mp hb with hb | hb
   · exact absurd hb hnb
   · exact hn b hb
noncomputable def Zbk(n:Nat):List Str→List (Str×Nat)
 | []=>[]
 | x::r=>(x,n)::Zbk (n+1) r
theorem idx_cs{x:Str}{k:Nat}:∀(cs:List (Str×Addr)) (n:Nat),(Zbk n (cs.map (·.1))).lookup x=some k→∃i a,k=n+i∧(cs.map (·.2))[i]?=some a∧cs.lookup x=some a:=by
 intro r;induction r with
 | nil=>
  intro n e;exact nn e
 | cons z' r ih=>
  obtain ⟨y,b⟩:=z';intro n e;simp only[List.map_cons,Zbk,List.lookup_cons] at e;cases hb:x==y with
  | true=>
   rw[hb] at e;cases e;exact p2_3 0 b rfl rfl (by rw[List.lookup_cons,hb])
  | false=>
   rw[hb] at e;refine ZiK (ih (n+1) e) fun i a e1 e2 e3=>?_;exact p2_3 (i+1) a (by lia) (by simpa using e2) (by rw[List.lookup_cons,hb];exact e3)
theorem Zhz{kd:Str→Option NameKind}{x:Str}:∀(names:List Str) (vs:List Value) (m:Str→Option Value),x∉names→bindL kd (names.zip vs) m x=m x
 | [],vs,m,h=>rfl
 | y::r,[],m,h=>rfl
 | y::r,v::vs,m,h=>by
  rw[List.zip_cons_cons];unfold bindL;rw[Zhz r vs _ fun q=>h (.tail _ q)];have:x≠y:=fun q=>h (q▸.head _);split<;>simp[this]
theorem Zgi{kd:Str→Option NameKind}{x:Str}{v:Value}(hk:kd x=some .local):∀(names:List Str) (vs:List Value) (m:Str→Option Value) (i:Nat),names.Nodup→names[i]?=some x→vs[i]?=some v→bindL kd (names.zip vs) m x=some v
 | [],vs,m,i,hn,h1,h2=>by simp at h1
 | y::r,[],m,i,hn,h1,h2=>by simp at h2
 | y::r,u::vs,m,0,hn,h1,h2=>by
  simp at h1 h2;subst h1 h2;rw[List.zip_cons_cons];unfold bindL;rw[Zhz r vs _ (List.nodup_cons.mp hn).1,if_pos hk];simp
 | y::r,u::vs,m,i+1,hn,h1,h2=>by
  rw[List.zip_cons_cons];unfold bindL;exact Zgi hk r vs _ i (List.nodup_cons.mp hn).2 (by simpa using h1) (by simpa using h2)
theorem ZcF{kd:Str→Option NameKind}{x:Str}:∀(names:List Str) (vs:List Value) (m:Str→Option Value),x∉names→bindC kd (names.zip vs) m x=m x
 | [],vs,m,h=>rfl
 | y::r,[],m,h=>rfl
 | y::r,v::vs,m,h=>by
  rw[List.zip_cons_cons];unfold bindC;rw[ZcF r vs _ fun q=>h (.tail _ q)];have:x≠y:=fun q=>h (q▸.head _);split<;>simp[this]
theorem Zgj{kd:Str→Option NameKind}{x:Str}{v:Value}(hk:¬kd x=some .local):∀(names:List Str) (vs:List Value) (m:Str→Option Value) (i:Nat),names.Nodup→names[i]?=some x→vs[i]?=some v→bindC kd (names.zip vs) m x=some v
 | [],vs,m,i,hn,h1,h2=>by simp at h1
 | y::r,[],m,i,hn,h1,h2=>by simp at h2
 | y::r,u::vs,m,0,hn,h1,h2=>by
  simp at h1 h2;subst h1 h2;rw[List.zip_cons_cons];unfold bindC;rw[ZcF r vs _ (List.nodup_cons.mp hn).1,if_neg hk];simp
 | y::r,u::vs,m,i+1,hn,h1,h2=>by
  rw[List.zip_cons_cons];unfold bindC;exact Zgj hk r vs _ i (List.nodup_cons.mp hn).2 (by simpa using h1) (by simpa using h2)
noncomputable def ZfH(li:List (Option Nat))(args:List MV):Loc:=li.map fun o=>match o with
 | some i=>args[i]?
 | none=>none
noncomputable def ZaH(ci:List (Option Nat))(args:List MV):List MO:=ci.map fun o=>match o with
 | some i=>.cell args[i]?
 | none=>.cell none
noncomputable def okL(sc:Scope)(names:List Str):List Str→List (Option Nat)→Bool
 | [],[]=>true
 | x::xs,o::os=>(match o with
  | none=>true
  | some i=>names[i]?==some x&&sc.names.lookup x==some .local)&&okL sc names xs os
 | _,_=>false
noncomputable def okC(sc:Scope)(names:List Str):List Str→List (Option Nat)→Bool
 | [],[]=>true
 | x::xs,o::os=>sc.names.lookup x==some .cell&&(match o with
  | none=>!names.contains x
  | some i=>names[i]?==some x)&&okC sc names xs os
 | _,_=>false
theorem Zkf{sc:Scope}{names:List Str}:∀{slots:List Str} {li:List (Option Nat)},okL sc names slots li=true→∀(j:Nat) (x:Str) (i:Nat),slots[j]?=some x→li[j]?=some (some i)→names[i]?=some x∧sc.names.lookup x=some .local
 | [],[],_,j,x,i,h1,h2=>by simp at h1
 | [],_::_,h,_,_,_,_,_=>by cases h
 | _::_,[],h,_,_,_,_,_=>by cases h
 | y::ys,o::os,h,j,x,i,h1,h2=>by
  unfold okL at h;rw[Bool.and_eq_true] at h;cases j with
  | zero=>
   simp at h1 h2;subst h1 h2;simpa using h.1
  | succ j=>exact Zkf h.2 j x i (by simpa using h1) (by simpa using h2)
theorem ZeO{sc:Scope}{names:List Str}:∀{cn:List Str} {ci:List (Option Nat)},okC sc names cn ci=true→cn.length=ci.length∧∀(j:Nat) (x:Str) (o:Option Nat),cn[j]?=some x→ci[j]?=some o→sc.names.lookup x=some .cell∧(match o with | none=>x∉names | some i=>names[i]?=some x)
 | [],[],_=>⟨rfl,fun j x i h1 h2=>by simp at h1⟩
 | [],_::_,h=>by cases h
 | _::_,[],h=>by cases h
 | y::ys,o::os,h=>by
  unfold okC at h;rw[Bool.and_eq_true,Bool.and_eq_true] at h;have ih:=ZeO h.2;refine ⟨by simp[ih.1],fun j x o' h1 h2=>?_⟩;cases j with
  | zero=>
   simp at h1 h2;subst h1 h2;refine ⟨by simpa using h.1.1,?_⟩;have h12:=h.1.2;cases o with
   | none=>simpa using h12
   | some i=>simpa using h12
  | succ j=>exact ih.2 j x o' (by simpa using h1) (by simpa using h2)
noncomputable def Zjq(n:Nat)(li ci:List (Option Nat))(f:Nat→SF):FF:=fun args hp=>if args.length=n then (match f hp.length (ZfH li args) (hp++ZaH ci args) with
 | some (.ret v,_,hp')=>some (v,hp')
 | some (.norm,_,hp')=>some (.none,hp')
 | none=>none) else none
theorem CF.defC{fa:Addr}{fd:FuncData}{o:Obj}{body:List Stmt}{names slots cn:List Str}{li ci:List (Option Nat)}{f:Nat→SF}(B:Bs w g mg mb)(ho:g.get? fa=some o)(hd:o.data=.func fd)(hbody:fd.body=.stmts body)(hgl:fd.globals=mainGlobals)(hbi:fd.builtins=builtinsNs)(hclo:fd.closure=[])
 (hcode:g.CodeRec fd.code fd.qualname) (hb:∀vs:List Value,vs.length=names.length→bindArgs fd ⟨vs,[]⟩=pure (names.zip vs)) (hkind:∀x∈names,fd.scope.names.lookup x=some .local∨(fd.scope.names.lookup x=some .cell∧x∈cn)) (hnd:names.Nodup)
 (hcn:∀L,(cellsFrom L fd.scope.names []).map (·.1)=cn) (hcnd:cn.Nodup) (hL:okL fd.scope names slots li=true) (hC:okC fd.scope names cn ci=true)
 (hco:fd.scope.isCoroutine=false) (hgen:fd.scope.isGenerator=false) (hk:fd.scope.kind=.function) (d:∀n,DS w g c ⟨fd.scope,slots,Zbk n cn,fd.code,fd.qualname ++ ".<locals>."⟩ body (f n)):CF w g (c+1) (.ref fa) (Zjq names.length li ci f):=by
 intro args hp mv hp' q;revert q;refine jI fun hlen qa=>?_;intro ρ vs s A Q Ee R hA hvs h;have hvl:vs.length=names.length:=by rw[hvs.len,hlen]
 refine wpAny_call ?_;have hdep:A.depth < recursionLimit:=by have:=hA.dep;have:recursionLimit=1000:=(by decide +kernel);lia
 have hcode':s.heap.CodeRec fd.code fd.qualname:=by
  refine x4_3 hcode fun c' o' vs' t e h1 h2=>?_;exact p4_3 c' o' vs' t e (R.base _ _ h1) h2
 have hcs:=hcn (s.heap.objs.size+1);refine codeAny_call_cells hdep (R.base _ _ ho) hd (B.nolimit.keeps R.base) hcode' hbody (hb vs hvl) hclo (fun x hx=>?_) (fun s₁ X=>?_) hco hgen hk
 · rcases hkind _ (List.of_mem_zip hx).1 with e | ⟨e,e2⟩
   · exact .inl e
   · refine .inr ⟨e,?_⟩;rw[← hcs] at e2;refine ZJ (List.mem_map.mp e2) fun na hm e3=>?_;have:=Zbu (l:=cellsFrom (s.heap.objs.size+1) fd.scope.names []) (x:=na.1) (v:=na.2) (by rw[hcs];exact hcnd) hm;rw[e3] at this;rw[this];rfl
 · refine ZeF X.done fun h₀ tk₀ yq hkeep=>?_;subst yq;revert hcs;refine genh (cellsFrom (s.heap.objs.size+1) fd.scope.names []) fun cs hcsd hcs=>?_;have hcells:(callEnvC fd s.heap.objs.size fa).cells=cs:=hcsd;have hLn:=ZG s.heap;have habove:∀a∈cs.map (·.2),s.heap.objs.size < a:=fun a ha=>by
    refine ZJ (List.mem_map.mp ha) fun yq hm yr=>?_;obtain ⟨n',a'⟩:=yq;subst yr;exact X.above n' a' (by rw[hcells];exact hm)
   have hnone:∀a,s.heap.objs.size≤a→s.heap.get? a=none:=fun a ha=>by
    cases e:s.heap.get? a with
    | none=>rfl
    | some o=>exact absurd (Heap.lt_size e) (Nat.not_lt.mpr ha)
   have hCl:=(ZeO hC).1;have hCg:=(ZeO hC).2;have hkd:∀x,(callEnvC fd s.heap.objs.size fa).kindOf x=fd.scope.names.lookup x:=fun x=>rfl;have P0:Post w g ρ s.heap (ρ++cs.map (·.2)) (hp++ZaH ci args) h₀:=by
    refine R.allocs (by rw[List.length_map,← List.length_map (f:=(·.1)),hcs,hCl];simp[ZaH]) (fun a ha=>hnone a (Nat.le_of_lt (habove a ha))) ?_ hkeep ?_
    · have:=X.apart;rw[hcells] at this;exact List.pairwise_map.mpr this
    · intro i mo a e1 e2;rw[List.getElem?_map] at e2;cases hci:cs[i]? with
      | none=>rw[hci] at e2;cases e2
      | some na=>
       obtain ⟨nm,a'⟩:=na;rw[hci] at e2;cases e2;have hx:cn[i]?=some nm:=by rw[← hcs,List.getElem?_map,hci];rfl
       unfold ZaH at e1;rw[List.getElem?_map] at e1;cases hcii:ci[i]? with
       | none=>rw[hcii] at e1;cases e1
       | some o=>
        rw[hcii] at e1;cases e1;have hg:=hCg i nm o hx hcii;have hlk:cs.lookup nm=some a':=Zbu (by rw[hcs];exact hcnd) (List.mem_of_getElem? hci);have hcell:=X.cell nm a' (by rw[hcells];exact hlk);have hnl:¬(callEnvC fd s.heap.objs.size fa).kindOf nm=some .local:=by rw[hkd,hg.1];decide
        cases o with
        | none=>
         rw[ZcF _ _ _ hg.2] at hcell;exact Qd none hcell trivial
        | some j=>
         have hj:j < args.length:=by rw[hlen];exact (lge hg.2).1
         obtain ⟨v',e3,e4⟩:=hvs.at j args[j] (List.getElem?_eq_getElem hj);rw[Zgj hnl _ _ _ j hnd hg.2 e3] at hcell;refine Qd (some v') hcell ?_;rw[List.getElem?_eq_getElem hj];exact e4.ext _
   have S0:St w g ⟨fd.scope,slots,Zbk hp.length cn,fd.code,fd.qualname ++ ".<locals>."⟩ (ρ++cs.map (·.2)) (hp++ZaH ci args) (ZfH li args) (callEnvC fd s.heap.objs.size fa) h₀:=by
    refine ⟨P0.rel,rfl,hk,hgl,hbi,rfl,rfl,?_,?_,Zak R.base hLn,_,X.toInCall.ns,?_⟩
    · intro x k e;rw[hcells];rw[← hcs] at e;refine ZiK (idx_cs cs _ e) fun i a e1 e2 e3=>?_;refine Qd a ?_ e3;rw[e1,← R.len,List.getElem?_append_right (by lia)];simpa using e2
    · intro hm;rcases List.mem_append.mp hm with hm | hm
      · exact R.notin_none hLn hm
      · exact Nat.lt_irrefl _ (habove _ hm)
    · intro j x v e1 e2;unfold ZfH at e2;rw[List.getElem?_map] at e2;cases hli:li[j]? with
      | none=>rw[hli] at e2;cases e2
      | some o=>
       rw[hli] at e2;cases o with
       | none=>cases e2
       | some i=>
        simp only[Option.map_some,Option.some.injEq] at e2;refine Qe (Zkf hL j x i e1 hli) fun f1 f2=>?_;refine ZJ (hvs.at i v e2) fun v' e3 e4=>?_;exact Qd v' (Zgi (by rw[hkd];exact f2) _ _ _ i hnd f1 e3) (e4.ext _)
   have hA':AOK c (A.deeper (callEnvC fd s.heap.objs.size fa)):=⟨hA.hd,by have:=hA.dep;show A.depth+1+_≤_;lia,by have:=hA.un;show A.units+3+_≤_;lia⟩;have fin:∀{ρ2:List Addr} {hp2:Hp} {h2:Heap},PostW w g [s.heap.objs.size] (ρ++cs.map (·.2)) h₀ ρ2 hp2 h2→Post w g ρ s.heap ρ2 hp2 h2:=fun P=>
    PostW.dead (wr:=[s.heap.objs.size]) ((P0.toW).trans P fun a ha=>by rw[lms ha];exact .inr hLn) fun a ha=>by rw[lms ha];exact hLn
   revert qa;refine jRet (fun v ℓ2 hp2 q2 qa=>?_) fun ℓ2 hp2 q2 qa=>?_
   · refine oi2 qa fun yq yr=>?_;subst yq yr;refine d _ _ _ _ _ _ q2 _ _ _ _ _ _ S0 hA' fun fl h2 tk2 ρ2 hf P2 S2=>?_;refine ZJ hf fun x yq hx=>?_;subst yq;exact h x h2 tk2 ρ2 (fin P2) hx
   · refine oi2 qa fun yq yr=>?_;subst yq yr;refine d _ _ _ _ _ _ q2 _ _ _ _ _ _ S0 hA' fun fl h2 tk2 ρ2 hf P2 S2=>?_;cases hf
     exact h .none h2 tk2 ρ2 (fin P2) rfl
end
end
noncomputable section
noncomputable section
variable {w:World} {g:Heap} {c:Nat} {E:EnvD} {mg mb:Str→Option Value}
theorem Rel.grow{ρ:List Addr}{hp:Hp}{h h':Heap}{kt:Nat}{P:Addr}{mo:MO}(R:Rel w g ρ hp h){as:List Addr}{ms:List MO}(hP:ρ[kt]?=some P)(hl:as.length=ms.length)(hn:∀a∈as,h.get? a=none)(nd:as.Nodup)
 (k:∀b o,b≠P→h.get? b=some o→h'.get? b=some o) (xP:OR w (ρ++as) h' P mo) (x:∀(i:Nat) (m:MO) (a:Addr),ms[i]?=some m→as[i]?=some a→OR w (ρ++as) h' a m):Post w g ρ h (ρ++as) (hp.set kt mo++ms) h':=by
 have hPm:P∈ρ:=List.mem_of_getElem? hP;refine ⟨⟨fun b o e=>k b o (fun q=>by rw[q,R.off P hPm] at e;cases e) (R.base b o e),by simp[R.len,hl],fun i mo' a' e1 e2=>?_,?_,fun b hb=>?_⟩,⟨as,rfl⟩,fun b hb hnb=>?_,fun b o hb e=>k b o (fun q=>hb (q▸hPm)) e⟩
 · by_cases hi:i < hp.length
   · rw[List.getElem?_append_left (by simpa using hi)] at e1;rw[List.getElem?_append_left (by rw[R.len];exact hi)] at e2;by_cases hik:i=kt
     · subst hik;rw[hP] at e2;cases e2;rw[List.getElem?_set_self hi] at e1;cases e1;exact xP
     · rw[List.getElem?_set_ne (Ne.symm hik)] at e1;have y:=R.obj i mo' a' e1 e2;refine ZW y.alive fun o ho=>?_;have hne:a'≠P:=fun q=>by subst q;exact hik (Zbe R.nd e2 hP)
       exact (y.ext as).keep ((k a' o hne ho).trans ho.symm)
   · rw[List.getElem?_append_right (by simp;lia)] at e1;rw[List.getElem?_append_right (by rw[R.len];lia),R.len] at e2;rw[List.length_set] at e1;exact x _ _ _ e1 e2
 · rw[List.nodup_append];exact ZnZ R.nd nd (fun b hb c hc e=>by subst e;exact R.notin_none (hn b hc) hb)
 · rcases List.mem_append.mp hb with hb | hb
   · exact R.off b hb
   · exact Zak R.base (hn b hb)
 · rcases List.mem_append.mp hb with hb | hb
   · exact absurd hb hnb
   · exact hn b hb
structure LamB(g:Heap)(mg:Str→Option Value)(cA P:Addr):Prop where
 hd:CodeHd g cA P
 bi:g.BuiltinsAt mg P
 ne:mainGlobals≠P
theorem BuiltinsAt.keeps{h h':Heap}{P:Addr}(x:h.BuiltinsAt mg P)(k:∀b o,h.get? b=some o→h'.get? b=some o):h'.BuiltinsAt mg P:=by
 refine x2_6 x fun bm o h1 h2 h3 h4 h5 r=>?_;exact p2_6 bm o h1 h2 h3 h4 (k _ _ h5) r
def ZkK(id kt:Nat)(P:Addr)(pos:Pos)(cl:List (Str×Nat)):EF:=fun ℓ hp=>match hp[kt]? with
 | some (.tab P' es)=>if P'=P then (match es.lookup (pos.line,pos.col) with
  | some kc=>some (.ref hp.length,hp++[.clos id cl kc])
  | none=>some (.ref (hp.length+1),hp.set kt (.tab P (((pos.line,pos.col),hp.length)::es))++[.code (Qp id),.clos id cl hp.length])) else none
 | _=>none
theorem Zgf{p p':Pos}(h1:p.line=p'.line)(h2:p.col=p'.col)(l:List Value):codeAmong p l=codeAmong p' l:=by
 cases p
 cases p'
 cases h1
 cases h2
 kernel_rfl
theorem Zge{p:Pos}{a b:Nat}{c:Value}(l:List Value)(h:TriplesOk l)(hne:¬(p.line=a∧p.col=b)):codeAmong p (l++[rawInt a,rawInt b,c])=codeAmong p l:=by
 fun_induction TriplesOk l with
 | case1=>
  simp only[List.nil_append,rawInt,codeAmong];rw[if_neg];simp only[Bool.and_eq_true,beq_iff_eq,Int.natCast_inj];intro z'1;refine Qe z'1 fun e1 e2=>?_;exact hne ⟨by lia,by lia⟩
 | case2 a' t b' u x rest ih=>
  simp only[List.cons_append,codeAmong];split
  · rfl
  · exact ih h
 | case3=>exact h.elim
theorem DE.lam{id kt:Nat}{cA P:Addr}{pos:Pos}{cl:List (Str×Nat)}(B:Bs w g mg mb)(L:LamB g mg cA P)(hc:E.code=.ref cA)(hq:E.qual ++ "<lambda>" = Qp id)(hdf:∀env,defaultsOf (lamSyn id).1 env=([],[]))
 (hf:∀n,(n,NameKind.free)∈(lamSyn id).2.2.names→(E.cells.lookup n).isSome=true) (hcl:Zae E.cells (lamSyn id).2.2 cl):
 DE w g c E (.Lambda (lamSyn id).1 (lamSyn id).2.1 (lamSyn id).2.2 pos) (ZkK id kt P pos cl):=by
 intro ℓ hp mv hp' q;revert q;refine jWt fun P' es hk q=>?_;revert q;refine jI fun e q=>?_;intro ρ env s A Q Ee S hA h;subst e;obtain ⟨a,ea,⟨rfl,ps,hP,htr,hco⟩⟩:=S.rel.at hk;have harm:eval (.Lambda (lamSyn id).1 (lamSyn id).2.1 (lamSyn id).2.2 pos) env=(do
  let dv ← evalAll (defaultsOf (lamSyn id).1 env).1
  let kdv ← holding dv (evalAllOpt (defaultsOf (lamSyn id).1 env).2)
  makeFunction "<lambda>" (env.qual ++ "<lambda>") (lamSyn id).1 (.expr (lamSyn id).2.1) (lamSyn id).2.2 env dv kdv [] pos pos.line):=rfl
 rw[harm,hdf];refine wpAny_bind (wpAny_evalAll_nil ?_);refine wpAny_bind (wpAny_holding (wpAny_pure ?_));have hge:env.globals=mainGlobals:=S.gl;have hcd:env.code=.ref cA:=S.cd.trans hc;have hqq:env.qual ++ "<lambda>" = Qp id:=by rw[S.qu];exact hq
 have hclos:=ZaQ (Zbf S.cl hf);have hcr:CR ρ cl (Zbg env.cells (lamSyn id).2.2.names []):=S.cl.from hcl;have hg:=B.mg.keeps S.rel.base;have C:=L.hd.keeps S.rel.base;have hb:=BuiltinsAt.keeps L.bi S.rel.base;have hpos:=hco pos;split at q
 · rename_i kc hes;refine oi2 q fun yq yr=>?_;subst yq yr;rw[hes] at hpos;refine ZJ hpos fun cc hkc hcc=>?_;refine kla_makeFunctionHit hclos hge hg hcd C hP htr hcc hb fun ctv h' tk hk' hsz=>?_;have P1:Post w g ρ s.heap ρ hp h':=S.rel.keep hk';refine h _ _ tk _ (P1.trans (P1.rel.alloc (mo:=.clos id cl kc) (ZG h') (fun b o e=>Heap.get?_push_of_some _ e) ⟨_,_,cc,Heap.get?_push_size _ rfl,rfl,rfl,rfl,rfl,rfl,hqq,rfl,rfl,rfl,rfl,hcr.ext _,rfl,ZaX hkc _⟩)) ⟨_,Zbm S.rel.len,rfl⟩
 · rename_i hes;refine oi2 q fun yq yr=>?_;subst yq yr;rw[hes] at hpos;refine kla_makeFunction hclos hge hg hcd C hP htr hpos L.ne hb fun c' ctv h' tk hx hge' hlt hrec hP'=>?_;have hPne:∀b o,b≠a→s.heap.get? b=some o→(h'.push (kla_obj "<lambda>" (env.qual ++ "<lambda>") (lamSyn id).1 (lamSyn id).2.1 (lamSyn id).2.2 (Zbg env.cells (lamSyn id).2.2.names []) ((mg "__name__").getD .none) c' ctv)).get? b=some o:=fun b o hb' e=>Heap.get?_push_of_some _ (hx b o hb' e);have hnone:s.heap.get? c'=none:=by
    cases e:s.heap.get? c' with
    | none=>rfl
    | some o=>exact absurd (Heap.lt_size e) (Nat.not_lt.mpr hge')
   have hnone2:s.heap.get? h'.objs.size=none:=by
    cases e:s.heap.get? h'.objs.size with
    | none=>rfl
    | some o=>exact absurd (Heap.lt_size e) (Nat.not_lt.mpr (Nat.le_trans hge' (Nat.le_of_lt hlt)))
   have hidx:(ρ++[c',h'.objs.size])[hp.length]?=some c':=by rw[← S.rel.len];simp
   have hidx2:(ρ++[c',h'.objs.size])[hp.length+1]?=some h'.objs.size:=by rw[← S.rel.len];simp
   refine h _ _ tk (ρ++[c',h'.objs.size]) (S.rel.grow ea rfl ?_ ?_ hPne ?_ ?_) ⟨_,hidx2,rfl⟩
   · intro a ha;rcases lmc ha with rfl | ha
     · exact hnone
     · rw[lms ha];exact hnone2
   · simp;exact Nat.ne_of_lt hlt
   · refine ⟨rfl,_,Heap.get?_push_of_some _ hP',by simp only[Array.toList_append];exact TriplesOk_snoc _ _ _ _ htr,fun p=>?_⟩;rw[List.lookup_cons];simp only[Array.toList_append];by_cases hpp:p.line=pos.line∧p.col=pos.col
     · have hb1:((p.line,p.col)==(pos.line,pos.col))=true:=by rw[hpp.1,hpp.2];exact beq_self_eq_true _
       rw[hb1];refine Qd c' hidx ?_;rw[Zgf hpp.1 hpp.2];exact codeAmong_snoc _ htr hpos
     · have hb1:((p.line,p.col)==(pos.line,pos.col))=false:=by
        rw[beq_eq_false_iff_ne];intro q;exact hpp (Prod.mk.inj q)
       rw[hb1];have e1:codeAmong p (ps.toList++[rawInt pos.line,rawInt pos.col,.ref c'])=codeAmong p ps.toList:=Zge _ htr hpp;have:=hco p;split at this
       · rename_i e2;simp only[e2];exact e1.trans this
       · rename_i k e2;refine ZJ this fun cc f1 f2=>?_;simp only[e2];exact Qd cc (ZaX f1 _) (e1.trans f2)
   · intro i m a e1 e2;match i with
     | 0=>
      simp at e1 e2;subst e1 e2;refine x4_3 hrec fun c2 o2 vs2 t2 g1 g2 g3=>?_;exact p4_3 c2 o2 vs2 t2 g1 (Heap.get?_push_of_some _ g2) (by rw[← hqq];exact g3)
     | 1=>
      simp at e1 e2;subst e1 e2;exact ⟨_,_,c',Heap.get?_push_size _ rfl,rfl,rfl,rfl,rfl,rfl,hqq,rfl,rfl,rfl,rfl,hcr.ext _,rfl,hidx⟩
     | i+2=>simp at e1
end
end
noncomputable section
noncomputable section
variable {w:World} {g:Heap} {c:Nat} {E:EnvD} {mg mb:Str→Option Value}
abbrev ZF:=Nat→List (Str×Nat)→FF
def CLam(w:World)(g:Heap)(c:Nat)(lamF:ZF):Prop:=∀(id:Nat) (cl:List (Str×Nat)) (kc:Nat) (args:List MV) (hp:Hp) (mv:MV) (hp':Hp) (k:Nat),hp[k]?=some (.clos id cl kc)→(∃q,hp[kc]?=some (.code q)∧q=Qp id)→lamF id cl args hp=some (mv,hp')→∀(ρ:List Addr) (a:Addr) (vs:List Value) (s:Shared) (A:Around) (Q Ee:Value→Shared→Prop),
 Rel w g ρ hp s.heap→ρ[k]?=some a→AOK c A→VRs ρ args vs→Ret w g ρ hp' mv Q s→wpAny (model pE w) A (call (.ref a) vs) Q Ee s
def ZgF(lamF:ZF)(f:EF)(a:AF):EF:=fun ℓ hp=>match f ℓ hp with
 | some (.ref k,hp1)=>(match hp1[k]? with
  | some (.clos id cl kc)=>(match a ℓ hp1 with
   | some (vs,hp2)=>(match hp2[k]? with
    | some (.clos id2 cl2 kc2)=>(match hp2[kc2]? with
     | some (.code q)=>if q=Qp id2 then lamF id2 cl2 vs hp2 else none
     | _=>none)
    | _=>none)
   | none=>none)
  | _=>none)
 | _=>none
theorem ZkX{pos:Pos}{a:Addr}{args:List (Bool×Sem Value)}{A:Around}{s:Shared}{Q Ee:Value→Shared→Prop}
 (h:wpAny (model pE w) A (evalArgs (.ref a) true args []) (fun x s₁=>(∃o fd,s₁.heap.get? a=some o∧o.data=.func fd)∧wpAny (model pE w) A (call (.ref a) ([]++x.pos) x.kw) Q Ee s₁) Ee s):
 wpAny (model pE w) A (callWith pos (.ref a) [] args []) Q Ee s:=by
 unfold callWith;refine wpAny_bind (wpAny_holding (wpAny_mono h (fun x s₁ h₁=>wpAny_bind (wpAny_standAt ?_)) fun υ υ x=>x));refine Qe h₁ fun yq h3=>?_;refine ZeF yq fun o fd h1 h2=>?_;have tail:∀{t:Sem Value},wpAny (model pE w) A t Q Ee s₁→wpAny (model pE w) A (t>>=fun r=>holding [r] point>>=fun υ=>pure r) Q Ee s₁:=
  fun ht=>wpAny_bind (wpAny_mono ht (fun r s₂ hr=>wpAny_bind (wpAny_holding (wpAny_point (wpAny_pure hr)))) fun υ υ x=>x)
 cases hs:args.any (·.1)<;>simp only[List.any_nil,Bool.or_false] <;>
  refine wpAny_bind (m:=keeperOf (.ref a)) ?_<;>unfold keeperOf <;>
  refine wpAny_bind (wpAny_load h1 ?_)<;>rw[h2]<;>refine wpAny_pure ?_
 ·
  first
   | refine wpAny_ite ?_
   | skip
  split<;>first
   | exact tail h3
   | exact tail (by unfold callMarked;exact Calls.wpAny_keep h3)
 ·
  first
   | exact tail (by unfold callMarked;exact Calls.wpAny_keep h3)
   | exact tail h3
theorem DE.callV{lamF:ZF}{x:Str}{p pos:Pos}{es:List PySem.Expr}{f:EF}{a:AF}(L:CLam w g c lamF)(df:DE w g c E (.Name x p) f)(da:DA w g c E es a):DE w g c E (.Call (.Name x p) es [] pos) (Internal.ZgF lamF f a):=by
 intro ℓ hp mv hp' q;revert q;refine jVr fun k hp1 q1 q=>?_;revert q;refine jWc fun id cl kc q2 q=>?_;revert q;refine jA fun vs hp2 q3 qa=>?_;revert qa;refine jWc fun id2 cl2 kc2 q4 qa=>?_;revert qa;refine jWq fun qn q5 qa=>?_;revert qa;refine jI fun hq qa=>?_;intro ρ env s A Q Ee S hA h;refine wpAny_Call_ofName (df _ _ _ _ q1 ρ env s A _ Ee S hA fun va h1 tk1 ρ1 P1 v1=>?_);refine vrR v1 fun ad ea=>?_;refine ZkX (Zam (da.2 env) (da.1 _ _ _ _ q3 ρ1 env pos _ A _ Ee (S.post P1) hA fun vs' h2 tk2 ρ2 P2 v2=>?_));have ea2:ρ2[k]?=some ad:=by
  refine ZW P2.ext fun new en=>?_;rw[en];exact ZaX ea new
 refine x3_4 (P2.rel.obj _ _ _ q4 ea2) fun o1 fd1 c1 g1 g2 g3 υ=>?_;exact ⟨⟨o1,fd1,g1,g3⟩,L _ _ _ _ _ _ _ _ q4 ⟨_,q5,hq⟩ qa _ _ _ _ _ _ _ P2.rel ea2 hA v2 (h.then (P1.trans P2))⟩
end
end
set_option tactic.hygienic false
section
section
variable {w:World} {g:Heap} {c:Nat} {E:EnvD} {mg mb:Str→Option Value}
noncomputable def oldS:Str:=Str.ofString "old"
theorem CLam.of{lamF:ZF}(B:Bs w g mg mb)(hb:∀(fd:FuncData) id,fd.params=(lamSyn id).1→fd.defaults=.none→fd.kwdefaults=.none→∀v:Value,bindArgs fd ⟨[v],[]⟩=pure [(oldS,v)])
 (hsc:∀id,(∀x∈(lamSyn id).2.2.names,x.2≠.cell)∧(lamSyn id).2.2.names.lookup oldS=some .local∧(lamSyn id).2.2.isCoroutine=false∧(lamSyn id).2.2.isGenerator=false∧(lamSyn id).2.2.kind=.function)
 (h:∀id cl args hp mv hp',lamF id cl args hp=some (mv,hp')→∃v,args=[v]∧∀cd qu,EvS w g c ⟨(lamSyn id).2.2,[oldS],cl,cd,qu⟩ [some v] hp (lamSyn id).2.1 mv hp'):CLam w g (c+1) lamF:=by
 intro id cl kc args hp mv hp' k hk hk2 q ρ a vs s A Q Ee R ea hA hvs hr;refine ZJ (h _ _ _ _ _ _ q) fun mvv yq hev=>?_;subst yq;obtain ⟨o,fd,cc,h1,h2,h3,h4,h5,h6,h7,h8,h9,h10,h11,h12,h13,h14⟩:=R.obj _ _ _ hk ea;refine vr1 hvs fun v u1=>?_;refine wpAny_call ?_;have hdep:A.depth < recursionLimit:=by have:=hA.dep;have:recursionLimit=1000:=(by decide +kernel);lia
 refine ZJ hk2 fun qn hq1 hq2=>?_;have hcr:s.heap.CodeRec fd.code fd.qualname:=by
  have:=R.obj _ _ _ hq1 h14;rw[h13,h7,← hq2];exact this
 refine x0_5 (hsc id) fun s1 s2 s3 s4 s5=>?_;refine kla_callFunE hdep h1 h3 (by rw[h6];exact s3) (by rw[h6];exact s4) h5 hcr ?_;rw[hb fd id h4 h10 h11 v];refine wpAny_pure (wpAny_newFunctionEnv (around:=none) (by rw[h6];exact s1) (fun x hx=>by rw[lms hx,h6];exact s2) (fun h' hns hsb=>⟨(B.nolimit.keeps R.base).keeps fun b o e=>?_,kla_codeExpr ?_⟩) (by rw[h6];exact s5))
 · exact (hsb.2 b fun z=>by rw[z,ZG] at e;cases e).trans (Heap.get?_push_of_some _ e)
 · have hkeep:∀b o,s.heap.get? b=some o→h'.get? b=some o:=fun b o e=>(hsb.2 b fun z=>by rw[z,ZG] at e;cases e).trans (Heap.get?_push_of_some _ e);have P0:Post w g ρ s.heap ρ hp h':=R.keep hkeep;have hLn:=ZG s.heap;refine hev fd.code (fd.qualname ++ ".<locals>.") ρ _ _ _ _ _ ⟨P0.rel,h6,s5,h8,h9,rfl,rfl,h12,R.notin_none hLn,Zak R.base hLn,_,hns,fun i x u e1 e2=>?_⟩ ⟨hA.hd,by have:=hA.dep;show A.depth+1+_≤_;lia,by have:=hA.un;show A.units+3+_≤_;lia⟩ fun v2 h2 tk2 ρ2 P2 v2r=>?_
   · cases i with
     | zero=>
      cases e1;cases e2
      exact Qd v rfl u1
     | succ i=>simp at e1
   · exact hr v2 h2 tk2 ρ2 (P0.trans P2) v2r
end
end
set_option tactic.hygienic true
section
section
variable {w:World} {g:Heap} {c:Nat} {E:EnvD} {mg mb:Str→Option Value}
noncomputable def keyS:Str:=Str.ofString "key"
noncomputable def CFKS(w:World)(g:Heap)(c:Nat)(fv:Value)(args:List MV)(hp:Hp)(mv:MV)(hp':Hp):Prop:=∀(ρ:List Addr) (vs:List Value) (kv:Value) (s:Shared) (A:Around) (Q Ee:Value→Shared→Prop),Rel w g ρ hp s.heap→AOK c A→VRs ρ args (vs++[kv])→Ret w g ρ hp' mv Q s→wpAny (model pE w) A (call fv vs [(keyS,kv)]) Q Ee s
noncomputable def CFK(w:World)(g:Heap)(c:Nat)(fv:Value)(F:FF):Prop:=∀args hp mv hp',F args hp=some (mv,hp')→CFKS w g c fv args hp mv hp'
noncomputable def ZbX(F:FF)(a:AF)(f:EF):EF:=fun ℓ hp=>match a ℓ hp with
 | some (vs,hp1)=>(match f ℓ hp1 with
  | some (k,hp2)=>F (vs++[k]) hp2
  | none=>none)
 | none=>none
theorem DE.callK{fa:Addr}{o:Obj}{fd:FuncData}{x:Str}{p pk pos:Pos}{e0 ek:PySem.Expr}{es:List PySem.Expr}{F:FF}{a:AF}{f:EF}(hf:DE w g c E (.Name x p) (Zb (.glob (.ref fa))))(ho:g.get? fa=some o)(hdt:o.data=.func fd)(d:DA w g c E (e0::es) a)(dk:DE w g c E ek f)
 (he:∀env,starEach (e0::es) env=(false,eval e0 env)::starEach es env) (hF:CFK w g c (.ref fa) F):DE w g c E (.Call (.Name x p) (e0::es) [⟨some keyS,ek,pk⟩] pos) (Internal.ZbX F a f):=by
 intro ℓ hp mv hp' q;revert q;refine jA fun vs hp1 q1 qa=>?_;revert qa;refine jV fun k hp2 q2 qb=>?_;intro ρ env s A Q Ee S hA h;refine wpAny_Call_Name_kw (hf _ _ _ _ rfl ρ env s A _ Ee S hA fun va h0 tk0 ρ0 P0 v0=>?_);cases v0
 refine callWith_function_kw (o:=o) (fd:=fd) (evalArgs_kw2 rfl (d.1 _ _ _ _ q1 ρ0 env pos _ A _ Ee (S.post P0) hA fun vs' h1 tk1 ρ1 P1 v1=>?_) (he env));refine kwAll_cons (dk _ _ _ _ q2 ρ1 env _ A _ Ee (S.post (P0.trans P1)) hA fun kv h2 tk2 ρ2 P2 v2=>kwAll_nil ?_);exact ⟨⟨P2.rel.base _ _ ho,hdt⟩,hF _ _ _ _ qb ρ2 vs' kv _ A Q Ee P2.rel hA ((v1.post P2).append (.cons v2 .nil)) (h.then ((P0.trans P1).trans P2))⟩
noncomputable def ZgA(n m:Nat)(full:List MV→List MV)(f:SF):FF:=fun args hp=>if args.length=n then (match f ((full args).map some++List.replicate m none) hp with
 | some (.ret v,_,hp')=>some (v,hp')
 | some (.norm,_,hp')=>some (.none,hp')
 | none=>none) else none
theorem CF.defK{fa:Addr}{fd:FuncData}{o:Obj}{body:List Stmt}{n:Nat}{full:List MV→List MV}{names more:List Str}{f:SF}(B:Bs w g mg mb)(ho:g.get? fa=some o)(hd:o.data=.func fd)(hbody:fd.body=.stmts body)(hgl:fd.globals=mainGlobals)(hbi:fd.builtins=builtinsNs)(hclo:fd.closure=[])
 (hcode:g.CodeRec fd.code fd.qualname) (hb:∀(ρ:List Addr) (args:List MV) (vs:List Value) (kv:Value) (s:Shared),(∀b o,g.get? b=some o→s.heap.get? b=some o)→VRs ρ args (vs++[kv])→args.length=n→∃bv,BindsTo s fd ⟨vs,[(keyS,kv)]⟩ (names.zip bv)∧VRs ρ (full args) bv∧bv.length=names.length)
 (hcell:∀x∈fd.scope.names,x.2≠.cell) (hloc:∀x∈names,fd.scope.names.lookup x=some .local) (hnd:names.Nodup)
 (hco:fd.scope.isCoroutine=false) (hgen:fd.scope.isGenerator=false) (hk:fd.scope.kind=.function) (d:DS w g c ⟨fd.scope,names++more,[],fd.code,fd.qualname ++ ".<locals>."⟩ body f):CFK w g (c+1) (.ref fa) (ZgA n more.length full f):=by
 intro args hp mv hp' q;revert q;refine jI fun hlen qa=>?_;intro ρ vs0 kv s A Q Ee R hA hvs0 h;refine ZgO (hb ρ args vs0 kv s R.base hvs0 hlen) fun vs hbt hvs hvl=>?_;refine wpAny_call ?_;have hdep:A.depth < recursionLimit:=by have:=hA.dep;have:recursionLimit=1000:=(by decide +kernel);lia
 have hcode':s.heap.CodeRec fd.code fd.qualname:=by
  refine x4_3 hcode fun c' o' vs' t e h1 h2=>?_;exact p4_3 c' o' vs' t e (R.base _ _ h1) h2
 refine codeAny_call_def hdep (R.base _ _ ho) hd (B.nolimit.keeps R.base) hcode' hbody hbt hcell (fun x hx=>hloc _ (List.of_mem_zip hx).1) (fun h₀ hns hkeep=>?_) hco hgen hk;have P0:Post w g ρ s.heap ρ hp h₀:=R.keep hkeep;have hLn:=ZG s.heap;generalize full args=fargs at hvs qa;have S0:St w g ⟨fd.scope,names++more,[],fd.code,fd.qualname ++ ".<locals>."⟩ ρ hp (fargs.map some++List.replicate more.length none) (callEnv fd s.heap.objs.size fa) h₀:=by
  refine ⟨P0.rel,rfl,hk,hgl,hbi,rfl,rfl,(fun x k e=>by cases e),R.notin_none hLn,Zak R.base hLn,_,hns,fun i x v e1 e2=>?_⟩;have hi:i < fargs.length:=by
   by_cases hi:i < fargs.length
   · exact hi
   · rw[List.getElem?_append_right (by simpa using hi)] at e2;have:=List.mem_of_getElem? e2;rw[List.mem_replicate] at this;cases this.2
  rw[List.getElem?_append_left (by simpa using hi)] at e2;rw[List.getElem?_append_left (by have:=hvs.len;lia)] at e1;have e3:fargs[i]?=some v:=by
   rw[List.getElem?_map] at e2;cases h5:fargs[i]? with
   | none=>rw[h5] at e2;cases e2
   | some u=>rw[h5] at e2;cases e2;rfl
  refine ZJ (hvs.at i v e3) fun v' h3 h4=>?_;exact Qd v' (ZcQ hnd e1 h3) h4
 have hA':AOK c (A.deeper (callEnv fd s.heap.objs.size fa)):=⟨hA.hd,by have:=hA.dep;show A.depth+1+_≤_;lia,by have:=hA.un;show A.units+3+_≤_;lia⟩;have fin:∀{ρ2:List Addr} {hp2:Hp} {h2:Heap},PostW w g [s.heap.objs.size] ρ h₀ ρ2 hp2 h2→Post w g ρ s.heap ρ2 hp2 h2:=fun P=>
  PostW.dead (wr:=[s.heap.objs.size]) ((P0.toW).trans P fun a ha=>by rw[lms ha];exact .inr hLn) fun a ha=>by rw[lms ha];exact hLn
 revert qa;refine jRet (fun v ℓ2 hp2 q2 qa=>?_) fun ℓ2 hp2 q2 qa=>?_
 · refine oi2 qa fun yq yr=>?_;subst yq yr;refine d _ _ _ _ _ q2 ρ _ _ _ _ _ S0 hA' fun fl h2 tk2 ρ2 hf P2 S2=>?_;refine ZJ hf fun x yq hx=>?_;subst yq;exact h x h2 tk2 ρ2 (fin P2) hx
 · refine oi2 qa fun yq yr=>?_;subst yq yr;refine d _ _ _ _ _ q2 ρ _ _ _ _ _ S0 hA' fun fl h2 tk2 ρ2 hf P2 S2=>?_;cases hf
   exact h .none h2 tk2 ρ2 (fin P2) rfl
end
end
section
section
variable {w:World} {g:Heap} {c:Nat} {E:EnvD} {mg mb:Str→Option Value}
noncomputable abbrev zw(n:Nat):List Addr:=[n,n+1,n+2,n+3,n+4]
structure ZipSt(ρ:List Addr)(k1 k2 i:Nat)(n:Addr)(h:Heap):Prop where
 hz:IsZip h (n+4) (n+2) (n+3) .none
 hTI:IsPair h (n+2) (.ref n) (.ref (n+1))
 hTO:∃a b,IsPair h (n+3) a b
 h1:∃l,ρ[k1]?=some l∧h.IsListIter n l i
 h2:∃l,ρ[k2]?=some l∧h.IsListIter (n+1) l i
theorem ZipSt.keep{ρ:List Addr}{k1 k2 i n:Nat}{h h':Heap}(x:ZipSt ρ k1 k2 i n h)(k:∀a∈zw n,∀o,h.get? a=some o→h'.get? a=some o):ZipSt ρ k1 k2 i n h':=by
 obtain ⟨hz,hTI,⟨a,b,hTO⟩,⟨l1,e1,h1⟩,⟨l2,e2,h2⟩⟩:=x;exact ⟨k _ (by simp) _ hz,k _ (by simp) _ hTI,⟨a,b,k _ (by simp) _ hTO⟩,⟨l1,e1,h1.at fun o e=>k _ (by simp) o e⟩,⟨l2,e2,h2.at fun o e=>k _ (by simp) o e⟩⟩
theorem ZipSt.ext{ρ:List Addr}{k1 k2 i n:Nat}{h:Heap}(x:ZipSt ρ k1 k2 i n h)(new:List Addr):ZipSt (ρ++new) k1 k2 i n h:=by
 obtain ⟨hz,hTI,hTO,⟨l1,e1,h1⟩,⟨l2,e2,h2⟩⟩:=x;exact ⟨hz,hTI,hTO,⟨l1,ZaX e1 new,h1⟩,⟨l2,ZaX e2 new,h2⟩⟩
theorem ZipSt.alive{ρ:List Addr}{k1 k2 i n:Nat}{h:Heap}(x:ZipSt ρ k1 k2 i n h):∀a∈zw n,∃o,h.get? a=some o:=by
 obtain ⟨hz,hTI,⟨a,b,hTO⟩,⟨l1,e1,⟨o1,h1,_⟩⟩,⟨l2,e2,⟨o2,h2,_⟩⟩⟩:=x;intro b hb;simp only[zw,List.mem_cons,List.not_mem_nil,or_false] at hb;rcases hb with rfl | rfl | rfl | rfl | rfl
 · exact ⟨_,h1⟩
 · exact ⟨_,h2⟩
 · exact ⟨_,hTI⟩
 · exact ⟨_,hTO⟩
 · exact ⟨_,hz⟩
theorem IsIt.zip{k1 k2 n:Nat}(hg:∀a∈zw n,g.get? a=none):IsIt g (zw n) (fun ρ j h=>ZipSt ρ k1 k2 j n h):=⟨fun x k new=>(x.keep k).ext new,fun x=>x.alive,hg⟩
theorem zipApart{n l1 l2:Addr}(h1:l1∉zw n)(h2:l2∉zw n):ZipApart (n+4) (n+2) (n+3) n (n+1) l1 l2:=by
 simp only[zw,List.mem_cons,List.not_mem_nil,or_false,not_or] at h1 h2;have e:∀{a b:Addr},(a:Nat)≠b→a≠b:=fun x=>x;refine ⟨?_,?_,?_,?_,?_,?_,?_,?_,?_,?_,h1.2.2.2.2,h1.2.2.2.1,h1.1,h1.2.1,h2.2.2.2.2,h2.2.2.2.1,h2.1,h2.2.1⟩<;>(intro q;have q':(_:Nat)=_:=q;lia)
noncomputable def ZhD(k1 k2 i:Nat)(hp:Hp):Option (Option (MV×MV)):=match hp[k1]?,hp[k2]? with
 | some (.list xs),some (.list ys)=>(match xs[i]?,ys[i]? with
  | some x,some y=>some (some (x,y))
  | none,_=>some none
  | _,none=>some none)
 | _,_=>none
theorem Zlh{ρ:List Addr}{hp:Hp}{k1 k2 i n:Nat}{s:Shared}{A:Around}{Q:Option Value→Shared→Prop}{Ee:Value→Shared→Prop}{r:Option (MV×MV)}(R:Rel w g ρ hp s.heap)(hA:A.handled=none)
 (hn:∀a∈zw n,a∉ρ) (it:ZipSt ρ k1 k2 i n s.heap) (e:ZhD k1 k2 i hp=some r)
 (hQ:match r with
  | none=>∀h',(∀b o,b∉zw n→s.heap.get? b=some o→h'.get? b=some o)→Q none {s with heap:=h'}
  | some (x,y)=>∀h' T vx vy,VR ρ x vx→VR ρ y vy→(∀b o,b∉zw n→s.heap.get? b=some o→h'.get? b=some o)→h'.IsTuple T #[vx,vy]→T∉zw n→IsZip h' (n+4) (n+2) (n+3) (rawInt T)→(∀h'',(∀b o,b≠n+4→h'.get? b=some o→h''.get? b=some o)→IsZip h'' (n+4) (n+2) (n+3) .none→ZipSt ρ k1 k2 (i+1) n h'')→Q (some (.ref T)) {s with heap:=h'}):
 wpAny (model pE w) A (pyNext (.ref (n+4))) Q Ee s:=by
 have al:=it.alive;obtain ⟨hz,hTI,⟨a,b,hTO⟩,⟨l1,e1,h1⟩,⟨l2,e2,h2⟩⟩:=it;refine iW2 e fun xs ys q1 q2 e=>?_;refine Qs (R.list q1 (v:=.ref l1) ⟨l1,e1,rfl⟩) fun l1' vs1 ea1 he1 hl1 x1=>?_;cases he1
 refine Qs (R.list q2 (v:=.ref l2) ⟨l2,e2,rfl⟩) fun l2' vs2 ea2 he2 hl2 x2=>?_;cases he2
 have D:=zipApart (fun hm=>hn l1 hm (List.mem_of_getElem? e1)) (fun hm=>hn l2 hm (List.mem_of_getElem? e2));have nm:∀{b:Addr},b∉zw n→b≠n+4∧b≠n+3∧b≠n∧b≠n+1:=fun {b} hb=>by
  simp only[zw,List.mem_cons,List.not_mem_nil,or_false,not_or] at hb;exact p0_4 hb.2.2.2.2 hb.2.2.2.1 hb.1 hb.2.1
 cases q3:xs[i]? with
 | none=>
  rw[q3] at e;refine oi1 e fun yq=>?_;subst yq;exact wpAny_pyNext_zip_end hA D hz hTI hTO h1 h2 (Zaa hl1) (Zaa hl2) (.inl (by
   have:=List.getElem?_eq_none_iff.mp q3;simp[x1.len];lia)) fun h' hk=>hQ h' fun b o hb e=>hk b o (nm hb).1 (nm hb).2.1 (nm hb).2.2.1 (nm hb).2.2.2 e
 | some x=>cases q4:ys[i]? with
  | none=>
   rw[q3,q4] at e;have q3:=q4;refine oi1 e fun yq=>?_;subst yq;exact wpAny_pyNext_zip_end hA D hz hTI hTO h1 h2 (Zaa hl1) (Zaa hl2) (.inr (by
    have:=List.getElem?_eq_none_iff.mp q3;simp[x2.len];lia)) fun h' hk=>hQ h' fun b o hb e=>hk b o (nm hb).1 (nm hb).2.1 (nm hb).2.2.1 (nm hb).2.2.2 e
  | some y=>
   rw[q3,q4] at e;refine oi1 e fun yq=>?_;subst yq;refine ZJ (x1.at i x q3) fun vx f1 f2=>?_;refine ZJ (x2.at i y q4) fun vy f3 f4=>?_;refine wpAny_pyNext_zip_item D hz hTI hTO h1 h2 (Zaa hl1) (Zaa hl2) (by simpa using f1) (by simpa using f3) fun h' a1 a2 a3 a4 a5 a6 hk=>?_;have hT:s.heap.objs.size∉zw n:=fun hm=>by
    refine ZW (al _ hm) fun o ho=>?_;exact Nat.lt_irrefl _ (Heap.lt_size ho)
   have sTI:=hk (n+2) _ (by intro q;have q':n+2=n+4:=q;lia) (by intro q;have q':n+2=n+3:=q;lia) (by intro q;have q':n+2=n:=q;lia) (by intro q;have q':n+2=n+1:=q;lia) hTI;refine hQ h' _ vx vy f2 f4 (fun b o hb e=>hk b o (nm hb).1 (nm hb).2.1 (nm hb).2.2.1 (nm hb).2.2.2 e) ⟨_,a5,rfl,_,rfl⟩ hT a1 fun h'' k'' z''=>?_;refine ⟨z'',k'' _ _ ?_ sTI,⟨_,_,k'' _ _ ?_ a2⟩,⟨l1,e1,a3.at fun o e=>k'' _ o ?_ e⟩,⟨l2,e2,a4.at fun o e=>k'' _ o ?_ e⟩⟩<;>(intro q;have q':(_:Nat)=_:=q;lia)
noncomputable def ZdU(k1 k2:Nat)(k:Nat)(t:TF)(f:EF):Nat→Nat→Hp→Option Hp
 | 0,_,_=>none
 | n+1,i,hp=>match ZhD k1 k2 i hp with
  | some none=>some hp
  | some (some (x,y))=>(match t [some x,some y] hp with
   | some (false,hp2)=>ZdU k1 k2 k t f n (i+1) hp2
   | some (true,hp2)=>(match f [some x,some y] hp2 with
    | some (u,hp3)=>(match Zas k u hp3 with
     | some hp4=>ZdU k1 k2 k t f n (i+1) hp4
     | none=>none)
    | none=>none)
   | none=>none)
  | none=>none
theorem zipI{β:Type}{o:Option (Option (MV×MV))}{o1:Option β}{F:MV→MV→Option β}{x:β}{G:Prop}(q:(match o with | some none=>o1 | some (some (x,y))=>F x y | none=>none)=some x)(f:o=some none→o1=some x→G)(f2:∀a b,o=some (some (a,b))→F a b=some x→G):G:=by
 cases o with
 | none=>exact nn q
 | some m=>cases m with
  | none=>exact f rfl q
  | some m=>cases m with
   | mk a b=>exact f2 a b rfl q
noncomputable def zipE(a:AF)(t:TF)(f:EF)(N:Nat):EF:=fun ℓ hp=>match a ℓ hp with
 | some ([.ref k1,.ref k2],hp1)=>(match hp1[k1]?,hp1[k2]? with
  | some (.list _),some (.list _)=>(match ZdU k1 k2 hp1.length t f N 0 (hp1++[.list []]) with
   | some hp2=>some (.ref hp1.length,hp2)
   | none=>none)
  | _,_=>none)
 | _=>none
noncomputable def EnvD.comp2(E:EnvD)(scope:Scope)(x y:Str)(cl:List (Str×Nat)):EnvD:=⟨ZE scope E.scope,[x,y],cl,E.code,E.qual⟩
theorem DE.zip(N:Nat)(B:Bs w g mg mb){a b xz:Str}{pa pb tp pz pc pos:Pos}{kk:Nat}{args:List PySem.Expr}{elt tst:PySem.Expr}{scope:Scope}(cl:List (Str×Nat)){fa:AF}{t:TF}{f:EF}
 (hz:DE w g c E (.Name xz pz) (Zb (.glob (.type "zip")))) (da:DA w g c E args fa) (dt:DT w g c (E.comp2 scope a b cl) tst t) (df:DE w g c (E.comp2 scope a b cl) elt f)
 (hk:scope.kind=.function) (hcell:∀y∈scope.names,y.2≠.cell) (hxa:(ZE scope E.scope).names.lookup a=some .local) (hxb:(ZE scope E.scope).names.lookup b=some .local) (hab:a≠b)
 (hf:∀n,(n,NameKind.free)∈scope.names→(E.cells.lookup n).isSome=true) (hcl:Zae E.cells scope cl)
 (hnames:∀y∈scope.names,y.2=.local→scope.names.lookup y.1=some .local) (hs:∀env x,foldedSetIterable (.Call (.Name xz pz) args [] pc) env x=pure x):
 DE w g c E (.ListComp elt [⟨.Tuple [.Name a pa,.Name b pb] kk tp,.Call (.Name xz pz) args [] pc,[tst],0⟩] scope pos) (zipE fa t f N):=by
 intro ℓ hp mv hp' q;revert q;refine jArr fun k1 k2 hp1 q1 q=>?_;revert q;refine jW2 fun xs1 xs2 g1 g2 q=>?_;revert q;refine jH fun hp2 q2 qa=>?_;refine oi2 qa fun yq yr=>?_;subst yq yr;intro ρ env s A Q Ee S hA h;rw[eval_ListComp];refine wpAny_comprehension_free (use:=none) rfl (hs env) (ZaQ (Zbf S.cl hf)) hk hnames ?_;refine wpAny_Call_ofName (hz _ _ _ _ rfl ρ env s A _ Ee S hA fun va h0 tk0 ρ0 P0 v0=>?_);cases v0
 refine PySem.callWith_type (ZaB (da.2 env)) (Zam (da.2 env) (da.1 _ _ _ _ q1 ρ0 env pc _ A _ Ee (S.post P0) hA fun vs' h1 tk1 ρ1 P1 v1=>?_));refine vr2 v1 fun υ υ va vb=>?_;refine vrR va fun l1 ea1=>?_;refine vrR vb fun l2 ea2=>?_;refine Qs (P1.rel.list (s:={s with heap:=h1,toks:=tk1}) g1 (v:=.ref l1) ⟨l1,ea1,rfl⟩) fun l1' vs1 fa1 he1 hl1 x1=>?_;cases he1
 refine Qs (P1.rel.list (s:={s with heap:=h1,toks:=tk1}) g2 (v:=.ref l2) ⟨l2,ea2,rfl⟩) fun l2' vs2 fa2 he2 hl2 x2=>?_;cases he2
 refine call_zip_2 (Zaa hl1) (Zaa hl2) fun hh z1 z2 z3 z4 z5 z6 z7=>?_;refine wpAny_pyIter_zip z1 ?_;revert z1 z2 z3 z4 z5 z6;refine genh (h1.objs.size) fun n hn z1 z2 z3 z4 z5 z6=>?_;have P01:=P0.trans P1;have Pz:Post w g ρ s.heap ρ1 hp1 hh:=P01.trans (P1.rel.keep z7);have hnone:∀x∈zw n,h1.get? x=none:=fun x hx=>by
  cases e:h1.get? x with
  | none=>rfl
  | some o=>
   have:=Heap.lt_size e;rw[hn] at this;simp only[zw,List.mem_cons,List.not_mem_nil,or_false] at hx;have t':n≤x:=by rcases hx with rfl | rfl | rfl | rfl | rfl<;>first | exact Nat.le_refl _ | exact Nat.le_add_right _ _
   exact absurd this (Nat.not_lt.mpr t')
 have hsn:∀x∈zw n,s.heap.get? x=none:=fun x hx=>P01.notin_none S.rel (hnone x hx);have hnρ:∀x∈zw n,x∉ρ1:=fun x hx=>P1.rel.notin_none (hnone x hx);have hgn:∀x∈zw n,g.get? x=none:=fun x hx=>Zak P1.rel.base (hnone x hx);have it0:ZipSt ρ1 k1 k2 0 n hh:=⟨z1,z2,⟨_,_,z3⟩,⟨l1,ea1,z4⟩,⟨l2,ea2,z5⟩⟩;have S1:=S.post Pz;have hcs:CR ρ1 cl (Zbg env.cells scope.names []):=S1.cl.from hcl;clear z1 z2 z3 z4 z5 z6 z7 hl1 hl2 x1 x2 fa1 fa2 ea1 ea2;refine Zga (s:={s with heap:=hh,toks:=tk1}) (K:=fun acc cenv s₄=>codeAny (model pE w) A (.compStart (.ListComp elt [⟨.Tuple [.Name a pa,.Name b pb] kk tp,.Call (.Name xz pz) args [] pc,[tst],0⟩] scope pos) 0 (.ref (n+4)) acc cenv) (compPost (model pE w) A Ee none Q acc cenv.locals) s₄) (sl:=[a,b]) 2 hk hcell S1 hcs (IsIt.zip hgn) hnρ it0 fun D cenv ρ0 h0 P0' hC hD X0=>?_;have loop:codeAny (model pE w) A (.compLoop (.ListComp elt [⟨.Tuple [.Name a pa,.Name b pb] kk tp,.Call (.Name xz pz) args [] pc,[tst],0⟩] scope pos) 0 (.ref (n+4)) (.ref D) cenv) (compPost (model pE w) A Ee none Q (.ref D) cenv.locals) {s with heap:=h0,toks:=tk1}:=by
  refine X0.pkc (ℓ0:=[none,none]) (F:=ZdU k1 k2 hp1.length t f) (r:=hp') (s:=s) 0 (fun υ υ=>rfl) fun J hJ he=>?_;refine kct_loop J (he _ fun m ρ2 hp3 h2 tk2 j X q2 hT2=>?_) N (hJ N _ _ _ _ tk1 0 X0 (wkn 2 _) q2 (Nat.zero_le _));refine zipI q2 (fun q3 q4=>?_) fun mx my q3 q4=>?_
  · exact Zlh X.S.rel hA.hd X.n X.it q3 fun h3 k3=>Qe (X.en k3) fun P S'=>oi1 q4 fun e=>Zgb (s:=s) Pz S hsn h (CI.ce P0' hC hD X0 (e▸P) (e▸S'))
  · refine Zlh X.S.rel hA.hd X.n X.it q3 fun h3 T vx vy rx ry k3 hT hTz hzT hmk=>?_;dsimp only;refine wpAny_letOwnedTupleGo_zip hzT fun h4 hz4 hs4=>?_;have z4:n+4∈zw n:=by simp
    have X4:=X.nx (fun b o hb e=>hs4.extBut b o (fun qa=>hb (qa▸z4)) (k3 b o hb e)) (hmk h4 (fun b o hb e=>hs4.extBut b o hb e) hz4);have S4:=X4.S;refine ZJ S4.loc fun m' hm' υ=>?_;refine kcp_assign (m:=m') hA.hd (Exists.elim hT fun oT e=>⟨oT,hs4.extBut _ _ (fun qa=>hTz (qa▸z4)) e.1,e.2⟩) (by unfold Env.kindOf;rw[S4.sc];exact hxa) (by unfold Env.kindOf;rw[S4.sc];exact hxb) (by rw[S4.sc,S4.fn];rfl) hm' fun h5 tk5 hm5 k5=>?_;have P5:PostW w g [cenv.locals] ρ2 h4 ρ2 hp3 h5:=S4.rel.writeW S4.Lρ S4.Lg k5;have X5:=X4.wr P5 (ℓ':=[some mx,some my]) ⟨P5.rel,S4.sc,S4.fn,S4.gl,S4.bi,S4.cd,S4.qu,S4.cl,S4.Lρ,S4.Lg,_,hm5,fun i y v e1 e2=>by
     cases i with
     | zero=>
      cases e1;cases e2
      exact Qd vx (by simp[hab]) rx
     | succ i=>cases i with
      | zero=>
       cases e1;cases e2
       exact Qd vy (by simp) ry
      | succ i=>cases e2⟩
    exact X5.bd hA (Nat.zero_le _) (fun b hp' Q e=>dt _ _ _ _ e _ _ _ _ Q _ X5.S hA) df.t0 hD q4 fun ρ5 hp5 h5 tk5 X5 q5 hT5=>Qd m (Nat.lt_succ_self m) (hJ m _ _ _ _ _ _ X5 (wkn 2 _) q5 hT5)
 exact codeAny_compStart_list loop (wpAny_pyIter_zip X0.it.hz loop)
end
end
section
section
variable {w:World} {g:Heap} {c:Nat} {E:EnvD} {mg mb:Str→Option Value}
noncomputable abbrev TgF:=MV→Loc→Hp→Option (Loc×Hp)
noncomputable def DTS(w:World)(g:Heap)(E:EnvD)(x:Str)(mv:MV)(ℓ:Loc)(hp:Hp)(ℓ':Loc)(hp':Hp):Prop:=∀(ρ:List Addr) (env:Env) (s:Shared) (A:Around) (Q:Unit→Shared→Prop) (Ee:Value→Shared→Prop) (v:Value),
 St w g E ρ hp ℓ env s.heap→VR ρ mv v→(∀h' tk,PostW w g [env.locals] ρ s.heap ρ hp' h'→St w g E ρ hp' ℓ' env h'→Q () {s with heap:=h',toks:=tk})→wpAny (model pE w) A (storeName env x v) Q Ee s
noncomputable def DT1(w:World)(g:Heap)(E:EnvD)(x:Str)(f:TgF):Prop:=∀mv ℓ hp ℓ' hp',f mv ℓ hp=some (ℓ',hp')→DTS w g E x mv ℓ hp ℓ' hp'
noncomputable def tgL(i:Nat):TgF:=fun v ℓ hp=>some (ℓ.set i (some v),hp)
noncomputable def tgC(k:Nat):TgF:=fun v ℓ hp=>match Zlr k v hp with
 | some hp'=>some (ℓ,hp')
 | none=>none
theorem DT1.loc(i:Nat){x:Str}(hi:E.slots[i]?=some x)(hk:E.scope.names.lookup x=some .local)(hn:E.slots.Nodup):DT1 w g E x (tgL i):=by
 intro mv ℓ hp ℓ' hp' q;refine iS q ?_;intro ρ env s A Q Ee v S hv h;exact Zbw hi hk hn S hv h
theorem DT1.cell{k:Nat}{x:Str}(hk:E.scope.names.lookup x=some .cell)(hc:E.cells.lookup x=some k):DT1 w g E x (tgC k):=by
 intro mv ℓ hp ℓ' hp' q;revert q;refine jH fun hp2 q2 qa=>?_;refine iS qa ?_;intro ρ env s A Q Ee v S hv h;exact Zcj hk hc S hv q2 fun h' P=>h h' s.toks P.toW (S.post P)
inductive TgL (w:World) (g:Heap) (E:EnvD):List Str→List TgF→Prop where
 | nil:TgL w g E [] []
 | cons {x f xs fs}:DT1 w g E x f→TgL w g E xs fs→TgL w g E (x::xs) (f::fs)
noncomputable def ZeJ:List TgF→List MV→Loc→Hp→Option (Loc×Hp)
 | [],[],ℓ,hp=>some (ℓ,hp)
 | t::ts,v::vs,ℓ,hp=>(match t v ℓ hp with
  | some (ℓ1,hp1)=>ZeJ ts vs ℓ1 hp1
  | none=>none)
 | _,_,_,_=>none
theorem ZbH{env:Env}{A:Around}{Ee:Value→Shared→Prop}{ι:Type}{nm:ι→Str}{mk:ι→Value→Sem Unit}(hmk:∀i v (Q:Unit→Shared→Prop) s,wpAny (model pE w) A (storeName env (nm i) v) Q Ee s→wpAny (model pE w) A (mk i v) Q Ee s):
 ∀{is:List ι} {fs:List TgF},TgL w g E (is.map nm) fs→∀{mvs:List MV} {vs:List Value} {ℓ:Loc} {hp:Hp} {ℓ':Loc} {hp':Hp} {ρ:List Addr} {s:Shared} {Q:Unit→Shared→Prop},ZeJ fs mvs ℓ hp=some (ℓ',hp')→VRs ρ mvs vs→
  St w g E ρ hp ℓ env s.heap→(∀h' tk,PostW w g [env.locals] ρ s.heap ρ hp' h'→St w g E ρ hp' ℓ' env h'→Q () {s with heap:=h',toks:=tk})→wpAny (model pE w) A (assignInOrder (is.map mk) vs) Q Ee s
 | [],fs,T,mvs,vs,ℓ,hp,ℓ',hp',ρ,s,Q,q,hv,S,h=>by
  cases T
  cases mvs with
  | cons x r=>cases q
  | nil=>
   refine oi2 q fun yq yr=>?_;subst yq yr;exact assignInOrder_nil (h s.heap s.toks S.rel.post.toW S)
 | i::is,fs,T,mvs,vs,ℓ,hp,ℓ',hp',ρ,s,Q,q,hv,S,h=>by
  cases T with
  | cons d T=>
  rename_i f fs;cases hv with
  | nil=>cases q
  | cons hx hr=>
   revert q;refine jL fun ℓ1 hp1 q1 q=>?_;refine assignInOrder_cons (hmk _ _ _ _ (d _ _ _ _ _ q1 ρ env s A _ Ee _ S hx fun h1 tk1 P1 S1=>?_));refine ZbH hmk T q hr S1 fun h2 tk2 P2 S2=>?_;exact h h2 tk2 (St.transW P1 S1 P2) S2
noncomputable def tupS(a:AF)(tg:List TgF):SF:=fun ℓ hp=>match a ℓ hp with
 | some (vs,hp1)=>if vs.length=tg.length then (match ZeJ tg.reverse vs.reverse ℓ hp1 with
  | some (ℓ2,hp2)=>some (.norm,ℓ2,hp2)
  | none=>none) else none
 | none=>none
theorem TgL.append{xs ys:List Str}{fs gs:List TgF}(h:TgL w g E xs fs)(h2:TgL w g E ys gs):TgL w g E (xs++ys) (fs++gs):=by
 induction h with
 | nil=>exact h2
 | cons d _ ih=>exact .cons d ih
theorem TgL.reverse{xs:List Str}{fs:List TgF}(h:TgL w g E xs fs):TgL w g E xs.reverse fs.reverse:=by
 induction h with
 | nil=>exact .nil
 | cons d _ ih=>rw[List.reverse_cons,List.reverse_cons];exact ih.append (.cons d .nil)
theorem TgL.len{xs:List Str}{fs:List TgF}(h:TgL w g E xs fs):xs.length=fs.length:=by
 induction h with
 | nil=>rfl
 | cons d _ ih=>simp[ih]
theorem DS1.tupSwap{names:List Str}{elts vals:List PySem.Expr}{k kk:Nat}{tp tp2 pos:Pos}{a:AF}{tg:List TgF}(da:DA w g c E vals a)(T:TgL w g E names tg)(hlen:names.length≤100)
 (hs:∀env:Env,env.scope=E.scope→swapsWithSole [.Tuple elts k tp] (.Tuple vals kk tp2) pos.line env=pure false)
 (hw:∀env:Env,env.scope=E.scope→swappedStores [.Tuple elts k tp] (.Tuple vals kk tp2) env=pure (some names)):DS1 w g c E (.Assign [.Tuple elts k tp] (.Tuple vals kk tp2) pos) (tupS a tg):=by
 intro ℓ hp k ℓ' hp' q;revert q;refine jA fun vs hp1 q1 qa=>?_;revert qa;refine jI fun hl qb=>?_;revert qb;refine jL fun ℓ2 hp2 q2 qc=>?_;refine iT qc ?_;intro ρ env s A Q Ee S hA h;refine Assign_Tuple_swapped (wpAny_Tuple_spliced (da.1 _ _ _ _ q1 ρ env tp2 s A _ Ee S hA fun vs' h1 tk1 ρ1 P1 v1=>?_)) (hs env S.sc) (hw env S.sc);have hn:vs'.toArray.size=names.length:=by rw[List.size_toArray,v1.len,hl,T.len]
 refine ⟨by rw[v1.len,hl,← T.len];unfold sizeLine;lia,?_⟩;rw[← hn];have P2:Post w g ρ1 h1 ρ1 hp1 (h1.push {cls:=.type "tuple", data:=.seq vs'.toArray}):=P1.rel.keep fun b o e=>Heap.get?_push_of_some _ e;refine wpAny_unpackItems_tuple hA.hd ⟨_,Heap.get?_push_size _ rfl,rfl,_,rfl⟩ fun h3 x3=>?_;have P3:Post w g ρ1 (h1.push {cls:=.type "tuple", data:=.seq vs'.toArray}) ρ1 hp1 h3:=P2.rel.keep fun b o e=>x3 b o (Nat.ne_of_lt (Heap.lt_size e)) e;have PP:=P1.trans (P2.trans P3);have v3:VRs ρ1 vs.reverse vs'.toArray.toList.reverse:=by simpa using v1.reverse
 have T':TgL w g E (names.reverse.map id) tg.reverse:=by simpa using T.reverse
 refine ZbH (nm:=id) (mk:=fun n=>bindName env n) (fun i v Q s h=>bindName_ h) T' q2 v3 (S.post PP) fun h4 tk4 P4 S4=>?_;exact h .next h4 tk4 ρ1 rfl (St.transW PP.toW (S.post PP) P4) S4
theorem Zpl{it l:Addr}{items:Array Value}{A:Around}{Ee:Value→Shared→Prop}(hne:l≠it):∀(n i:Nat) (s:Shared) (Q:List Value→Shared→Prop),s.heap.IsListIter it l i→s.heap.IsList l items→i+n≤items.size→
 (∀h',h'.IsListIter it l (i+n)→Heap.ExtBut it s.heap h'→Q ((items.toList.drop i).take n) {s with heap:=h'})→wpAny (model pE w) A (draw (.ref it) n) Q Ee s:=by
 intro n;induction n with
 | zero=>
  intro i s Q hit υ υ hQ;show wpAny _ _ (pure []) Q Ee s
  exact wpAny_pure (by simpa using hQ s.heap hit (fun b o υ e=>e))
 | succ n ih=>
  intro i s Q hit ht hle hQ;have hlt:i < items.size:=by lia
  show wpAny _ _ (pyNext (.ref it)>>=_) Q Ee s
  refine wpAny_bind (wpAny_pyNext_list_item hit ht (x:=items[i]) (by simp[hlt]) fun h₁ hit₁ hs₁=>?_);refine wpAny_bind (wpAny_holding (ih (i+1) _ _ hit₁ (ht.extBut hs₁.extBut hne) (by lia) fun h₂ hit₂ hs₂=>wpAny_pure ?_));have hd:items.toList.drop i=items[i]::items.toList.drop (i+1):=by simp[List.drop_eq_getElem_cons,hlt]
  have:=hQ h₂ (by rw[show i+(n+1)=i+1+n by lia];exact hit₂) (fun b o hb e=>hs₂ b o hb (hs₁.extBut b o hb e));rw[hd,List.take_succ_cons] at this;exact this
theorem Zeb{t:Addr}{items:Array Value}{s:Shared}{A:Around}{Ee:Value→Shared→Prop}{Q:List Value→Shared→Prop}(hh:A.handled=none)(ht:s.heap.IsList t items)
 (hQ:∀h',Heap.ExtBut s.heap.objs.size s.heap h'→Q items.toList {s with heap:=h'}):wpAny (model pE w) A (unpackItems (.ref t) items.size none) Q Ee s:=by
 have hlt:t≠s.heap.objs.size:=by obtain ⟨o,ho,_⟩:=ht;exact Nat.ne_of_lt (Heap.lt_size ho)
 unfold unpackItems;refine wpAny_bind ?_
 · unfold notIterableAtAll;refine wpAny_bind (wpAny_specialOf ht.typeIs slot_list_iter.lookup ?_);refine wpAny_pure ?_;simp only[Bool.false_eq_true,if_false];refine wpAny_bind (wpAny_holding (wpAny_pyIter_list ht ?_));refine wpAny_bind (wpAny_holding (Zpl hlt items.size 0 _ _ ⟨_,Heap.get?_push_size _ rfl,rfl,rfl⟩ (ht.push _) (by lia) fun h₁ hit₁ hs₁=>?_));have hall:List.take items.size (List.drop 0 items.toList)=items.toList:=by
    rw[List.drop_zero];exact List.take_of_length_le (by simp)
   rw[hall];rw[if_neg (by simp)];have ht₁:h₁.IsList t items:=(ht.push _).extBut hs₁ hlt;refine wpAny_bind (wpAny_holding (wpAny_pyNext_list_end hh hit₁ ht₁ (by simp) fun h₂ he₂=>?_));simp only[Option.isSome_none,Bool.false_eq_true,if_false];refine wpAny_pure (hQ h₂ fun b o hb e=>he₂ b o hb (hs₁ b o hb (Heap.get?_push_of_some _ e)))
noncomputable def unlS(f:EF)(tg:List TgF):SF:=fun ℓ hp=>match f ℓ hp with
 | some (.ref k,hp1)=>(match hp1[k]? with
  | some (.list vs)=>if vs.length=tg.length then (match ZeJ tg vs ℓ hp1 with
   | some (ℓ2,hp2)=>some (.norm,ℓ2,hp2)
   | none=>none) else none
  | _=>none)
 | _=>none
theorem DS1.unpackL{is:List (Str×Pos)}{e:PySem.Expr}{k:Nat}{tp pos:Pos}{f:EF}{tg:List TgF}(d:DE w g c E e f)(T:TgL w g E (is.map (·.1)) tg){elts:List PySem.Expr}
 (he:∀env,(assignEach elts env)=is.map fun i=>(false,PySem.assign (.Name i.1 i.2) env))
 (hs:∀env:Env,env.scope=E.scope→swapsWithSole [.Tuple elts k tp] e pos.line env=pure false)
 (hw:∀env:Env,env.scope=E.scope→swappedStores [.Tuple elts k tp] e env=pure none):DS1 w g c E (.Assign [.Tuple elts k tp] e pos) (unlS f tg):=by
 intro ℓ hp k ℓ' hp' q;revert q;refine jVr fun kk hp1 q1 q=>?_;revert q;refine jW fun vs q0 q=>?_;revert q;refine jI fun hl q=>?_;revert q;refine jL fun ℓ2 hp2 q2 q=>?_;refine iT q ?_;intro ρ env s A Q Ee S hA h;refine Assign_Tuple (d _ _ _ _ q1 ρ env s A _ Ee S hA fun va h1 tk1 ρ1 P1 v1=>?_) (hs env S.sc) (hw env S.sc);refine Qs (P1.rel.list (s:={s with heap:=h1,toks:=tk1}) q0 v1) fun ad vs' ea yq hl1 x1=>?_;subst yq;rw[arm_assign_Tuple];refine wpAny_bind (wpAny_standAt ?_);unfold unpack;have hlen:(assignEach elts env).length=vs'.toArray.size:=by rw[he,List.length_map,List.size_toArray,x1.len,hl,← T.len,List.length_map]
 have hstar:(assignEach elts env).findIdx? (·.1)=none:=by
  rw[he];apply List.findIdx?_eq_none_iff.mpr
  intro x hx;refine ZJ (List.mem_map.mp hx) fun i υ yq=>?_;subst yq;rfl
 rw[hlen,hstar];refine wpAny_bind (wpAny_holding (Zeb hA.hd (Zaa hl1) fun h3 x3=>?_));have P3:Post w g ρ1 h1 ρ1 hp1 h3:=P1.rel.keep fun b o e=>x3 b o (Nat.ne_of_lt (Heap.lt_size e)) e;have PP:=P1.trans P3;rw[he,List.map_map];refine ZbH (nm:=fun i:Str×Pos=>i.1) (mk:=fun i:Str×Pos=>PySem.assign (.Name i.1 i.2) env) (fun i v Q s h=>assign_Name h) T q2 (by simpa using x1) (S.post PP) fun h4 tk4 P4 S4=>?_;exact h .next h4 tk4 ρ1 rfl (St.transW PP.toW (S.post PP) P4) S4
end
end
section
section
variable {w:World} {g:Heap} {c:Nat} {E:EnvD} {ρ ρ':List Addr} {hp hp':Hp} {mg mb:Str→Option Value}
noncomputable def Zee(src:Src)(tg:TgF)(f:SF):Nat→Nat→SF
 | 0,_,_,_=>none
 | n+1,i,ℓ,hp=>match src.item i hp with
  | some none=>some (.norm,ℓ,hp)
  | some (some v)=>(match tg v ℓ hp with
   | some (ℓ1,hp1)=>(match f ℓ1 hp1 with
    | some (.norm,ℓ2,hp2)=>Zee src tg f n (i+1) ℓ2 hp2
    | some (.ret v,ℓ2,hp2)=>some (.ret v,ℓ2,hp2)
    | none=>none)
   | none=>none)
  | none=>none
noncomputable def Zbr(it:IF)(tg:TgF)(f:SF)(N:Nat):SF:=fun ℓ hp=>match it ℓ hp with
 | some (src,hp1)=>Zee src tg f N 0 ℓ hp1
 | none=>none
theorem CI.fb{W:List Addr}{IT:List Addr→Nat→Heap→Prop}{ρ0:List Addr}{h0:Heap}{ℓ ℓ':Loc}{j:Nat}{env:Env}{s:Shared}{A:Around}{k:Ctl}{f:SF}{F:Loc→Hp→Option (Ctl×Loc×Hp)}{b:List Stmt}{J:Shared→Prop}{R:Flow→Shared→Prop}{Ee:Value→Shared→Prop}(X:CI w g E env W IT ρ0 h0 ρ hp ℓ s.heap j)(hA:AOK c A)(d:DS w g c E b f)
 (q:(match f ℓ hp with
  | some (.norm,ℓ2,hp2)=>F ℓ2 hp2
  | some (.ret v,ℓ2,hp2)=>some (.ret v,ℓ2,hp2)
  | none=>none)=some (k,ℓ',hp'))
 (h:∀(f:Flow) (h':Heap) (tk:Nat) (ρ':List Addr),FR ρ' k f→PostW w g (env.locals::W) ρ0 h0 ρ' hp' h'→St w g E ρ' hp' ℓ' env h'→R f {s with heap:=h',toks:=tk})
 (hJ:∀ρ' hp2 ℓ2 h' tk,CI w g E env W IT ρ0 h0 ρ' hp2 ℓ2 h' j→F ℓ2 hp2=some (k,ℓ',hp')→J {s with heap:=h',toks:=tk}):
 wpAny (model pE w) A (execs b env) (fun f s₃=>match f with
  | .next | .cont=>J s₃
  | .brk=>R .next s₃
  | .ret v=>R (.ret v) s₃) Ee s:=by
 cases e:f ℓ hp with
 | none=>rw[e] at q;exact nn q
 | some m=>cases m with
  | mk kk m=>cases m with
   | mk ℓ5 hp5=>
    rw[e] at q;refine d _ _ _ _ _ e ρ env _ _ _ _ X.S hA fun fl h5 tk5 ρ5 hf P5 S5=>?_;have X5:=X.wr P5 S5;cases kk with
    | norm=>
     cases hf
     exact hJ ρ5 hp5 ℓ5 h5 tk5 X5 q
    | ret v=>
     refine oi3 q fun yq yr y'3=>?_;subst yq yr y'3;refine ZJ hf fun x yq hx=>?_;subst yq;exact h _ h5 tk5 ρ5 ⟨x,rfl,hx⟩ X5.P S5
theorem DS1.forT(N:Nat){x:Str}{p' pos:Pos}{e:PySem.Expr}{b:List Stmt}{fi:IF}{f:SF}(di:DI w g c E e fi)(d:DS w g c E b f){tg:TgF}(ht:DT1 w g E x tg)
 (hs:∀env x,foldedSetIterable e env x=pure x):DS1 w g c E (.For (.Name x p') e b [] pos) (Zbr fi tg f N):=by
 intro ℓ hp k ℓ' hp' q;refine iR q fun src hp1 q1 qa=>?_;intro ρ env s A Q Ee S hA h;refine wpAny_For (di _ _ _ _ q1 ρ env s A _ Ee S hA fun I h1 tk1 ρ1 P1 hI hgI hsI it hal=>?_) (hs env);have S1:=S.post P1;have X0:CI w g E env [I] (ITs w src I) ρ1 h1 ρ1 hp1 ℓ h1 0:=⟨IsIt.src hgI,fun hm=>ZW S.alive fun o ho=>nn ((lms hm▸hsI).symm.trans ho),P1.rel.post.toW,S1,ZaN hI,it⟩;have fin:∀{ρ3:List Addr} {hp3:Hp} {h3:Heap},PostW w g [env.locals,I] ρ1 h1 ρ3 hp3 h3→PostW w g [env.locals] ρ s.heap ρ3 hp3 h3:=fun P=>PostW.mono (P1.toW.trans P (ZbP (.inl S1.alive) (ZaN (.inr hsI)))) (ZbP (.inl (.head _)) (ZaN (.inr hsI)));refine X0.pk (Z:=fun n j ℓ hp=>Zee src tg f n j ℓ hp=some (k,ℓ',hp')) (s:=s) 0 fun J hJ he=>?_;refine codeAny_forLoop_any J (he _ fun n ρ2 hp2 ℓ2 h2 tk2 j X q2 hT2=>?_) N (hJ N _ _ _ _ tk1 0 X0 qa (Nat.zero_le _));cases n with
 | zero=>exact nn q2
 | succ n=>
  refine X.src hA.hd hT2 q2 nofun (fun h3 tk3 e P S'=>?_) fun mv v h3 tk3 q3 hv hT3 X3=>?_
  · refine oi3 e fun yq yr y'3=>?_;subst yq yr y'3;exact wpAny_execs_nil (h .next h3 tk3 ρ2 rfl (fin P) S')
  · revert q3;refine jL fun ℓ4 hp4 q4 q3=>?_;refine wpAny_of_eq (a:=()) rfl (wpAny_assign_Name (ht _ _ _ _ _ q4 ρ2 env _ _ _ _ _ X3.S hv fun h4 tk4 P4 S4=>?_));exact (X3.wr P4 S4).fb (J:=fun s'=>∃m,m < n+1∧J m s') (R:=Q) hA d q3 (fun f h' tk ρ' hf P=>h f h' tk ρ' hf (fin P)) fun ρ5 hp5 ℓ5 h5 tk5 X5 q5=>Qd n (Nat.lt_succ_self _) (hJ n _ _ _ _ _ _ X5 q5 (Nat.zero_le _))
noncomputable abbrev ew(n:Nat):List Addr:=[n,n+1]
end
end
section
section
variable {w:World} {g:Heap} {c:Nat} {E:EnvD} {mg mb:Str→Option Value}
theorem ZkW(elt target iter:PySem.Expr)(g1:Comprehension)(ifs:List PySem.Expr)(scope:Scope)(pos:Pos)(it acc:Value)(env:Env):
 compTurn (.ListComp elt [g1,⟨target,iter,ifs,0⟩] scope pos) 1 it acc env=(do
  standAt iter.pos
  match ← pyNext it with
  | none=>pure (.done .next)
  | some v=>
   letOwnedTupleGo target it v
   PySem.assign target env v
   let mut ok:=true
   for c in ifs do
    if ok then ok ← isTrue c env (eval c env)
   if ok then
    (do let _ ← call (.builtin "list.append") [acc,← eval elt env])
   again (.compLoop (.ListComp elt [g1,⟨target,iter,ifs,0⟩] scope pos) 1 it acc env)):=by rfl
theorem Zjx(elt target iter target2 iter2:PySem.Expr)(ifs:List PySem.Expr)(scope:Scope)(pos:Pos)(it acc:Value)(env:Env):
 compTurn (.ListComp elt [⟨target,iter,[],0⟩,⟨target2,iter2,ifs,0⟩] scope pos) 0 it acc env=(do
  standAt iter.pos
  match ← pyNext it with
  | none=>pure (.done .next)
  | some v=>
   letOwnedTupleGo target it v
   PySem.assign target env v
   let x ← eval iter2 env
   standAt iter2.pos
   let x ← foldedSetIterable iter2 env x
   let _ ← runOwn (.compStart (.ListComp elt [⟨target,iter,[],0⟩,⟨target2,iter2,ifs,0⟩] scope pos) 1 (← holding [x] (pyIter x)) acc env) env
   again (.compLoop (.ListComp elt [⟨target,iter,[],0⟩,⟨target2,iter2,ifs,0⟩] scope pos) 0 it acc env)):=by rfl
theorem Zgd{A:Around}{R:Result→Shared→Prop}{s:Shared}{elt target iter:PySem.Expr}{g1:Comprehension}{ifs:List PySem.Expr}{scope:Scope}{pos:Pos}{it acc:Value}{env:Env}(I:Nat→Shared→Prop)
 (turn:∀n s,I n s→wpAny (model pE w) A (pyNext it) (fun r s₁=>match r with
  | none=>R (.ok .next) s₁
  | some v=>wpAny (model pE w) A (PySem.assign target env v) (fun υ s₂=>
   wpAny (model pE w) A (forIn ifs true fun c r=>if r=true then do let ok ← isTrue c env (eval c env);pure (ForInStep.yield ok) else pure (ForInStep.yield r)) (fun ok s₃=>
    if ok=true then wpAny (model pE w) A (eval elt env) (fun x s₄=>
     wpAny (model pE w) A (call (.builtin "list.append") [acc,x]) (fun υ s₅=>∃m,m < n∧I m s₅) (notedBy (model pE w) A env fun e s'=>R (.error e) s') s₄) (notedBy (model pE w) A env fun e s'=>R (.error e) s') s₃
    else ∃m,m < n∧I m s₃) (notedBy (model pE w) A env fun e s'=>R (.error e) s') s₂) (notedBy (model pE w) A env fun e s'=>R (.error e) s') s₁) (notedBy (model pE w) A env fun e s'=>R (.error e) s') s)
 (n:Nat) (h:I n s) (ht:∀v,letOwnedTupleGo target it v=pure ():=by intro υ;rfl):
 codeAny (model pE w) A (.compLoop (.ListComp elt [g1,⟨target,iter,ifs,0⟩] scope pos) 1 it acc env) R s:=by
 refine codeAny_loop rfl I (fun n s hI=>?_) n h;show wpAny _ A ((compTurn (.ListComp elt [g1,⟨target,iter,ifs,0⟩] scope pos) 1 it acc env).onRaise (fun x=>do noteFrame x env;theTreesLotGoes x)) _ _ s
 refine wpAny_noted ?_;rw[ZkW];refine wpAny_bind (wpAny_standAt (wpAny_bind (wpAny_mono (turn n s hI) (fun r s₁ h₁=>?_) fun υ υ h'=>h')));cases r with
 | none=>exact wpAny_pure h₁
 | some v=>
  refine wpAny_bind (wpAny_of_eq (ht v) ?_);refine wpAny_bind (wpAny_mono h₁ (fun υ s₂ h₂=>wpAny_bind (wpAny_mono h₂ (fun ok s₃ h₃=>?_) fun υ υ h'=>h')) fun υ υ h'=>h');cases ok with
  | false=>exact wpAny_pure ⟨rfl,h₃⟩
  | true=>
   exact wpAny_bind (wpAny_bind (wpAny_mono h₃ (fun x s₄ h₄=>wpAny_bind (wpAny_mono h₄ (fun υ s₅ h₅=>wpAny_pure (wpAny_pure ⟨rfl,h₅⟩)) fun υ υ h'=>h')) fun υ υ h'=>h'))
theorem Zeg{A:Around}{R:Result→Shared→Prop}{s:Shared}{elt target iter:PySem.Expr}{g1:Comprehension}{ifs:List PySem.Expr}{scope:Scope}{pos:Pos}{it acc:Value}{env:Env}
 (h0:codeAny (model pE w) A (.compLoop (.ListComp elt [g1,⟨target,iter,ifs,0⟩] scope pos) 1 it acc env) R s)
 (h:wpAny (model pE w) A (pyIter it) (fun it' s'=>codeAny (model pE w) A (.compLoop (.ListComp elt [g1,⟨target,iter,ifs,0⟩] scope pos) 1 it' acc env) R s')
  (notedBy (model pE w) A env fun x s'=>R (.error x) s') s):
 codeAny (model pE w) A (.compStart (.ListComp elt [g1,⟨target,iter,ifs,0⟩] scope pos) 1 it acc env) R s:=by
 refine codeAny_of_tree ?_;show wpAny _ _ ((compStart (.ListComp elt [g1,⟨target,iter,ifs,0⟩] scope pos) 1 it acc env).onRaise (fun x=>do noteFrame x env;standAt theWindowsPlace)) _ _ s
 refine wpAny_notedAt ?_;unfold compStart;show wpAny _ _ (ask>>=_) _ _ s
 refine wpAny_bind (wpAny_askSetting (wpAny_ite ?_));split
 · first
    | exact wpAny_bind (wpAny_pure (wpAny_pure (And.intro rfl h0)))
    | exact wpAny_pure (And.intro rfl h0)
 · first
    | exact wpAny_bind (wpAny_rule (wpAny_bind (wpAny_standAt (wpAny_bind (wpAny_mono h (fun it' s' h'=>wpAny_pure (And.intro rfl h')) fun υ υ x=>x)))))
    | exact wpAny_rule (wpAny_bind (wpAny_standAt (wpAny_bind (wpAny_mono h (fun it' s' h'=>wpAny_pure (And.intro rfl h')) fun υ υ x=>x))))
theorem Zeh{A:Around}{R:Result→Shared→Prop}{s:Shared}{elt target iter target2 iter2:PySem.Expr}{ifs:List PySem.Expr}{scope:Scope}{pos:Pos}{it acc:Value}{env:Env}(I:Nat→Shared→Prop)
 (hs:∀x,foldedSetIterable iter2 env x=pure x)
 (turn:∀n s,I n s→wpAny (model pE w) A (pyNext it) (fun r s₁=>match r with
  | none=>R (.ok .next) s₁
  | some v=>wpAny (model pE w) A (PySem.assign target env v) (fun υ s₂=>
   wpAny (model pE w) A (eval iter2 env) (fun x s₃=>wpAny (model pE w) A (pyIter x) (fun it2 s₄=>
    codeAny (model pE w) (A.mark none) (.compStart (.ListComp elt [⟨target,iter,[],0⟩,⟨target2,iter2,ifs,0⟩] scope pos) 1 it2 acc env) (fun r s'=>match r with
     | .ok f=>∃m,m < n∧I m s'
     | .error e=>cameBackBy (model pE w) A env (notedBy (model pE w) A env fun e s'=>R (.error e) s') e s') s₄)
    (notedBy (model pE w) A env fun e s'=>R (.error e) s') s₃) (notedBy (model pE w) A env fun e s'=>R (.error e) s') s₂) (notedBy (model pE w) A env fun e s'=>R (.error e) s') s₁) (notedBy (model pE w) A env fun e s'=>R (.error e) s') s)
 (n:Nat) (h:I n s) (ht:∀v,letOwnedTupleGo target it v=pure ():=by intro υ;rfl):
 codeAny (model pE w) A (.compLoop (.ListComp elt [⟨target,iter,[],0⟩,⟨target2,iter2,ifs,0⟩] scope pos) 0 it acc env) R s:=by
 refine codeAny_loop rfl I (fun n s hI=>?_) n h;show wpAny _ A ((compTurn (.ListComp elt [⟨target,iter,[],0⟩,⟨target2,iter2,ifs,0⟩] scope pos) 0 it acc env).onRaise (fun x=>do noteFrame x env;theTreesLotGoes x)) _ _ s
 refine wpAny_noted ?_;rw[Zjx];refine wpAny_bind (wpAny_standAt (wpAny_bind (wpAny_mono (turn n s hI) (fun r s₁ h₁=>?_) fun υ υ h'=>h')));cases r with
 | none=>exact wpAny_pure h₁
 | some v=>
  refine wpAny_bind (wpAny_of_eq (ht v) ?_);refine wpAny_bind (wpAny_mono h₁ (fun υ s₂ h₂=>?_) fun υ υ h'=>h');refine wpAny_bind (wpAny_mono h₂ (fun x s₃ h₃=>?_) fun υ υ h'=>h');refine wpAny_bind (wpAny_standAt (wpAny_bind (wpAny_of_eq (hs x) ?_)));refine wpAny_bind (wpAny_holding (wpAny_mono h₃ (fun it2 s₄ h₄=>?_) fun υ υ h'=>h'));refine wpAny_bind (wpAny_runOwn (codeAny_mono h₄ fun r s' hr=>?_));cases r with
  | ok f=>exact wpAny_pure ⟨rfl,hr⟩
  | error e=>exact hr
noncomputable def in2F(src:Src)(k:Nat)(mx:MV)(t:TF)(f:EF):Nat→Nat→Hp→Option Hp
 | 0,_,_=>none
 | n+1,i,hp=>match src.item i hp with
  | some none=>some hp
  | some (some v)=>(match t [some mx,some v] hp with
   | some (false,hp2)=>in2F src k mx t f n (i+1) hp2
   | some (true,hp2)=>(match f [some mx,some v] hp2 with
    | some (x,hp3)=>(match Zas k x hp3 with
     | some hp4=>in2F src k mx t f n (i+1) hp4
     | none=>none)
    | none=>none)
   | none=>none)
  | none=>none
noncomputable def Zou(src:Src)(k:Nat)(it2:IF)(t:TF)(f:EF)(N:Nat):Nat→Nat→Hp→Option Hp
 | 0,_,_=>none
 | n+1,i,hp=>match src.item i hp with
  | some none=>some hp
  | some (some v)=>(match it2 [some v,none] hp with
   | some (src2,hp1)=>(match in2F src2 k v t f N 0 hp1 with
    | some hp2=>Zou src k it2 t f N n (i+1) hp2
    | none=>none)
   | none=>none)
  | none=>none
noncomputable def ZdW(it it2:IF)(t:TF)(f:EF)(N:Nat):EF:=fun ℓ hp=>match it ℓ hp with
 | some (src,hp1)=>(match Zou src hp1.length it2 t f N N 0 (hp1++[.list []]) with
  | some hp2=>some (.ref hp1.length,hp2)
  | none=>none)
 | none=>none
theorem in2_loop(N:Nat){x y:Str}{g1:Comprehension}{py pos:Pos}{iter elt:PySem.Expr}{ifs:List PySem.Expr}{scope:Scope}{cl:List (Str×Nat)}{t:TF}{f:EF}(dt:DTs w g c (E.comp2 scope x y cl) ifs t)(df:DE w g c (E.comp2 scope x y cl) elt f)
 (hy:(ZE scope E.scope).names.lookup y=some .local) (hn:[x,y].Nodup) {mx:MV} {src:Src} {k:Nat} {hp hpF:Hp} (q:in2F src k mx t f N 0 hp=some hpF) {ρ:List Addr} {cenv:Env} {s:Shared} {A:Around} {I D:Addr}
 (X0:CI w g (E.comp2 scope x y cl) cenv [I] (ITs w src I) ρ s.heap ρ hp [some mx,none] s.heap 0) (hA:AOK c A) (hD:ρ[k]?=some D) {R:Result→Shared→Prop}
 (hR:∀h' tk ρ',PostW w g [cenv.locals,I] ρ s.heap ρ' hpF h'→St w g (E.comp2 scope x y cl) ρ' hpF [some mx,none] cenv h'→R (.ok .next) {s with heap:=h',toks:=tk}):
 codeAny (model pE w) A (.compStart (.ListComp elt [g1,⟨.Name y py,iter,ifs,0⟩] scope pos) 1 (.ref I) (.ref D) cenv) R s:=by
 have loop:codeAny (model pE w) A (.compLoop (.ListComp elt [g1,⟨.Name y py,iter,ifs,0⟩] scope pos) 1 (.ref I) (.ref D) cenv) R s:=by
  refine X0.pkc (ℓ0:=[some mx,none]) (F:=in2F src k mx t f) (r:=hpF) (s:=s) 0 (fun υ υ=>rfl) fun J hJ he=>?_;refine Zgd J (he _ fun n ρ2 hp3 h2 tk2 j X q2 hT2=>?_) N (hJ N _ _ _ _ s.toks 0 X0 (fun υ υ e=>e) q (Nat.zero_le _));refine X.src hA.hd hT2 q2 nofun (fun h3 tk3 e P S=>?_) fun mv v h3 tk3 q3 hv hT3 X3=>?_
  · exact oi1 e fun e=>hR h3 tk3 ρ2 (e▸P) (e▸S)
  · exact X3.store (i:=1) rfl hy hn hv hT3 fun h4 tk4 X4 hT4=>X4.bd hA hT4 (fun b hp' Q e=>dt _ _ _ _ e _ _ _ _ Q _ X4.S hA) df.t0 hD q3 fun ρ5 hp5 h5 tk5 X5 q5 hT5=>Qd n (Nat.lt_succ_self n) (hJ n _ _ _ _ _ _ X5 (wkn 1 _).cons q5 hT5)
 exact Zeg loop (Zem hA.hd X0.it loop)
theorem DE.comp2(N:Nat){x y:Str}{px py pos:Pos}{iter iter2 elt:PySem.Expr}{ifs:List PySem.Expr}{scope:Scope}(cl:List (Str×Nat)){fi fi2:IF}{t:TF}{f:EF}(di:DI w g c E iter fi)(di2:DI w g c (E.comp2 scope x y cl) iter2 fi2)(dt:DTs w g c (E.comp2 scope x y cl) ifs t)(df:DE w g c (E.comp2 scope x y cl) elt f)
 (hk:scope.kind=.function) (hcell:∀y∈scope.names,y.2≠.cell) (hx:(ZE scope E.scope).names.lookup x=some .local) (hy:(ZE scope E.scope).names.lookup y=some .local) (hxy:x≠y)
 (hf:∀n,(n,NameKind.free)∈scope.names→(E.cells.lookup n).isSome=true) (hcl:Zae E.cells scope cl)
 (hnames:∀y∈scope.names,y.2=.local→scope.names.lookup y.1=some .local) (hs:∀env x,foldedSetIterable iter env x=pure x) (hs2:∀env x,foldedSetIterable iter2 env x=pure x):
 DE w g c E (.ListComp elt [⟨.Name x px,iter,[],0⟩,⟨.Name y py,iter2,ifs,0⟩] scope pos) (ZdW fi fi2 t f N):=by
 intro ℓ hp mv hp' q;refine iR q fun src hp1 q1 qa=>?_;revert qa;refine jH fun hp2 q2 qb=>?_;refine iS qb ?_;intro ρ env s A Q Ee S hA h;rw[eval_ListComp];refine wpAny_comprehension_free (use:=none) rfl (hs env) (ZaQ (Zbf S.cl hf)) hk hnames (di _ _ _ _ q1 ρ env s A _ Ee S hA fun I hh tk1 ρ1 P1 hI hgI hsI it hal=>?_);have S1:=S.post P1;have hn:[x,y].Nodup:=by simp[hxy]
 refine Zga (s:={s with heap:=hh,toks:=tk1}) (K:=fun acc cenv s₄=>codeAny (model pE w) A (.compStart (.ListComp elt [⟨.Name x px,iter,[],0⟩,⟨.Name y py,iter2,ifs,0⟩] scope pos) 0 (.ref I) acc cenv) (compPost (model pE w) A Ee none Q acc cenv.locals) s₄) (sl:=[x,y]) 2 hk hcell S1 (S1.cl.from hcl) (IsIt.src hgI) (ZaN hI) it fun D cenv ρ0 h0 P0' hC hD X0=>?_;have loop:codeAny (model pE w) A (.compLoop (.ListComp elt [⟨.Name x px,iter,[],0⟩,⟨.Name y py,iter2,ifs,0⟩] scope pos) 0 (.ref I) (.ref D) cenv) (compPost (model pE w) A Ee none Q (.ref D) cenv.locals) {s with heap:=h0,toks:=tk1}:=by
  refine X0.pkc (ℓ0:=[none,none]) (F:=Zou src hp1.length fi2 t f N) (r:=hp2) (s:=s) 0 (fun υ υ=>rfl) fun J hJ he=>?_;refine Zeh J (hs2 cenv) (he _ fun m ρ2 hp3 h2 tk2 j X q2 hT2=>?_) N (hJ N _ _ _ _ tk1 0 X0 (wkn 2 _) q2 (Nat.zero_le _));refine X.src hA.hd hT2 q2 nofun (fun h3 tk3 e P S'=>?_) fun mx v h3 tk3 q3 hv hT3 X3=>?_
  · exact oi1 e fun e=>Zgb (s:=s) P1 S (ZaN hsI) h (CI.ce P0' hC hD X0 (e▸P) (e▸S'))
  · refine X3.store (i:=0) rfl hx hn hv hT3 fun h4 tk4 X4 hT4=>?_;refine iR q3 fun src2 hp5 q5 q3=>?_;revert q3;refine jH fun hp6 q6 q3=>?_;have S4:=X4.S;refine di2 _ _ _ _ q5 ρ2 cenv _ A _ _ S4 hA fun I2 h5 tk5 ρ5 P5 hJ2 hgJ hsJ itJ halJ=>?_;have S5:=S4.post P5;have hCJ:cenv.locals∉[I2]:=fun hm=>ZW S4.alive fun o ho=>nn ((lms hm▸hsJ).symm.trans ho);refine in2_loop N dt df hy hn q6 (s:={s with heap:=h5,toks:=tk5}) ⟨IsIt.src hgJ,hCJ,S5.rel.post.toW,S5,ZaN hJ2,itJ⟩ hA (at_of (X4.wr P5.toW S5).P hD) fun h6 tk6 ρ6 P6 S6=>?_;have X6:=X4.wr (PostW.mono ((P5.toW (wr:=[cenv.locals,I2])).trans P6 (ZbP (.inl S5.alive) (ZaN (.inl halJ)))) (ZbP (.inl (.head _)) (ZaN (.inr hsJ)))) S6;exact Qd m (Nat.lt_succ_self m) (hJ m _ _ _ _ _ _ X6 (wkn 2 _) q3 (Nat.zero_le _))
 exact codeAny_compStart_list loop (Zem hA.hd X0.it loop)
end
end
set_option tactic.hygienic false
section
section
variable {w:World} {g:Heap} {c:Nat} {E:EnvD} {mg mb:Str→Option Value}
theorem ZnN:∀(names:List (Str×NameKind)) (n:Nat) (acc:List (Str×Addr)) (h:Heap),names.filter (fun y=>y.2==.cell)=[]→cellsFrom n names acc=acc∧pushCells h names=h:=by
 intro r;induction r with
 | nil=>
  intro n acc h e;exact ⟨rfl,rfl⟩
 | cons z' r ih=>
  obtain ⟨y,k⟩:=z';intro n acc h e;rw[List.filter_cons] at e;split at e
  · cases e
  · rename_i hk;have hk':(k==NameKind.cell)=false:=by simpa using hk
    have ih:=ih n acc h e;unfold cellsFrom pushCells;simp only[hk',Bool.false_eq_true,if_false];exact ih
theorem Zps{x:Str}:∀(names:List (Str×NameKind)) (n:Nat) (acc:List (Str×Addr)) (h:Heap),names.filter (fun y=>y.2==.cell)=[(x,.cell)]→cellsFrom n names acc=(x,n)::acc∧pushCells h names=h.push {cls:=.type "cell", data:=.cell none}:=by
 intro r;induction r with
 | nil=>
  intro n acc h e;cases e
 | cons z' r ih=>
  obtain ⟨y,k⟩:=z';intro n acc h e;rw[List.filter_cons] at e;split at e
  · rename_i hk;have hk':(k==NameKind.cell)=true:=by simpa using hk
    refine Qe (List.cons.inj e) fun e1 e2=>?_;cases e1
    unfold cellsFrom pushCells;simp only[hk',if_true];exact ZnN r _ _ _ e2
  · rename_i hk;have hk':(k==NameKind.cell)=false:=by simpa using hk
    unfold cellsFrom pushCells;simp only[hk',Bool.false_eq_true,if_false];exact ih n acc h e
theorem ZnB{scope:Scope}{x:Str}{globals:Addr}{cl:List (Str×Addr)}{qual:Str}{outer:Env}{s:Shared}{A:Around}{Q:Env→Shared→Prop}{Ee:Value→Shared→Prop}(hone:scope.names.filter (fun y=>y.2==.cell)=[(x,.cell)])
 (h:Q {scope,locals:=s.heap.objs.size,globals,cells:=(x,s.heap.objs.size+1)::cl,qual,func:=none,code:=outer.code,frame:=outer.frame,builtins:=outer.builtins} {s with heap:=(s.heap.push {cls:=.type "dict", data:=.dict #[]}).push {cls:=.type "cell", data:=.cell none}}):
 wpAny (model pE w) A (newFunctionEnv scope globals cl [] qual none .none (some outer)) Q Ee s:=by
 simp only[newFunctionEnv,Option.isSome_some,if_true];refine wpAny_bind (wpAny_alloc ?_);refine wpAny_bind (wpAny_layCells _ (fun name kind cells=>by cases hkc:kind==NameKind.cell<;>simp[hkc]) _ _ _ _ ?_);refine Qe (Zps (x:=x) scope.names (s.heap.push {cls:=.type "dict", data:=.dict #[]}).objs.size cl (s.heap.push {cls:=.type "dict", data:=.dict #[]}) hone) fun e1 e2=>?_;rw[show ({s with heap:=s.heap.push {cls:=.type "dict", data:=.dict #[]}}:Shared).heap=s.heap.push {cls:=.type "dict", data:=.dict #[]} from rfl,e1,e2,Heap.size_push];exact wpAny_bind (wpAny_pure (wpAny_pure h))
noncomputable def ZjB(src:Src)(k:Nat)(kx:Nat)(f:EF):Nat→Nat→Hp→Option Hp
 | 0,_,_=>none
 | n+1,i,hp=>match src.item i hp with
  | some none=>some hp
  | some (some v)=>(match Zlr kx v hp with
   | some hp2=>(match f [] hp2 with
    | some (x,hp3)=>(match Zas k x hp3 with
     | some hp4=>ZjB src k kx f n (i+1) hp4
     | none=>none)
    | none=>none)
   | none=>none)
  | none=>none
noncomputable def Zhx(it:IF)(f:Nat→EF)(N:Nat):EF:=fun ℓ hp=>match it ℓ hp with
 | some (src,hp1)=>(match ZjB src hp1.length (hp1.length+1) (f (hp1.length+1)) N 0 (hp1++[.list []]++[.cell none]) with
  | some hp2=>some (.ref hp1.length,hp2)
  | none=>none)
 | none=>none
noncomputable def EnvD.compC(E:EnvD)(scope:Scope)(x:Str)(n:Nat)(cl:List (Str×Nat)):EnvD:=⟨ZE scope E.scope,[],(x,n)::cl,E.code,E.qual⟩
theorem DS1.assignCompC(i:Nat){y:Str}{py spos:Pos}(N:Nat){x:Str}{px pos:Pos}{iter elt:PySem.Expr}{scope:Scope}(cl:List (Str×Nat)){fi:IF}{f:Nat→EF}(di:DI w g c E iter fi)(df:∀n,DE w g c (E.compC scope x n cl) elt (f n))
 (hk:scope.kind=.function) (hone:scope.names.filter (fun y=>y.2==.cell)=[(x,.cell)]) (hx:(ZE scope E.scope).names.lookup x=some .cell) (hf:∀n,(n,NameKind.free)∈scope.names→(E.cells.lookup n).isSome=true) (hcl:Zae E.cells scope cl)
 (hnames:∀y∈scope.names,y.2=.local→scope.names.lookup y.1=some .local) (hs:∀env x,foldedSetIterable iter env x=pure x)
 (hi:E.slots[i]?=some y) (hky:E.scope.names.lookup y=some .local) (hn:E.slots.Nodup)
 (hsw:∀env:Env,env.scope=E.scope→swapsWith (.ListComp elt [⟨.Name x px,iter,[],0⟩] scope pos) (some (.Name y py)) spos.line env=pure true):
 DS1 w g c E (.Assign [.Name y py] (.ListComp elt [⟨.Name x px,iter,[],0⟩] scope pos) spos) (ZU i (Zhx fi f N)):=by
 intro ℓ hp k ℓ' hp' q;revert q;refine jV fun v hpx q0 qa=>?_;refine oi3 qa fun yq yr y'3=>?_;subst yq yr y'3;refine iR q0 fun src hp1 q1 qb=>?_;revert qb;refine jH fun hp2 q2 qc=>?_;refine oi2 qc fun yq yr=>?_;subst yq yr;intro ρ env s A Q Ee S hA h;refine Zjm S hk hf hnames hs hsw (di _ _ _ _ q1 ρ env s A _ Ee S hA fun I h1 tk1 ρ1 P1 hI hgI hsI it hal=>?_);have S1:=S.post P1;have hcs:CR ρ1 cl (Zbg env.cells scope.names []):=S1.cl.from hcl;refine wpAny_newObj_type (ZnB hone ?_);dsimp only;have R0:=Rel.newList (s:={s with heap:=h1,toks:=tk1}) S1.rel (vs:=[]) (xs:=[]) (n:=0) .nil;revert R0;dsimp only;refine gen (h1.objs.size) fun D=>?_;refine gen (h1.push {cls:=.type "list", dict:=none,data:=.seq ([]:List Value).toArray}) fun H2 R0=>?_;have R1:Post w g (ρ1++[D]) H2 (ρ1++[D]) (hp1++[.list []]) (H2.push {cls:=.type "dict", data:=.dict #[]}):=R0.rel.keep fun b o e=>Heap.get?_push_of_some _ e;have hns₁:=Heap.Ns.new H2 (.type "dict");have hK:(H2.push {cls:=.type "dict", data:=.dict #[]}).objs.size=H2.objs.size+1:=Heap.size_push ..;have hCn:=ZG H2;revert R1 hns₁ hK hCn;refine gen (H2.push {cls:=.type "dict", data:=.dict #[]}) fun H3=>?_;refine gen (H2.objs.size) fun C R1 hns₁ hK hCn=>?_;have hKn:H3.get? (C+1)=none:=by rw[← hK];exact ZG H3
 have R2:Post w g (ρ1++[D]) H3 (ρ1++[D]++[C+1]) (hp1++[.list []]++[.cell none]) (H3.push {cls:=.type "cell", data:=.cell none}):=
  R1.rel.alloc hKn (fun b o e=>Heap.get?_push_of_some _ e) ⟨none,⟨_,by rw[← hK];exact Heap.get?_push_size _ rfl,rfl⟩,trivial⟩
 have hns₂:(H3.push {cls:=.type "cell", data:=.cell none}).Ns C (fun υ=>none):=hns₁.keeps fun b o e=>Heap.get?_push_of_some _ e;revert R2 hns₂;refine gen (H3.push {cls:=.type "cell", data:=.cell none}) fun h0 R2 hns₂=>?_;have P01:=R0.trans (R1.trans R2);have hCs:h1.get? C=none:=R0.notin_none S1.rel hCn;have hCρ:C∉ρ1++[D]++[C+1]:=fun hm=>(List.mem_append.mp hm).elim (R0.rel.notin_none hCn) fun hm=>Nat.succ_ne_self C (lms hm).symm;let cenv:Env:={scope:=relabel scope env,locals:=C,globals:=env.globals,cells:=(x,C+1)::Zbg env.cells scope.names [],qual:=env.qual,func:=none,code:=env.code,frame:=env.frame,builtins:=env.builtins}
 have hD:(ρ1++[D]++[C+1])[hp1.length]?=some D:=ZaX (Zbm S1.rel.len) [C+1];have St1:St w g (E.compC scope x (hp1.length+1) cl) (ρ1++[D]++[C+1]) (hp1++[.list []]++[.cell none]) [] cenv h0:=
  ⟨R2.rel,by show relabel scope env=ZE scope E.scope;rw[ZgV,S1.sc],hk,S1.gl,S1.bi,S1.cd,S1.qu,fun y k e=>by
   by_cases hy:y=x
   · subst hy;simp only[EnvD.compC,List.lookup_cons,beq_self_eq_true,Option.some.injEq] at e;subst e;exact Qd (C+1) (by
      have:=Zbm (a:=C+1) R1.rel.len;rw[List.length_append] at this;exact this) (by simp[cenv,List.lookup_cons])
   · have hb:(y==x)=false:=beq_eq_false_iff_ne.mpr hy;simp only[EnvD.compC,List.lookup_cons,hb] at e;refine ZJ ((hcs.ext [D]).ext [C+1] y k e) fun a e1 e2=>?_;exact ⟨a,e1,by simp only[cenv,List.lookup_cons,hb];exact e2⟩,hCρ,Zak R0.rel.base hCn,_,hns₂,fun i y v e1 e2=>by simp at e2⟩
 have X0:=CI.mk0 (IsIt.src hgI) hCs St1 P01 (ZaN hI) it;have loop:codeAny (model pE w) A (.compLoop (.ListComp elt [⟨.Name x px,iter,[],0⟩] scope pos) 0 (.ref I) (.ref D) cenv) (compPost (model pE w) A Ee (some (PySem.assign (PySem.Expr.Name y py) env)) (fun υ s'=>Q .next s') (.ref D) C) {s with heap:=h0,toks:=tk1}:=by
  refine X0.pkc (ℓ0:=[]) (F:=ZjB src hp1.length (hp1.length+1) (f (hp1.length+1))) (r:=hp') (s:=s) 0 (fun υ υ=>rfl) fun J hJ he=>?_;refine codeAny_compLoop_tests J (he _ fun n ρ2 hp3 h2 tk2 j X q2 hT2=>?_) N (hJ N _ _ _ _ tk1 0 X0 (wkn 0 _) q2 (Nat.zero_le _));refine X.src hA.hd hT2 q2 nofun (fun h3 tk3 e P S'=>?_) fun mv v h3 tk3 q3 hv hT3 X3=>?_
  · exact oi1 e fun e=>Znn (s:=s) hi hky hn P1 S (ZaN hsI) h (CI.ce P01 hCs hD X0 (e▸P) (e▸S'))
  · revert q3;refine jH fun hp4 q4 q3=>?_;refine wpAny_assign_Name (Zcj hx (List.lookup_cons_self ..) X3.S hv q4 fun h4 P4=>?_);have X4:=X3.wr P4.toW (X3.S.post P4);exact X4.bd (t:=Qi) hA hT3 (fun b hp' Q e=>DTs.nil _ _ _ _ e _ _ _ _ Q _ X4.S hA) (df _).t0 hD q3 fun ρ5 hp5 h5 tk5 X5 q5 hT5=>Qd n (Nat.lt_succ_self n) (hJ n _ _ _ _ _ _ X5 (wkn 0 _) q5 hT5)
 exact codeAny_compStart_list loop (Zem hA.hd X0.it loop)
end
end
set_option tactic.hygienic true
section
section
variable {w:World} {g:Heap} {c:Nat} {E:EnvD} {mg mb:Str→Option Value}
noncomputable def Zby{α:Type}(is:List Int):KasT α→Option α
 | .ret a=>some a
 | .ask i j k=>match is[i]?,is[j]? with
  | some x,some y=>Zby is (k (decide (x < y)))
  | _,_=>none
theorem Zcp:∀{ks:List Value} {is:List Int} {i:Nat} {x:Int},IntsAre ks is→is[i]?=some x→∃t,ks.getD i Value.none=.int x t
 | _,_,i,x,.nil,e=>by simp at e
 | _,_,0,x,.cons n t h,e=>by simp at e;subst e;exact ⟨t,rfl⟩
 | _,_,i+1,x,.cons n t h,e=>by
  simp at e;refine ZW (Zcp h e) fun u hu=>?_;exact ⟨u,by simpa using hu⟩
theorem Zjc{α:Type}{A:Around}{ks:List Value}{is:List Int}{G:α→Shared→Prop}{a:α}(hI:IntsAre ks is):∀(t:KasT α) (s:Shared),Zby is t=some a→G a s→t.kasWp (kas_ask pE w A oneType' ks) G s
 | .ret b,s,e,h=>by cases e;exact h
 | .ask i j k,s,e,h=>by
  unfold Zby at e;split at e
  · rename_i x y e1 e2;refine ZW (Zcp hI e1) fun t ht=>?_;refine ZW (Zcp hI e2) fun u hu=>?_;show wpAny (model pE w) A (keyLt' oneType' (ks.getD i Value.none) (ks.getD j Value.none)) _ (fun υ υ=>False) s
    rw[ht,hu];exact kat_lt_int (Zjc hI (k _) s e h)
  · exact nn e
noncomputable def ZnD(lamF:ZF)(q kk:Nat):List MV→Hp→Option Hp
 | [],hp=>some hp
 | x::r,hp=>(match hp[q]? with
  | some (.clos id cl kc)=>(match hp[kc]? with
   | some (.code qq)=>if qq=Qp id then (match lamF id cl [x] hp with
    | some (k,hp1)=>(match Zas kk k hp1 with
     | some hp2=>ZnD lamF q kk r hp2
     | none=>none)
    | none=>none) else none
   | _=>none)
  | _=>none)
noncomputable def ZhF(lamF:ZF):FF:=fun args hp=>match args with
 | [.ref k,.ref q]=>(match hp[k]? with
  | some (.list xs)=>if 2≤xs.length∧xs.length < 64 then (match ZnD lamF q hp.length xs (hp++[.list []]) with
   | some hp1=>(match hp1[hp.length]? with
    | some (.list ks)=>(match Zco ks with
     | some is=>if is.length=xs.length then (match Zby is (kas_sort xs.length) with
      | some p=>some (.ref (hp1.set hp.length (.list [])).length,hp1.set hp.length (.list [])++[.list (p.toList.map fun i=>xs.getD i .none)])
      | none=>none) else none
     | none=>none)
    | _=>none)
   | none=>none) else none
  | _=>none)
 | _=>none
theorem PostW.adopt{ρ ρ':List Addr}{hp':Hp}{h h':Heap}{D:Addr}{mo:MO}(P:PostW w g [D] ρ h ρ' hp' h')(hD:D∉ρ')(hn:h.get? D=none)(hg:g.get? D=none)(x:OR w (ρ'++[D]) h' D mo):Post w g ρ h (ρ'++[D]) (hp'++[mo]) h':=by
 have R:=P.rel;refine ⟨⟨R.base,by simp[R.len],fun i mo' a' e1 e2=>?_,?_,fun b hb=>?_⟩,?_,fun a ha hna=>?_,fun b o h1 e=>P.keep b o h1 (fun hm=>by rw[lms hm,hn] at e;cases e) e⟩
 · by_cases hi:i < hp'.length
   · rw[List.getElem?_append_left hi] at e1;rw[List.getElem?_append_left (by rw[R.len];exact hi)] at e2;exact (R.obj i mo' a' e1 e2).ext [D]
   · rw[List.getElem?_append_right (by lia)] at e1;rw[List.getElem?_append_right (by rw[R.len];lia),R.len] at e2;obtain ⟨hz,rfl⟩:=lge e1;have h0:i - hp'.length=0:=by simpa using hz
     simp only[h0] at e2 ⊢;simp at e2 ⊢;subst e2;exact x
 · rw[List.nodup_append];exact ZnZ R.nd (by simp) (fun b hb c hc e=>by rw[lms hc] at e;exact hD (e▸hb))
 · rcases List.mem_append.mp hb with hb | hb
   · exact R.off b hb
   · rw[lms hb];exact hg
 · refine ZW P.ext fun new en=>?_;exact ⟨new++[D],by rw[en,List.append_assoc]⟩
 · rcases List.mem_append.mp ha with ha | ha
   · exact P.fresh a ha hna
   · rw[lms ha];exact hn
theorem VRs.getD{ρ:List Addr}{xs:List MV}{vs:List Value}(h:VRs ρ xs vs)(i:Nat):VR ρ (xs.getD i .none) (vs.getD i Value.none):=by
 cases e:xs[i]? with
 | none=>
  have e2:vs[i]?=none:=by
   rw[List.getElem?_eq_none_iff] at e ⊢;rw[h.len];exact e
  rw[List.getD_eq_getElem?_getD,List.getD_eq_getElem?_getD,e,e2];rfl
 | some x=>
  refine ZJ (h.at i x e) fun v e1 e2=>?_;rw[List.getD_eq_getElem?_getD,List.getD_eq_getElem?_getD,e,e1];exact e2
theorem VRs.perm{ρ:List Addr}{xs:List MV}{vs:List Value}(h:VRs ρ xs vs):∀(p:List Nat),VRs ρ (p.map fun i=>xs.getD i .none) (p.map fun i=>vs.getD i Value.none):=by
 intro p;induction p with
 | nil=>
  exact .nil
 | cons i p ih=>
  exact .cons (h.getD i) (ih)
theorem Zja{lamF:ZF}(L:CLam w g c lamF){q kk:Nat}{A:Around}{Ee:Value→Shared→Prop}{kS qa:Addr}{body:Value→PUnit→Sem (ForInStep PUnit)}(hA:AOK c A)
 (hb:∀x (s:Shared) (Q:Shared→Prop),wpAny (model pE w) A (call (.ref qa) [x]) (fun k s'=>wpAny (model pE w) A (Builtin.List.listUpdate (.ref kS) (·.push k)) (fun υ s''=>Q s'') Ee s') (fun υ υ=>False) s→wpAny (model pE w) A (body x ⟨⟩) (fun r s''=>r=.yield ⟨⟩∧Q s'') Ee s):
 ∀{xs:List MV} {vs:List Value} {hp hp1:Hp} {ρ:List Addr} {s:Shared} {Q:Shared→Prop},ZnD lamF q kk xs hp=some hp1→Rel w g ρ hp s.heap→ρ[kk]?=some kS→ρ[q]?=some qa→VRs ρ xs vs→
  (∀h' tk ρ',Post w g ρ s.heap ρ' hp1 h'→Q {s with heap:=h',toks:=tk})→wpAny (model pE w) A (forIn vs PUnit.unit body) (fun υ=>Q) Ee s
 | [],vs,hp,hp1,ρ,s,Q,e,R,hk,hq,hv,h=>by
  cases hv
  refine oi1 e fun yq=>?_;subst yq;rw[List.forIn_nil];exact wpAny_pure (h s.heap s.toks ρ R.post)
 | x::r,vs,hp,hp1,ρ,s,Q,e,R,hk,hq,hv,h=>by
  cases hv with
  | cons hx hr=>
  rename_i v vs;revert e;refine jWc fun id cl kc g1 e=>?_;revert e;refine jWq fun qq g2 e=>?_;revert e;refine jI fun g3 e=>?_;revert e;refine jV fun k hp2 g4 e=>?_;revert e;refine jH fun hp3 g5 e=>?_;rw[List.forIn_cons];refine wpAny_bind (wpAny_mono (hb v s (fun s''=>wpAny (model pE w) A (forIn vs PUnit.unit body) (fun υ=>Q) Ee s'') ?_) (fun r s' hr=>?_) fun υ υ x=>x)
  · refine L _ _ _ _ _ _ _ _ g1 ⟨_,g2,g3⟩ g4 ρ qa [v] s A _ _ R hq hA (.cons hx .nil) fun vk h1 tk1 ρ1 P1 v1=>?_;have hk1:ρ1[kk]?=some kS:=by obtain ⟨new,en⟩:=P1.ext;rw[en];exact ZaX hk new
    have hq1:ρ1[q]?=some qa:=by obtain ⟨new,en⟩:=P1.ext;rw[en];exact ZaX hq new
    revert g5;refine jW fun ys g6 g5=>?_;revert g5;refine jI fun hz g5=>?_;refine oi1 g5 fun yq=>?_;subst yq;refine Qs (P1.rel.list (s:={s with heap:=h1,toks:=tk1}) g6 (v:=.ref kS) ⟨kS,hk1,rfl⟩) fun a' ws ea' he yq xx=>?_;refine ZW yq fun n hl=>?_;cases he
    refine listUpdate_at hl rfl ?_ (by rw[List.size_toArray,sizeLine_eq,xx.len];lia) (by rw[Array.size_push,List.size_toArray,sizeLine_eq,xx.len];lia);have s1:=Heap.SameBut.update h1 kS (Obj.mapSeq (·.push vk));have P2:Post w g ρ1 h1 ρ1 (hp2.set kk (.list (ys++[k]))) (h1.update kS (Obj.mapSeq (·.push vk))):=by
     refine P1.rel.update hk1 s1 ⟨ws++[vk],?_,xx.append (.cons v1 .nil)⟩;have ea:ws.toArray.push vk=(ws++[vk]).toArray:=by simp
     exact ⟨_,by rw[← ea];exact get?_update_seq hl (·.push vk)⟩
    have PP:=P1.trans P2;exact Zja L hA hb e PP.rel hk1 hq1 (hr.post PP) fun h' tk ρ' P'=>h h' tk ρ' (PP.trans P')
  · refine Qe hr fun yq h2=>?_;subst yq;exact h2
theorem CFK.sorted{lamF:ZF}(L:CLam w g c lamF):CFK w g (c+1) (.builtin "sorted") (ZhF lamF):=by
 intro args hp mv hp' e;unfold ZhF at e;intro ρ vs kv s A Q Ee R hA hvs h;revert e;refine jRR fun k q y' e=>?_;subst y';revert e;refine jW fun xs g1 e=>?_;revert e;refine jI fun hsz e=>?_;revert e;refine jH fun hp1 g2 e=>?_;revert e;refine jW fun ks g3 e=>?_;revert e;refine jN fun is g4 e=>?_;revert e;refine jI fun hil e=>?_;split at e
 rotate_left
 · exact nn e
 rename_i p g5;refine oi2 e fun yq yr=>?_;subst yq yr;refine ZW (le1 (Nat.succ.inj ((List.length_append (as:=vs) (bs:=[kv])).symm.trans hvs.len))) fun v0 y'=>?_;subst y';cases hvs with
 | cons hv0 hvs=>
 cases hvs with
 | cons hvk hvs=>
 refine Qs (R.list g1 hv0) fun l us el yq hl xr=>?_;subst yq;refine vrR hvk fun qa eq=>?_;have hul:us.length=xs.length:=xr.len;have hA2:AOK c A.in1.in1:=⟨hA.hd,by have:=hA.dep;show A.depth+_≤_;lia,by have:=hA.un;show A.units+1+1+_≤_;lia⟩;refine call_function_entry_kw kind_sorted plain_sorted entry_sorted (ksk_s1 _ _) ?_;unfold Builtin.«sorted»;refine wpAny_bind (m:=checkCount "sorted" 1 1 _) (wpAny_pure ?_);refine wpAny_bind (collect_list (Zaa hl) ?_ (by rw[sizeLine_eq];lia));have hsz1:((s.heap.push (seqObj "list" #[] 0)).update s.heap.objs.size (Obj.mapSeq (· ++ us.toArray))).objs.size=s.heap.objs.size+1:=by
  rw[Heap.size_update,size_push']
 have keep1:∀b o,s.heap.get? b=some o→((s.heap.push (seqObj "list" #[] 0)).update s.heap.objs.size (Obj.mapSeq (· ++ us.toArray))).get? b=some o:=fun b o e=>by
  have hlt:b < s.heap.objs.size:=Heap.lt_size e;rw[Heap.get?_update_ne _ _ _ _ (Nat.ne_of_lt hlt),Heap.get?_push_ne _ _ _ (Nat.ne_of_lt hlt)];exact e
 revert hsz1 keep1;refine gen ((s.heap.push (seqObj "list" #[] 0)).update s.heap.objs.size (Obj.mapSeq (· ++ us.toArray))) fun H1 hsz1 keep1=>?_;refine wpAny_bind (wpAny_newList ?_ (by rw[sizeLine_eq];lia));show wpAny _ _ _ _ _ {s with heap:=H1.push (seqObj "list" us.toArray 0)}
 refine genh (H1.objs.size) fun D hD=>?_;have hDn1:H1.get? D=none:=by rw[← hD];exact ZG H1
 have hDs:s.heap.get? D=none:=by
  cases e:s.heap.get? D with
  | none=>rfl
  | some o=>rw[keep1 _ _ e] at hDn1;cases hDn1
 have hoL:(H1.push (seqObj "list" us.toArray 0)).get? D=some (seqObj "list" us.toArray 0):=by rw[← hD];exact Heap.get?_push_size _ rfl
 have keep2:∀b o,s.heap.get? b=some o→(H1.push (seqObj "list" us.toArray 0)).get? b=some o:=fun b o e=>Heap.get?_push_of_some _ (keep1 b o e);revert hoL keep2;refine gen (H1.push (seqObj "list" us.toArray 0)) fun H2 hoL keep2=>?_;refine wpAny_bind (wpAny_holding (wpAny_call_entry_kw slot_list_sort ⟨_,hoL,rfl⟩ entry_list_sort ?_ (ksk_l1 _ _)));show wpAny (model pE w) A.in1.in1 (Builtin.«list.sort» ⟨[.ref D],[(Str.ofString "key", .ref qa)]⟩) _ _ _
 rw[ksk_t1];unfold ksk_tree;refine wpAny_bind (listItems_at hoL rfl ?_);refine wpAny_bind (listUpdate_at hoL rfl ?_ (by rw[List.size_toArray,sizeLine_eq];lia) (Nat.zero_le _));have s1:=Heap.SameBut.update H2 D (Obj.mapSeq fun υ=>(#[]:Array Value));obtain ⟨e1,ho1⟩:∃e1,(H2.update D (Obj.mapSeq fun υ=>(#[]:Array Value))).get? D=some (seqObj "list" #[] e1):=⟨_,get?_update_seq hoL fun υ=>#[]⟩;have keep3:∀b o,s.heap.get? b=some o→(H2.update D (Obj.mapSeq fun υ=>(#[]:Array Value))).get? b=some o:=fun b o e=>s1.extBut b o (fun q=>by rw[q,hDs] at e;cases e) (keep2 b o e);revert ho1 keep3;refine gen (H2.update D (Obj.mapSeq fun υ=>(#[]:Array Value))) fun H3 ho1 keep3=>?_;refine wpAny_bind (seqEpoch_at ho1 rfl ?_);refine wpAny_bind (wpAny_newTuple ?_ (by show us.length≤_;rw[sizeLine_eq];lia));have ho2:(H3.push (seqObj "tuple" us.toArray 0)).get? D=some (seqObj "list" #[] e1):=Heap.get?_push_of_some _ ho1;have keep4:∀b o,s.heap.get? b=some o→(H3.push (seqObj "tuple" us.toArray 0)).get? b=some o:=fun b o e=>Heap.get?_push_of_some _ (keep3 b o e);refine wpAny_bind (wpAny_newList ?_ (Nat.zero_le _));show wpAny _ _ _ _ _ {s with heap:=(H3.push (seqObj "tuple" us.toArray 0)).push (seqObj "list" #[] 0)}
 have P4:Post w g ρ s.heap ρ hp (H3.push (seqObj "tuple" us.toArray 0)):=R.keep keep4;revert ho2 keep4 P4;refine gen (H3.push (seqObj "tuple" us.toArray 0)) fun H4 ho2 keep4 P4=>?_;refine wpAny_holding ?_;have P5:=Rel.newList (s:={s with heap:=H4}) P4.rel (vs:=[]) (xs:=[]) (n:=0) .nil;have ho5:(H4.push (seqObj "list" #[] 0)).get? D=some (seqObj "list" #[] e1):=Heap.get?_push_of_some _ ho2;have hDρ:D∉ρ:=R.notin_none hDs;have hkS:(ρ++[H4.objs.size])[hp.length]?=some H4.objs.size:=Zbm R.len;revert P5 hkS;refine gen (H4.objs.size) fun kS P5 hkS=>?_;have P05:=P4.trans P5;have hDρ5:D∉ρ++[kS]:=fun hm=>by
  have:=P5.fresh D hm hDρ;rw[ho2] at this;cases this
 change Post w g ρ H4 (ρ++[kS]) (hp++[.list []]) (H4.push (seqObj "list" #[] 0)) at P5;change Post w g ρ s.heap (ρ++[kS]) (hp++[.list []]) (H4.push (seqObj "list" #[] 0)) at P05;revert ho5 P5 P05;refine gen (H4.push (seqObj "list" #[] 0)) fun H5 ho5 P5 P05=>?_;have hgD:g.get? D=none:=Zak R.base hDs;unfold ksk_rest;refine wpAny_bind (wpAny_rule ?_);first
  | rw[List.forIn_toArray]
  | (rw[← Array.forIn_toList];simp only[List.toList_toArray])
  | rw[← Array.forIn_toList]
 refine wpAny_bind (Zja (kS:=kS) (qa:=qa) L hA2 (fun x s0 Q0 h0=>?_) g2 P05.rel hkS (ZaX eq [kS]) (xr.post P05) fun h6 tk6 ρ6 P6=>?_)
 · refine wpAny_bind (wpAny_attempt (wpAny_mono h0 (fun k s' hk=>?_) fun υ υ hF=>hF.elim));exact wpAny_bind (wpAny_mono hk (fun υ s'' hq=>wpAny_pure ⟨rfl,hq⟩) fun υ υ x=>x)
 · have hD6:D∉ρ6:=fun hm=>by
    have:=P6.fresh D hm hDρ5;rw[ho5] at this;cases this
   have ho6:h6.get? D=some (seqObj "list" #[] e1):=P6.keep D _ hDρ5 ho5;have hk6:ρ6[hp.length]?=some kS:=by obtain ⟨new,en⟩:=P6.ext;rw[en];exact ZaX hkS new
   refine Qs (P6.rel.list (s:={s with heap:=h6,toks:=tk6}) g3 (v:=.ref kS) ⟨kS,hk6,rfl⟩) fun kS' kvs ea' he yq kr=>?_;refine ZW yq fun nk hkl=>?_;cases he
   have hI:=Zhp g4 kr;have hkn:kvs.length=us.length:=by rw[hI.length,hul,hil]
   refine wpAny_bind (listItems_at hkl rfl ?_);unfold ksk_end;dsimp only;simp only[Bool.false_eq_true,if_false];have hn2:¬us.toArray.size < 2:=by rw[List.size_toArray];lia
   rw[if_neg hn2,if_neg hn2];rw[ksk_kind (by simpa using hI) (by rw[List.size_toArray];lia)];refine wpAny_bind (wpAny_pure ?_);refine wpAny_bind (wpAny_mono (kat_run (ks:=kvs) (vs:=us) (Q:=fun st' s'=>s'={s with heap:=h6,toks:=tk6}∧p.size=us.length∧arrOf st'=p.map (kas_item (kvs.toArray.zip us.toArray))∧failedOf st'=none)
    (G:=fun p' s'=>p'=p∧s'={s with heap:=h6,toks:=tk6}) hkn (by lia) (by lia) (fun p' st' s' a1 a2 a3 a4=>by obtain ⟨rfl,rfl⟩:=a4;exact ⟨rfl,a1,a2,a3⟩) (Zjc hI _ _ (by rw[hul];exact g5) ⟨rfl,rfl⟩)) ?_ fun υ υ x=>x)
   rintro ⟨⟨⟩,st'⟩ s' ⟨rfl,hps,har,hf⟩
   dsimp only;unfold ksk_tail;dsimp only;rw[kat_snds hkn har];refine wpAny_bind (listUpdate_at hkl rfl ?_ (by rw[List.size_toArray,sizeLine_eq];lia) (Nat.zero_le _));have P7:Post w g ρ6 h6 ρ6 (hp1.set hp.length (.list [])) (h6.update kS (Obj.mapSeq fun υ=>(#[]:Array Value))):=
    P6.rel.update hk6 (Heap.SameBut.update h6 kS _) ⟨[],⟨_,get?_update_seq hkl fun υ=>#[]⟩,.nil⟩
   have ho7:(h6.update kS (Obj.mapSeq fun υ=>(#[]:Array Value))).get? D=some (seqObj "list" #[] e1):=P7.keep D _ hD6 ho6;revert P7 ho7;refine gen (h6.update kS (Obj.mapSeq fun υ=>(#[]:Array Value))) fun H7 P7 ho7=>?_;refine wpAny_bind (wpAny_letGo ?_);refine wpAny_bind (seqEpoch_at ho7 rfl ?_);have hosz:(List.toArray (p.toList.map fun i=>us.getD i Value.none)).size=us.length:=by rw[List.size_toArray,List.length_map,Array.length_toList,hps]
   refine wpAny_bind (listUpdate_at ho7 rfl ?_ (Nat.zero_le _) (Nat.le_trans (Nat.le_of_eq hosz) (by rw[sizeLine_eq];lia)));rw[hf];simp only[bne_self_eq_false,Bool.false_eq_true,if_false];refine wpAny_pure ⟨_,rfl,wpAny_pure ⟨_,rfl,?_⟩⟩;have s8:=Heap.SameBut.update H7 D (Obj.mapSeq fun υ=>List.toArray (p.toList.map fun i=>us.getD i Value.none));have PP:=(P05.trans P6).trans P7;have PW:PostW w g [D] ρ s.heap ρ6 (hp1.set hp.length (.list [])) (H7.update D (Obj.mapSeq fun υ=>List.toArray (p.toList.map fun i=>us.getD i Value.none))):=
    (PP.toW (wr:=[D])).write hD6 hgD (.head _) s8.extBut
   have xr6:=xr.post PP;have PA:=PW.adopt hD6 hDs hgD (mo:=.list (p.toList.map fun i=>xs.getD i .none)) ⟨p.toList.map fun i=>us.getD i Value.none,⟨_,get?_update_seq ho7 fun υ=>List.toArray (p.toList.map fun i=>us.getD i Value.none)⟩,(xr6.perm _).ext _⟩;exact h (.ref D) _ tk6 (ρ6++[D]) PA ⟨D,by
    have hl6:ρ6.length=(hp1.set hp.length (.list [])).length:=P7.rel.len;exact Zbm hl6,rfl⟩
end
end
noncomputable section
noncomputable section
variable {w:World} {g:Heap} {c:Nat} {E:EnvD} {mg mb:Str→Option Value}
theorem DE.callKB{id:String}{x:Str}{p pk pos:Pos}{e0 ek:PySem.Expr}{es:List PySem.Expr}{F:FF}{a:AF}{f:EF}(hf:DE w g c E (.Name x p) (Zb (.glob (.builtin id))))(d:DA w g c E (e0::es) a)(dk:DE w g c E ek f)
 (he:∀env,backTo pos (starEach (e0::es) env)=(false,eval e0 env)::backTo pos (starEach es env)) (hF:CFK w g c (.builtin id) F):DE w g c E (.Call (.Name x p) (e0::es) [⟨some keyS,ek,pk⟩] pos) (Internal.ZbX F a f):=by
 intro ℓ hp mv hp' q;revert q;refine jA fun vs hp1 q1 qa=>?_;revert qa;refine jV fun k hp2 q2 qb=>?_;intro ρ env s A Q Ee S hA h;refine wpAny_Call_Name_kw (hf _ _ _ _ rfl ρ env s A _ Ee S hA fun va h0 tk0 ρ0 P0 v0=>?_);cases v0
 refine callWith_kw (d.1 _ _ _ _ q1 ρ0 env pos _ A _ Ee (S.post P0) hA fun vs' h1 tk1 ρ1 P1 v1=>?_) (he env) (ZaB (d.2 env));refine kws_cons (dk _ _ _ _ q2 ρ1 env _ A _ Ee (S.post (P0.trans P1)) hA fun kv h2 tk2 ρ2 P2 v2=>kws_nil ?_);exact hF _ _ _ _ qb ρ2 vs' kv _ A Q Ee P2.rel hA ((v1.post P2).append (.cons v2 .nil)) (h.then ((P0.trans P1).trans P2))
def replE(i kg T:Nat)(z:Str):EF:=fun ℓ hp=>match ℓ[i]?,hp[kg]? with
 | some (some (.str x)),some (.cellk y t)=>if (t≠0∧t < T)∧(mkS y==z)=false∧x.length+(x.length+1) * z.length≤16777216 then some (.str (Txt.replace (mkS x) (mkS y) z).cps.toList,hp) else none
 | _,_=>none
theorem DEt.repl(i:Nat){kg T:Nat}{x gn z:Str}{p1 p2 p3 apos pos:Pos}{k3:Nat}(hi:E.slots[i]?=some x)(hk:E.scope.names.lookup x=some .local)(hd:(x==("__debug__" : Str))=false)
 (hg:E.scope.names.lookup gn=some .cell∨E.scope.names.lookup gn=some .free) (hc:E.cells.lookup gn=some kg) (hdg:(gn==("__debug__" : Str))=false) (hd2:(gn==("__classdict__" : Str))=false)
 (hbase:∀env,attributeBase (.Name x p1) "replace" env (eval (.Name x p1) env)=eval (.Name x p1) env) (hline:(apos.endLine==pos.line)=true):DEt T w g c E (.Call (.Attribute (.Name x p1) "replace" apos) [.Name gn p2,.Constant (.str z) k3 p3] [] pos) (replE i kg T z):=by
 intro ℓ hp mv hp' q;revert q;refine jXs fun xs y t e1 e2 q=>?_;revert q;refine jI fun hz qa=>?_;refine iS qa ?_;intro ρ env s A Q Ee S hA hT h;refine ZjW hz fun yq hyz hb=>?_;refine Qe yq fun ht0 htT=>?_;refine wpAny_Call_method (hbase env) rfl hline F.plainAttrs_str F.slot_str_replace F.type_str_replace (wpAny_with_toks hT ((DE.name (c:=c) i hi hk hd) ℓ hp (.str xs) hp (by unfold Zf;rw[e1]) ρ env s A _ _ S hA fun va h1 tk1 ρ1 P1 v1 hT1=>?_));refine vrT v1 fun tx=>?_;refine ZnZ (typeIs_str _ _ _) (fun a e=>(by cases e)) ?_;have S1:=S.post P1;refine ZJ (S1.cl gn kg hc) fun a f1 f2=>?_;have hcell:h1.IsCell a (some (.str (mkS y) t)):=S1.rel.obj kg _ a e2 f1;refine Calls.callWith_builtin rfl (Calls.evalArgs_plain ?_);have nameq:∀(Q':Value→Shared→Prop),Q' (.str (mkS y) t) {s with heap:=h1,toks:=tk1}→wpAny (model pE w) A (eval (.Name gn p2) env) Q' Ee {s with heap:=h1,toks:=tk1}:=fun Q' hq=>by
  rcases hg with hg | hg
  · exact wpAny_Name (wpAny_loadName_cell (by rw[S.sc];exact S.fn) (by unfold Env.kindOf;rw[S.sc];exact hg) f2 hcell hq) hdg
  · exact wpAny_Name (wpAny_loadName_free (by rw[S.sc];exact S.fn) (by unfold Env.kindOf;rw[S.sc];exact hg) f2 hcell hq hd2) hdg
 refine args_cons (nameq _ (args_cons (Calls.Constant_str (args_nil ?_))));have hT1':T≤tk1:=hT1;refine SC.replace ht0 (fun e=>by have e':tk1=0:=e;lia) (fun e=>by have e':t=tk1:=e;lia) hyz hb fun t' k=>?_;exact h _ h1 k ρ1 P1 ⟨t',by rw[Zhj]⟩
theorem ZnR{k:Nat}{x z:Str}{p' p2 pos:Pos}{kk:Nat}{p1:Pos}{ix:PySem.Expr}{f:EF}(d:DE w g c E ix f)(hk:E.scope.names.lookup x=some .cell)(hc:E.cells.lookup x=some k)(hsub:∀o i,subscripted ix false o i=operate [o,i] (getItem o i))
 (hs:∀env:Env,env.scope=E.scope→swapsWith (.Subscript (.Constant (.str z) kk p1) ix p2) (some (.Name x p')) pos.line env=pure false) {ℓ:Loc} {hp hp1:Hp} {i:Int} {n:Nat} {u:Option MV} (q1:f ℓ hp=some (.int i,hp1)) (hz:0≤i∧i≤100000) (hn:z.cps.toList[i.toNat]?=some n) (hu:hp1[k]?=some (.cell u))
 {ρ:List Addr} {env:Env} {s:Shared} {A:Around} {Q:Flow→Shared→Prop} {Ee:Value→Shared→Prop} (S:St w g E ρ hp ℓ env s.heap) (hA:AOK c A)
 (h:∀(h':Heap) (tk:Nat) (ρ':List Addr) (t:Nat),t≠0→t < tk→PostW w g [env.locals] ρ s.heap ρ' (hp1.set k (.cellk [n] t)) h'→St w g E ρ' (hp1.set k (.cellk [n] t)) ℓ env h'→Q .next {s with heap:=h',toks:=tk}):
 wpAny (model pE w) A (exec (.Assign [.Name x p'] (.Subscript (.Constant (.str z) kk p1) ix p2) pos) env) Q Ee s:=by
 refine wpAny_Assign_Name (Subscript_ (Calls.Constant_str ?_)) (hs env S.sc);refine wpAny_with_toks (n:=1) (by show 1≤s.toks+1;lia) (d _ _ _ _ q1 ρ env _ A _ _ S hA fun vi h1 tk1 ρ1 P1 v1 hT1=>?_);refine vrI v1 fun ti=>?_;have hT1':1≤tk1:=hT1;refine Zoi (typeIs_str _ z _) F.slot_str_getitem.lookup ?_ (hsub _ _);have hlt:i.toNat < z.length:=by
  have:=(lge hn).1;simpa [Str.length] using this
 have hc2:Txt.charAt z i=some n:=by
  unfold Txt.charAt;rw[seqIndex_of hz.1 (by lia)];show z.cps[i.toNat]?=some n
  rw[← hn];simp
 refine SB.getItem (by unfold fitsSsize;simp;lia) (by rw[hc2];rfl) ?_;have e2:Txt.item z i=mkS [n]:=by unfold Txt.item;rw[hc2];rfl
 rw[e2];have S1:=S.post P1;refine ZJ (S1.cl x k hc) fun a f1 f2=>?_;refine ZJ (S1.rel.obj k _ a hu f1) fun v' h1' h2'=>?_;refine wpAny_storeName_cell (by rw[S.sc];exact S.fn) (by unfold Env.kindOf;rw[S.sc];exact hk) f2 h1' fun h2 hc2' hs2=>?_;have P2:Post w g ρ1 h1 ρ1 (hp1.set k (.cellk [n] tk1)) h2:=P1.rel.update f1 hs2 hc2';have PP:=P1.trans P2;exact h h2 (tk1+1) ρ1 tk1 (fun e=>by have e':tk1=0:=e;lia) (Nat.lt_succ_self _) PP.toW (S.post PP)
end
end
section
section
variable {w:World} {g:Heap} {c:Nat} {E:EnvD} {mg mb:Str→Option Value}
structure EnumSg(l:Addr)(i:Nat)(n:Addr)(h:Heap):Prop where
 he:∃old,IsEnum h (n+1) n i old
 hi:h.IsListIter n l i
theorem EnumSg.keep{l:Addr}{i n:Nat}{h h':Heap}(x:EnumSg l i n h)(kk:∀a∈ew n,∀o,h.get? a=some o→h'.get? a=some o):EnumSg l i n h':=by
 obtain ⟨⟨old,he⟩,hi⟩:=x;exact ⟨⟨old,kk _ (by simp) _ he⟩,hi.at fun o e=>kk _ (by simp) o e⟩
theorem EnumSg.alive{l:Addr}{i n:Nat}{h:Heap}(x:EnumSg l i n h):∀a∈ew n,∃o,h.get? a=some o:=by
 obtain ⟨⟨old,he⟩,⟨o,ho,_⟩⟩:=x;intro b hb;simp only[ew,List.mem_cons,List.not_mem_nil,or_false] at hb;rcases hb with rfl | rfl
 · exact ⟨_,ho⟩
 · exact ⟨_,he⟩
noncomputable def Zpb(tg:List TgF)(f:SF):List MV→Nat→SF
 | [],_,ℓ,hp=>some (.norm,ℓ,hp)
 | v::r,i,ℓ,hp=>(match ZeJ tg [.int i,v] ℓ hp with
  | some (ℓ1,hp1)=>(match f ℓ1 hp1 with
   | some (.norm,ℓ2,hp2)=>Zpb tg f r (i+1) ℓ2 hp2
   | some (.ret v,ℓ2,hp2)=>some (.ret v,ℓ2,hp2)
   | none=>none)
  | none=>none)
noncomputable def forGS(l:Addr)(items:List MV)(a:AF)(tg:List TgF)(f:SF):SF:=fun ℓ hp=>match a ℓ hp with
 | some ([.glob v],hp1)=>if v=.ref l then Zpb tg f items 0 ℓ hp1 else none
 | _=>none
theorem DS1.forEG{l:Addr}{items:List MV}{vs:List Value}(hl:g.get? l=some {cls:=.type "list", data:=.seq vs.toArray})(hvs:VRs [] items vs)(hpl:items.all ZO=true){xa xb xz:Str}{pa pb tp pz pc pos:Pos}{kk:Nat}{args:List PySem.Expr}{b:List Stmt}{fa:AF}{f:SF}{tg:List TgF}(hz:DE w g c E (.Name xz pz) (Zb (.glob (.type "enumerate"))))(da:DA w g c E args fa)(d:DS w g c E b f)(T:TgL w g E [xa,xb] tg)
 (hs:∀env x,foldedSetIterable (.Call (.Name xz pz) args [] pc) env x=pure x):DS1 w g c E (.For (.Tuple [.Name xa pa,.Name xb pb] kk tp) (.Call (.Name xz pz) args [] pc) b [] pos) (forGS l items fa tg f):=by
 intro ℓ hp k ℓ' hp' q;revert q;refine jAg fun v1 hp1 q1 q=>?_;revert q;refine jI fun g1 q=>?_;intro ρ env s A Q Ee S hA h;subst g1;refine wpAny_For ?_ (hs env);refine wpAny_Call_ofName (hz _ _ _ _ rfl ρ env s A _ Ee S hA fun va h0 tk0 ρ0 P0 v0=>?_);cases v0
 refine PySem.callWith_type (ZaB (da.2 env)) (Zam (da.2 env) (da.1 _ _ _ _ q1 ρ0 env pc _ A _ Ee (S.post P0) hA fun vs' h1 tk1 ρ1 P1 v1=>?_));refine vr1 v1 fun υ va=>?_;cases va
 have hbase:∀{ρx:List Addr} {hpx:Hp} {hx:Heap},Rel w g ρx hpx hx→hx.PlainList l vs.toArray:=fun R=>⟨_,R.base _ _ hl⟩;refine call_enumerate_list (Zaa (hbase P1.rel)) fun hh z1 z2 z6 z7=>?_;refine wpAny_pyIter_enum z1 ?_;revert z1 z2 z6;refine genh (h1.objs.size) fun n hn z1 z2 z6=>?_;have P01:=P0.trans P1;have Pz:Post w g ρ s.heap ρ1 hp1 hh:=P01.trans (P1.rel.keep z7);have hnone:∀x∈ew n,h1.get? x=none:=fun x hx=>by
  cases e:h1.get? x with
  | none=>rfl
  | some o=>
   have:=Heap.lt_size e;rw[hn] at this;simp only[ew,List.mem_cons,List.not_mem_nil,or_false] at hx;have t':n≤x:=by rcases hx with rfl | rfl<;>first | exact Nat.le_refl _ | exact Nat.le_add_right _ _
   exact absurd this (Nat.not_lt.mpr t')
 have hsn:∀x∈ew n,s.heap.get? x=none:=fun x hx=>P01.notin_none S.rel (hnone x hx);have hnρ:∀x∈ew n,x∉ρ1:=fun x hx=>P1.rel.notin_none (hnone x hx);have hgn:∀x∈ew n,g.get? x=none:=fun x hx=>Zak P1.rel.base (hnone x hx);have it0:EnumSg l 0 n hh:=⟨⟨_,z1⟩,z2⟩;have S1:=S.post Pz;clear z1 z2 z6 z7;have X0:CI w g E env (ew n) (fun υ j h=>EnumSg l j n h) ρ1 hh ρ1 hp1 ℓ hh 0:=⟨⟨fun x k υ=>x.keep k,fun x=>x.alive,hgn⟩,fun hm=>ZW S.alive fun o ho=>nn ((hsn _ hm).symm.trans ho),Pz.rel.post.toW,S1,hnρ,it0⟩;have hei:(n+1:Addr)≠n:=Nat.succ_ne_self n;have fin:∀{ρ3:List Addr} {hp3:Hp} {h3:Heap},PostW w g (env.locals::ew n) ρ1 hh ρ3 hp3 h3→PostW w g [env.locals] ρ s.heap ρ3 hp3 h3:=fun P=>PostW.mono (Pz.toW.trans P (ZbP (.inl S1.alive) fun a ha=>.inr (hsn a ha))) (ZbP (.inl (.head _)) fun a ha=>.inr (hsn a ha));have nm:∀{b:Addr},b∉ew n→b≠n+1∧b≠n:=fun hb=>⟨fun e=>hb (e▸.tail _ (.head _)),fun e=>hb (e▸.head _)⟩;refine X0.pk (Z:=fun m j ℓ hp=>(j≤items.length∧m=items.length - j)∧Zpb tg f (items.drop j) j ℓ hp=some (k,ℓ',hp')) (s:=s) 0 fun J hJ he=>?_;refine codeAny_forLoop_any J (he _ fun m ρ2 hp2 ℓ2 h2 tk2 j X z hT2=>?_) items.length (hJ _ _ _ _ _ tk1 0 X0 ⟨⟨Nat.zero_le _,rfl⟩,q⟩ (Nat.zero_le _));refine Qe z fun hj q2=>?_;refine Qe hj fun hj yq=>?_;subst yq;have it2:=X.it;refine ZW it2.he fun old2 he2=>?_;have hl2:=hbase X.S.rel;cases hx:items[j]? with
 | none=>
  have hle:items.length≤j:=List.getElem?_eq_none_iff.mp hx;rw[List.drop_eq_nil_of_le hle] at q2;refine oi3 q2 fun yq yr y'3=>?_;subst yq yr y'3;refine wpAny_pyNext_enum_end hA.hd he2 it2.hi (Zaa hl2) (by simp[hvs.len];lia) fun h3 k3=>?_;exact wpAny_execs_nil (Qe (X.en fun b o hb e=>k3 b o (nm hb).2 e) fun P S'=>h .next h3 tk2 ρ2 rfl (fin P) S')
 | some mv=>
  refine ZW (lge hx) fun hjl hmv=>?_;rw[List.drop_eq_getElem_cons hjl,hmv] at q2;refine ZJ (hvs.at j mv hx) fun v e1 e2'=>?_;have e2:VR ρ2 mv v:=VR.plain (lae hpl mv (List.mem_of_getElem? hx)) e2';refine wpAny_pyNext_enum_item he2 it2.hi (Zaa hl2) (x:=v) (by simpa using e1) hei fun h3 heo hit3 hT3 hz3 hk3=>?_;have hT:h2.objs.size∉ew n:=fun hm=>ZW (it2.alive _ hm) fun o ho=>Nat.lt_irrefl _ (Heap.lt_size ho);dsimp only;refine wpAny_letOwnedTupleGo_enum heo fun h4 he4 hs4=>?_;have X4:=X.nx (j':=j+1) (fun b o hb e=>hs4.extBut b o (nm hb).1 (hk3 b o (nm hb).1 (nm hb).2 e)) ⟨⟨_,he4⟩,hit3.at fun o e=>hs4.extBut _ o (Ne.symm hei) e⟩;revert q2;refine jL fun ℓ5 hp5 q5 q2=>?_;refine wpAny_assign_Tuple hA.hd (items:=#[.int j tk2,v]) ⟨_,hs4.extBut _ _ (nm hT).1 hT3,rfl,_,rfl⟩ rfl rfl fun h6 x6=>?_;have P6:Post w g ρ2 h4 ρ2 hp2 h6:=X4.S.rel.keep fun b o e=>x6 b o (Nat.ne_of_lt (Heap.lt_size e)) e;have X6:=X4.wr P6.toW (X4.S.post P6);refine ZbH (is:=[(xa,pa),(xb,pb)]) (nm:=fun i:Str×Pos=>i.1) (mk:=fun i:Str×Pos=>PySem.assign (.Name i.1 i.2) env) (fun i v Q s h=>assign_Name h) T q5 (vs:=[.int j tk2,v]) (.cons ⟨_,rfl⟩ (.cons e2 .nil)) X6.S fun h7 tk7 P7 S7=>?_;exact (X6.wr P7 S7).fb (J:=fun s'=>∃m',m' < items.length - j∧J m' s') (R:=Q) hA d q2 (fun f h' tk ρ' hf P=>h f h' tk ρ' hf (fin P)) fun ρ8 hp8 ℓ8 h8 tk8 X8 q8=>Qd (items.length - (j+1)) (Nat.sub_lt_sub_left hjl (Nat.lt_succ_self j)) (hJ _ _ _ _ _ _ _ X8 ⟨⟨hjl,rfl⟩,q8⟩ (Nat.zero_le _))
end
end
set_option tactic.hygienic false
section
section
variable {w:World} {g:Heap} {c:Nat} {mg mb:Str→Option Value}
theorem Rel.merge{ρ ρm ρm':List Addr}{hp hpm hp':Hp}{h h':Heap}{ks:List Nat}(R:Rel w g ρ hp h)(hks:∀p k:Nat,ks[p]?=some k→∃a,ρm[p]?=some a∧ρ[k]?=some a)(hlen:ρm.length=ks.length)(Pm:Post w g ρm h ρm' hpm h')
 (hl:hp'.length=hp.length) (h1:∀p k:Nat,ks[p]?=some k→∃xs:List MV,hp'[k]?=some (MO.list xs)∧hpm[p]?=some (MO.list xs)∧xs.all ZO=true) (h2:∀k:Nat,k∉ks→hp'[k]?=hp[k]?):Post w g ρ h ρ hp' h':=by
 have sub:∀a∈ρm,∃p k,ks[p]?=some k∧ρm[p]?=some a∧ρ[k]?=some a:=fun a ha=>by
  obtain ⟨p,hp1,e⟩:=List.mem_iff_getElem.mp ha;have hk:p < ks.length:=by lia
  obtain ⟨a',e1,e2⟩:=hks p ks[p] (List.getElem?_eq_getElem hk);have e3:ρm[p]?=some a:=by rw[List.getElem?_eq_getElem hp1,e]
  rw[e3] at e1;cases e1;exact p2_3 p (ks[p]) (List.getElem?_eq_getElem hk) e3 e2
 refine ⟨⟨Pm.rel.base,by rw[hl];exact R.len,fun k mo a e1 e2=>?_,R.nd,R.off⟩,⟨[],(List.append_nil _).symm⟩,fun a h1 h2=>absurd h1 h2,fun b o hb e=>Pm.keep b o (fun hm=>?_) e⟩
 · by_cases hk:k∈ks
   · obtain ⟨p,hp1,e⟩:=List.mem_iff_getElem.mp hk;have e3:ks[p]?=some k:=by rw[List.getElem?_eq_getElem hp1,e]
     refine ZgO (h1 p k e3) fun xs x1 x2 x3=>?_;refine ZJ (hks p k e3) fun a' y1 y2=>?_;rw[x1] at e1;cases e1;have haa:a'=a:=by rw[y2] at e2;exact Option.some.inj e2
     subst haa;refine ZW Pm.ext fun new en=>?_;refine ZJ (Pm.rel.obj p (.list xs) a' x2 (by rw[en];exact ZaX y1 new)) fun vs z1 z2=>?_;exact Qd vs z1 (z2.plain x3)
   · rw[h2 k hk] at e1;have x:=R.obj k mo a e1 e2;refine ZW x.alive fun o ho=>?_;have ha:a∉ρm:=fun hm=>by
      refine ZiK (sub a hm) fun p k' y1 y2 y3=>?_;have:k=k':=Zbe R.nd e2 y3;subst this;exact hk (List.mem_of_getElem? y1)
     exact x.keep ((Pm.keep a o ha ho).trans ho.symm)
 · refine ZiK (sub b hm) fun p k y1 y2 y3=>?_;exact hb (List.mem_of_getElem? y3)
theorem Rel.mini1{ρ:List Addr}{hp:Hp}{h:Heap}(R:Rel w g ρ hp h){k:Nat}{xs:List MV}{a:Addr}(e:hp[k]?=some (.list xs))(ea:ρ[k]?=some a)(hx:xs.all ZO=true):OR w [a] h a (.list xs):=by
 refine ZJ (R.obj k _ a e ea) fun vs h1 h2=>?_;exact Qd vs h1 (h2.plain hx)
noncomputable def isoL1(F:FF):FF:=fun args hp=>match args.getLast? with
 | some (.ref k)=>if args.dropLast.all ZO then (match hp[k]? with
  | some (.list xs)=>if xs.all ZO then (match F (args.dropLast++[.ref 0]) [.list xs] with
   | some (v,hpm)=>if ZO v then (match hpm[(0:Nat)]? with
    | some (.list ys)=>if ys.all ZO then some (v,hp.set k (.list ys)) else none
    | _=>none) else none
   | none=>none) else none
  | _=>none) else none
 | _=>none
theorem VRs.split{ρ:List Addr}:∀{xs ys:List MV} {vs:List Value},VRs ρ (xs++ys) vs→∃us ws,vs=us++ws∧VRs ρ xs us∧VRs ρ ys ws
 | [],ys,vs,h=>⟨[],vs,rfl,.nil,h⟩
 | x::xs,ys,vs,h=>by
  cases h with
  | cons h1 h2=>
  refine ZiK (VRs.split h2) fun us ws yq a b=>?_;subst yq;exact p2_3 (_::us) ws rfl (.cons h1 a) b
theorem CF.isoL1{fv:Value}{F:FF}(d:CF w g c fv F):CF w g c fv (Internal.isoL1 F):=by
 intro args hp mv hp' q;intro ρ vs s A Q Ee R hA hvs h;revert q;refine jMr fun k hk q_a=>?_;revert q_a;refine jI fun hpl q_b=>?_;revert q_b;refine jW fun xs g1 q_c=>?_;revert q_c;refine jI fun hx q_d=>?_;revert q_d;refine jV fun v hpm q2 q_e=>?_;revert q_e;refine jI fun hv q_f=>?_;revert q_f;refine jW fun ys g2 q_g=>?_;revert q_g;refine jI fun hy q_h=>?_;cases q_h
 have hargs:args=args.dropLast++[.ref k]:=by
  have hne:args≠[]:=fun e=>by rw[e] at hk;cases hk
  have:=List.dropLast_concat_getLast hne;rw[List.getLast?_eq_some_getLast hne] at hk;rw[Option.some.inj hk] at this;exact this.symm
 rw[hargs] at hvs;refine ZiK (VRs.split hvs) fun us ws yq hu hw=>?_;subst yq;refine vr1 hw fun υ hr=>?_;refine vrR hr fun a ea=>?_;have ha:=List.mem_of_getElem? ea;have Rm:Rel w g [a] [.list xs] s.heap:=⟨R.base,rfl,fun j mo b e1 e2=>by
  match j with
  | 0=>cases e1;cases e2;exact R.mini1 g1 ea hx
  | j+1=>simp at e1,by simp,fun b hb=>by rw[lms hb];exact R.off a ha⟩
 refine d _ _ _ _ q2 [a] (us++[.ref a]) s A Q Ee Rm hA ((hu.plain hpl).append (.cons ⟨a,rfl,rfl⟩ .nil)) fun v' h' tk ρ' P hv'=>?_;have P':Post w g ρ s.heap ρ (hp.set k (.list ys)) h':=by
  refine Rel.merge (ks:=[k]) (ρm:=[a]) R (fun p k' e=>?_) rfl P (by simp) (fun p k' e=>?_) fun k' hk'=>?_
  · match p with
    | 0=>cases e;exact ⟨a,rfl,ea⟩
    | p+1=>simp at e
  · match p with
    | 0=>
     cases e
     exact ZnY ys (by rw[List.getElem?_set_self (lge g1).1]) g2 hy
    | p+1=>simp at e
  · rw[List.getElem?_set_ne (fun e=>hk' (by simp[e]))]
 exact h v' h' tk ρ P' (hv'.plain hv)
noncomputable def isoL2(F:FF):FF:=fun args hp=>match args with
 | [.ref i,.ref j]=>(match hp[i]?,hp[j]? with
  | some (.list xs),some (.list ys)=>if i≠j∧xs.all ZO=true∧ys.all ZO=true then (match F [.ref 0,.ref 1] [.list xs,.list ys] with
   | some (v,hpm)=>if ZO v then (match hpm[(0:Nat)]?,hpm[(1:Nat)]? with
    | some (.list xs'),some (.list ys')=>if xs'=xs∧ys'=ys then some (v,hp) else none
    | _,_=>none) else none
   | none=>none) else none
  | _,_=>none)
 | _=>none
theorem CF.isoL2{fv:Value}{F:FF}(d:CF w g c fv F):CF w g c fv (Internal.isoL2 F):=by
 intro args hp mv hp' q;intro ρ vs s A Q Ee R hA hvs h;revert q;refine jRR fun i j y' q_a=>?_;subst y';revert q_a;refine jW2 fun xs ys g1 g2 q_b=>?_;revert q_b;refine jI fun hc q_c=>?_;refine ZjW hc fun hij hx hy=>?_;revert q_c;refine jV fun v hpm q2 q_d=>?_;revert q_d;refine jI fun hv q_e=>?_;revert q_e;refine jW2 fun xs' ys' g3 g4 q_f=>?_;revert q_f;refine jI fun he q_g=>?_;refine Qe he fun yq yr=>?_;subst yq;subst yr;cases q_g
 refine vr2 hvs fun υ υ h1 h2=>?_;refine vrR h1 fun a ea=>?_;refine vrR h2 fun b eb=>?_;have hab:a≠b:=fun e=>hij (by subst e;exact Zbe R.nd ea eb);have Rm:Rel w g [a,b] [.list xs',.list ys'] s.heap:=⟨R.base,rfl,fun k mo x e1 e2=>by
  match k with
  | 0=>cases e1;cases e2;obtain ⟨vs,z1,z2⟩:=R.obj i _ a g1 ea;exact ⟨vs,z1,z2.plain hx⟩
  | 1=>cases e1;cases e2;obtain ⟨vs,z1,z2⟩:=R.obj j _ b g2 eb;exact ⟨vs,z1,z2.plain hy⟩
  | k+2=>simp at e1,by simp[hab],fun x hx=>by
  rcases lmc hx with rfl | hx
  · exact R.off _ (List.mem_of_getElem? ea)
  · rw[lms hx];exact R.off _ (List.mem_of_getElem? eb)⟩
 refine d _ _ _ _ q2 [a,b] [.ref a,.ref b] s A Q Ee Rm hA (.cons ⟨a,rfl,rfl⟩ (.cons ⟨b,rfl,rfl⟩ .nil)) fun v' h' tk ρ' P hv'=>?_;have P':Post w g ρ s.heap ρ hp h':=by
  refine Rel.merge (ks:=[i,j]) (ρm:=[a,b]) R (fun p k' e=>?_) rfl P rfl (fun p k' e=>?_) fun k' hk'=>rfl
  · match p with
    | 0=>cases e;exact ⟨a,rfl,ea⟩
    | 1=>cases e;exact ⟨b,rfl,eb⟩
    | p+2=>simp at e
  · match p with
    | 0=>cases e;exact ⟨xs',g1,g3,hx⟩
    | 1=>cases e;exact ⟨ys',g2,g4,hy⟩
    | p+2=>simp at e
 exact h v' h' tk ρ P' (hv'.plain hv)
noncomputable def isoR3(F:FF):FF:=fun args hp=>match args with
 | [.ref i,.ref j,.ref k]=>(match hp[i]?,hp[j]?,hp[k]? with
  | some (.list xs),some (.list ys),some (.list zs)=>if (i≠j∧i≠k∧j≠k)∧xs.all ZO=true∧ys.all ZO=true∧zs.all ZO=true then (match F [.ref 0,.ref 1,.ref 2] [.list xs,.list ys,.list zs] with
   | some (.ref r,hpm)=>(match hpm[(0:Nat)]?,hpm[(1:Nat)]?,hpm[(2:Nat)]?,hpm[r]? with
    | some (.list xs'),some (.list ys'),some (.list zs'),some (.list us)=>if (xs'=xs∧ys'=ys∧zs'=zs)∧3≤r∧us.all ZO=true then some (.ref hp.length,hp++[.list us]) else none
    | _,_,_,_=>none)
   | _=>none) else none
  | _,_,_=>none)
 | _=>none
theorem Post.adopt{ρ ρ':List Addr}{hp':Hp}{h h':Heap}{D:Addr}{mo:MO}(P:Post w g ρ h ρ' hp' h')(hD:D∉ρ')(hn:h.get? D=none)(hg:g.get? D=none)(x:OR w (ρ'++[D]) h' D mo):Post w g ρ h (ρ'++[D]) (hp'++[mo]) h':=(P.toW (wr:=[D])).adopt hD hn hg x
theorem CF.isoR3{fv:Value}{F:FF}(d:CF w g c fv F):CF w g c fv (Internal.isoR3 F):=by
 intro args hp mv hp' q;intro ρ vs s A Q Ee R hA hvs h;revert q;refine jRRR fun i j k y' q_a=>?_;subst y';revert q_a;refine jW3 fun xs ys zs g1 g2 g3 q_b=>?_;revert q_b;refine jI fun hc q_c=>?_;refine x0_4 hc fun yq hx hy hz=>?_;obtain ⟨hij,hik,hjk⟩:=yq;revert q_c;refine jVr fun r hpm q2 q_d=>?_;revert q_d;refine jW4 fun xs' ys' zs' us g4 g5 g6 g7 q_e=>?_;revert q_e;refine jI fun he q_f=>?_;refine ZjW he fun yq hr hu=>?_;obtain ⟨rfl,rfl,rfl⟩:=yq;cases q_f
 refine vr3 hvs fun υ υ υ h1 h2 h3=>?_;refine vrR h1 fun a ea=>?_;refine vrR h2 fun b eb=>?_;refine vrR h3 fun e ee=>?_;have hab:a≠b:=fun q_f=>hij (by subst q_f;exact Zbe R.nd ea eb);have hae:a≠e:=fun q_f=>hik (by subst q_f;exact Zbe R.nd ea ee);have hbe:b≠e:=fun q_f=>hjk (by subst q_f;exact Zbe R.nd eb ee);have Rm:Rel w g [a,b,e] [.list xs',.list ys',.list zs'] s.heap:=⟨R.base,rfl,fun k mo x e1 e2=>by
  match k with
  | 0=>cases e1;cases e2;obtain ⟨vs,z1,z2⟩:=R.obj i _ a g1 ea;exact ⟨vs,z1,z2.plain hx⟩
  | 1=>cases e1;cases e2;obtain ⟨vs,z1,z2⟩:=R.obj j _ b g2 eb;exact ⟨vs,z1,z2.plain hy⟩
  | 2=>cases e1;cases e2;obtain ⟨vs,z1,z2⟩:=R.obj _ _ e g3 ee;exact ⟨vs,z1,z2.plain hz⟩
  | k+3=>simp at e1,by simp[hab,hae,hbe],fun x hx=>by
  rcases lmc hx with rfl | hx
  · exact R.off _ (List.mem_of_getElem? ea)
  · rcases lmc hx with rfl | hx
    · exact R.off _ (List.mem_of_getElem? eb)
    · rw[lms hx];exact R.off _ (List.mem_of_getElem? ee)⟩
 refine d _ _ _ _ q2 [a,b,e] [.ref a,.ref b,.ref e] s A Q Ee Rm hA (.cons ⟨a,rfl,rfl⟩ (.cons ⟨b,rfl,rfl⟩ (.cons ⟨e,rfl,rfl⟩ .nil))) fun v' h' tk ρ' P hv'=>?_;have P':Post w g ρ s.heap ρ hp h':=by
  refine Rel.merge (ks:=[i,j,k]) (ρm:=[a,b,e]) R (fun p k' q_f=>?_) rfl P rfl (fun p k' q_f=>?_) fun k' hk'=>rfl
  · match p with
    | 0=>cases q_f;exact ⟨a,rfl,ea⟩
    | 1=>cases q_f;exact ⟨b,rfl,eb⟩
    | 2=>cases q_f;exact ⟨e,rfl,ee⟩
    | p+3=>simp at q_f
  · match p with
    | 0=>cases q_f;exact ⟨xs',g1,g4,hx⟩
    | 1=>cases q_f;exact ⟨ys',g2,g5,hy⟩
    | 2=>cases q_f;exact ⟨zs',g3,g6,hz⟩
    | p+3=>simp at q_f
 refine vrR hv' fun D eD=>?_;refine ZW P.ext fun new en=>?_;have hDm:D∉[a,b,e]:=fun hm=>by
  obtain ⟨p,hp1,e1⟩:=List.mem_iff_getElem.mp hm;have e2:ρ'[p]?=some D:=by rw[en];exact ZaX (by rw[List.getElem?_eq_getElem hp1,e1]) new
  have:=Zbe P.rel.nd e2 eD;have hp2:p < 3:=hp1;lia
 have hDs:s.heap.get? D=none:=P.fresh D (List.mem_of_getElem? eD) hDm;have hDρ:D∉ρ:=R.notin_none hDs;refine ZJ (P.rel.obj r _ D g7 eD) fun us' z1 z2=>?_;have PA:=P'.adopt hDρ hDs (Zak R.base hDs) (mo:=.list us) ⟨us',z1,z2.plain hu⟩;exact h (.ref D) h' tk (ρ++[D]) PA ⟨D,Zbm R.len,rfl⟩
end
end
set_option tactic.hygienic true
section
theorem ZcA{K:Frag}{h:Heap}{N:Addr}{mg:Str→Option Value}{n:Str}{v:Value}(X:K.In h)(G:h.Ns N mg)(e:nsIn K N n=some (some v)):mg n=some v:=by
 refine x3_4 G fun o es ep ho hd υ hf=>?_;unfold nsIn at e;split at e
 · rename_i c d es' n' sl q;have:=X _ _ q;rw[ho] at this;refine oi1 this fun yq=>?_;subst yq;cases hd
   split at e
   · rename_i en he;cases e
     rw[← hf];unfold nsFind findBy;rw[← Array.find?_toList,he];rfl
   · split at e<;>cases e
 · exact nn e
section
variable {w:World}
theorem Zjj(i:Int):∀(t:Nat) (l:Tbl),(match l.lookup i with
 | none=>(ent3 t l).find? (fun e=>Value.isInt i e.key)=none
 | some x=>∃e t',(ent3 t l).find? (fun e=>Value.isInt i e.key)=some e∧e.val=.str x t'):=by
 intro t r;induction r generalizing t with
 | nil=>
  exact rfl
 | cons z' r ih=>
  obtain ⟨j,x⟩:=z';have ih:=ih (t+3);rw[List.lookup_cons];by_cases h:i=j
  · subst h;simp only[beq_self_eq_true];exact ZeN _ (t+1) (by unfold ent3;rw[List.find?_cons_of_pos (by simp[Value.isInt])]) rfl
  · have hb:(i==j)=false:=beq_eq_false_iff_ne.mpr h;simp only[hb];have hn:¬(fun e:DictEntry=>Value.isInt i e.key) ⟨hashInt j,.int j t,.str x (t+1)⟩=true:=by simp[Value.isInt];exact fun q=>h q.symm
    unfold ent3;rw[List.find?_cons_of_neg (p:=fun e:DictEntry=>Value.isInt i e.key) hn];exact ih
theorem Zpc(i:Int):∀(t:Nat) (l:Tbl),(match l.lookup i with
 | none=>(ent2 t l).find? (fun e=>Value.isInt i e.key)=none
 | some x=>∃e t',(ent2 t l).find? (fun e=>Value.isInt i e.key)=some e∧e.val=.str x t'):=by
 intro t r;induction r generalizing t with
 | nil=>
  exact rfl
 | cons z' r ih=>
  obtain ⟨j,x⟩:=z';have ih:=ih (t+2);rw[List.lookup_cons];by_cases h:i=j
  · subst h;simp only[beq_self_eq_true];exact ZeN _ (t+1) (by unfold ent2;rw[List.find?_cons_of_pos (by simp[Value.isInt])]) rfl
  · have hb:(i==j)=false:=beq_eq_false_iff_ne.mpr h;simp only[hb];have hn:¬(fun e:DictEntry=>Value.isInt i e.key) ⟨hashInt j,.int j t,.str x (t+1)⟩=true:=by simp[Value.isInt];exact fun q=>h q.symm
    unfold ent2;rw[List.find?_cons_of_neg (p:=fun e:DictEntry=>Value.isInt i e.key) hn];exact ih
noncomputable def ZnC(i:Int):Option (List Nat):=(b3Tbl.lookup i).map (·.cps.toList)
theorem b3_split:b3A++(b3B++b3C)=b3Tbl:=by
 have e:b3Tbl.drop 646=(b3Tbl.drop 17).drop 629:=by rw[List.drop_drop]
 show b3Tbl.take 17++((b3Tbl.drop 17).take 629++b3Tbl.drop 646)=b3Tbl
 rw[e,List.take_append_drop,List.take_append_drop]
theorem Zhl{α β:Type}[BEq α](i:α):∀(a b:List (α×β)),(a++b).lookup i=match a.lookup i with | some x=>some x | none=>b.lookup i:=by
 intro r;induction r with
 | nil=>
  intro b;exact rfl
 | cons z' r ih=>
  obtain ⟨j,x⟩:=z';intro b;rw[List.cons_append,List.lookup_cons,List.lookup_cons];cases i==j with
  | true=>rfl
  | false=>exact ih b
theorem find_b3(i:Int):match ZnC i with
 | none=>(ZdY 328 37 b3A b3B b3C).find? (fun e=>Value.isInt i e.key)=none
 | some s=>∃e t',(ZdY 328 37 b3A b3B b3C).find? (fun e=>Value.isInt i e.key)=some e∧e.val=.str (mkS s) t':=by
 have h1:=Zjj i 328 b3A;have h2:=Zjj i (328+51) b3B;have h3:=Zpc i (328+51+51 * 37) b3C;unfold ZnC;rw[← b3_split,Zhl,Zhl];unfold ZdY;cases ha:b3A.lookup i with
 | some x=>
  rw[ha] at h1;refine ZeF h1 fun e t' e1 e2=>?_;exact ZeN e t' (by rw[List.find?_append,List.find?_append,e1];rfl) e2
 | none=>
  rw[ha] at h1;dsimp only at h1 ⊢;cases hb:b3B.lookup i with
  | some x=>
   rw[hb] at h2;refine ZeF h2 fun e t' e1 e2=>?_;exact ZeN e t' (by rw[List.find?_append,List.find?_append,h1,e1];rfl) e2
  | none=>
   rw[hb] at h2;dsimp only at h2 ⊢;cases hc:b3C.lookup i with
   | some x=>
    rw[hc] at h3;refine ZeF h3 fun e t' e1 e2=>?_;exact ZeN e t' (by rw[List.find?_append,List.find?_append,h1,h2,e1];rfl) e2
   | none=>
    rw[hc] at h3;dsimp only at h3;show List.find? _ _=none
    rw[List.find?_append,List.find?_append,h1,h2,h3];rfl
theorem Zjb:∀(t:Nat) (l:Tbl),∀e∈ent3 t l,∃k:Int,Value.isInt k e.key=true∧e.hash=hashInt k:=by
 intro t r;induction r generalizing t with
 | nil=>
  intro e h;cases h
 | cons z' r ih=>
  obtain ⟨j,x⟩:=z';intro e h;rcases lmc h with rfl | h
  · exact Qd j (by simp[Value.isInt]) rfl
  · exact ih _ e h
theorem ZoO:∀(t:Nat) (l:Tbl),∀e∈ent2 t l,∃k:Int,Value.isInt k e.key=true∧e.hash=hashInt k:=by
 intro t r;induction r generalizing t with
 | nil=>
  intro e h;cases h
 | cons z' r ih=>
  obtain ⟨j,x⟩:=z';intro e h;rcases lmc h with rfl | h
  · exact Qd j (by simp[Value.isInt]) rfl
  · exact ih _ e h
theorem b3_of{g:Heap}(h:g.get? 76=some b3Obj):B3 w g ZnC:=by
 refine ⟨⟨⟨_,h,rfl,rfl⟩⟩,fun i=>(((ZdY 328 37 b3A b3B b3C).find? (fun e=>Value.isInt i e.key))).map (·.val),⟨_,_,_,h,⟨rfl,rfl,rfl⟩,rfl,?_,fun k=>?_⟩,fun i=>?_⟩
 · intro e he;have he':e∈ZdY 328 37 b3A b3B b3C:=by simpa using he
   unfold ZdY at he';rcases List.mem_append.mp he' with he' | he'
   · rcases List.mem_append.mp he' with he' | he'
     · exact Zjb _ _ e he'
     · exact Zjb _ _ e he'
   · exact ZoO _ _ e he'
 · unfold findBy;rw[← Array.find?_toList];rfl
 · have:=find_b3 i;cases hl:ZnC i with
   | none=>rw[hl] at this;dsimp only at this ⊢;rw[this];rfl
   | some s=>
    rw[hl] at this;refine ZeF this fun e t' e1 e2=>?_;exact ⟨t',by dsimp only;rw[e1];show some e.val=_;rw[e2]⟩
noncomputable def b1L:List Int:=[173,847,6150,6155,6156,6157,8203,8204,8205,8288,65279,65024,65025,65026,65027,65028,65029,65030,65031,65032,65033,65034,65035,65036,65037,65038,65039]
noncomputable def setE:List (Int×Value):=[(65024,(.int 65024 277)),(65025,(.int 65025 278)),(65026,(.int 65026 279)),(65027,(.int 65027 280)),(65028,(.int 65028 281)),(65029,(.int 65029 282)),(6150,(.int 6150 263)),(65030,(.int 65030 283)),(65031,(.int 65031 284)),(65032,(.int 65032 285)),(65033,(.int 65033 286)),(6155,(.int 6155 264)),(6156,(.int 6156 265)),(6157,(.int 6157 266)),(8203,(.int 8203 267)),(8204,(.int 8204 268)),(8205,(.int 8205 269)),(65034,(.int 65034 287)),(65035,(.int 65035 288)),(65036,(.int 65036 289)),(65037,(.int 65037 290)),(65038,(.int 65038 291)),(65039,(.int 65039 292)),(173,(.int 173 261)),(847,(.int 847 262)),(8288,(.int 8288 270)),(65279,(.int 65279 271))]
theorem set_any(l:List (Int×Value))(hl:l.all (fun e=>match e.2 with | .int i _=>e.1==hashInt i | _=>false)=true):(∀e∈l,(∃k:Int,Value.isInt k e.2=true∧e.1=hashInt k)∧e.2.scannable=true):=by
 intro e he;have:=lae hl e he;split at this
 · rename_i i t hi;rw[hi];exact ⟨⟨i,by simp[Value.isInt],by simpa using this⟩,rfl⟩
 · cases this
noncomputable def intsE(l:List (Int×Value)):List Int:=l.filterMap fun e=>match e.2 with | .int i _=>some i | _=>none
theorem set_mem(x:Int):(∃e∈setE,Value.isInt x e.2=true)↔x∈intsE setE:=by
 unfold intsE;rw[List.mem_filterMap];constructor
 · intro z'1;refine ZJ z'1 fun e he h=>?_;refine ZW (Value.isInt_shape h) fun t ht=>?_;exact Qd e he (by rw[ht])
 · intro z'1;refine ZJ z'1 fun e he h=>?_;split at h
   · rename_i i t hi;refine oi1 h fun yq=>?_;subst yq;exact Qd e he (by rw[hi];simp[Value.isInt])
   · exact nn h
theorem b1_of{g:Heap}{o:Obj}(h:g.get? 65=some o)(hs:∃o',g.get? sysModules=some o'){ep:Nat}{t:SetTable}(ho:o=⟨.type "set", none,.set (List.toArray setE) ep t,#[]⟩)(ht:t.fits 27=true):B1 w g:=by
 subst ho;refine ⟨hs,fun x=>b1L.contains x,27,⟨_,_,_,_,h,⟨rfl,rfl,rfl⟩,rfl,?_,fun k=>?_,by decide +kernel,ht,rfl⟩,fun x=>rfl⟩
 · exact set_any _ (by decide +kernel)
 · have hp:(intsE setE).Perm b1L:=by decide +kernel
   rw[List.contains_iff_mem,← hp.mem_iff,← set_mem];rfl
noncomputable def tabsE:List (Addr×Addr):=[(200,196),(210,208)]
structure HeadF(w:World)(g:Heap)(mg mb:Str→Option Value):Prop where
 K:(KF w.params).In g
 B:Bs w g mg mb
 b3:B3 w g ZnC
 l1:LamB g mg 200 196
 l2:LamB g mg 210 208
 mb:∀x:Str,x ≠ "__name__" → mb x=bootBuiltins x
theorem Zof{h:Heap}(Y:HK.says w h):TabsAt tabsE h:=by
 have X:=km_in_of Y.1;have T:=km_tabs_of Y.1;intro q hq;simp only[tabsE,List.mem_cons,List.not_mem_nil,or_false] at hq;rcases hq with rfl | rfl
 · exact ⟨codeHd_of_K X (by kernel_rfl),T _ (by simp)⟩
 · exact ⟨codeHd_of_K X (by kernel_rfl),T _ (by simp)⟩
theorem ZnF{p:Program}{loose:List Str}{mean:ExcName→Option Value}{mg mb:Str→Option Value}{h:Heap}(Y:HK.says w h)(T:Top p loose mean mg mb h):HeadF w (ghostOf h tabsE) mg mb:=by
 have hT:=Zof Y;have X:=km_in_of Y.1;have n1:(KF w.params).lookup 196=none:=by kernel_rfl
 have n2:(KF w.params).lookup 208=none:=by kernel_rfl
 have K:(KF w.params).In (ghostOf h tabsE):=fun a o e=>ghost_ne (X a o e) fun hm=>by
  simp only[tabsE,List.map_cons,List.map_nil,List.mem_cons,List.not_mem_nil,or_false] at hm;rcases hm with rfl | rfl
  · rw[n1] at e;cases e
  · rw[n2] at e;cases e
 have hsys:∃o,(ghostOf h tabsE).get? sysModules=some o:=by
  refine ZW Y.2 fun o e=>?_;exact ⟨o,ghost_ne e (by decide)⟩
 have hnl:(ghostOf h tabsE).NoLimit:=let ⟨mc,a,r⟩:=T.nolimit;⟨mc,ghost_ns hT a,r⟩;have hbm:∀P,P∈tabsE.map (·.2)→(ghostOf h tabsE).BuiltinsAt mg P:=fun P hP=>by
  refine x2_6 T.bmain fun bm ob a1 a2 a3 a4 a5 a6=>?_;have a3':=ghost_get hT a3 (fun q=>by rw[q] at a4;cases a4);refine p2_8 bm ob a1 a2 ?_ ?_ a3' a4 a5 a6
  · intro q;refine x3_3 T.g fun o es ep e hd υ=>?_;rw[q,e] at a3;cases a3;rw[hd] at a6;cases a6
  · intro q;have:(ghostOf h tabsE).get? P=none:=hideAll_none _ hP;rw[q,this] at a3';cases a3'
 have hl:∀q∈tabsE,CodeHd (ghostOf h tabsE) q.1 q.2:=fun q hq=>by
  simp only[tabsE,List.mem_cons,List.not_mem_nil,or_false] at hq;rcases hq with rfl | rfl
  · exact codeHd_of_K K (by kernel_rfl)
  · exact codeHd_of_K K (by kernel_rfl)
 refine ⟨K,⟨b1_of (o:=ZeV w.params) (K _ _ (by kernel_rfl)) hsys rfl ?_,hnl,ghost_ns hT T.g,ghost_ns hT T.b⟩,b3_of (K _ _ (by kernel_rfl)),⟨hl (200,196) (by simp[tabsE]),hbm 196 (by simp[tabsE]),by decide⟩,⟨hl (210,208) (by simp[tabsE]),hbm 208 (by simp[tabsE]),by decide⟩,T.builtins⟩;kernel_rfl
end
end
section
section
variable {w:World} {g:Heap} {c:Nat} {E:EnvD} {mg mb:Str→Option Value}
theorem HeadF.bi(H:HeadF w g mg mb)(id:String){x:Str}{pos:Pos}(hk:E.scope.names.lookup x=some .globalImplicit)(hn:nsIn (KF w.params) mainGlobals x=some none)(hb:bootBuiltins x=some (.builtin id))(hne:(x==("__name__" : Str))=false)(hd:(x==("__debug__" : Str))=false):
 DE w g c E (.Name x pos) (Zb (.glob (.builtin id))):=
 DE.builtin H.B hk (ns_none_of H.K H.B.mg hn) ⟨_,(H.mb x (beq_eq_false_iff_ne.mp hne)).trans hb,fun υ=>rfl⟩ hd
theorem HeadF.ty(H:HeadF w g mg mb)(T:String){x:Str}{pos:Pos}(hk:E.scope.names.lookup x=some .globalImplicit)(hn:nsIn (KF w.params) mainGlobals x=some none)(hb:bootBuiltins x=some (.type T))(hne:(x==("__name__" : Str))=false)(hd:(x==("__debug__" : Str))=false):
 DE w g c E (.Name x pos) (Zb (.glob (.type T))):=
 DE.builtin H.B hk (ns_none_of H.K H.B.mg hn) ⟨_,(H.mb x (beq_eq_false_iff_ne.mp hne)).trans hb,fun υ=>rfl⟩ hd
theorem HeadF.fn(H:HeadF w g mg mb)(a:Addr){x:Str}{pos:Pos}(hk:E.scope.names.lookup x=some .globalImplicit)(hn:nsIn (KF w.params) mainGlobals x=some (some (.ref a)))(hd:(x==("__debug__" : Str))=false):
 DE w g c E (.Name x pos) (Zb (.glob (.ref a))):=
 DE.glob H.B hk ⟨_,ZcA H.K H.B.mg hn,fun υ=>rfl⟩ hd
noncomputable def intIs(r:Option (Option Value))(i:Int):Bool:=match r with
 | some (some (.int j _))=>j==i
 | _=>false
noncomputable def strIs(r:Option (Option Value))(x:Str):Bool:=match r with
 | some (some (.str y _))=>y==x
 | _=>false
theorem ff_{G:Prop}(h:false=true):G:=nomatch h
theorem ZoT{r:Option (Option Value)}{i:Int}(h:intIs r i=true):∃t,r=some (some (.int i t)):=by
 cases r with
 | none=>exact ff_ h
 | some r=>cases r with
  | none=>exact ff_ h
  | some v=>cases v with
   | int j t=>exact ⟨t,by rw[show j=i from beq_iff_eq.mp h]⟩
   | _=>exact ff_ h
theorem Zoj{r:Option (Option Value)}{x:Str}(h:strIs r x=true):∃t,r=some (some (.str x t)):=by
 cases r with
 | none=>exact ff_ h
 | some r=>cases r with
  | none=>exact ff_ h
  | some v=>cases v with
   | str y t=>exact ⟨t,by rw[show y=x from beq_iff_eq.mp h]⟩
   | _=>exact ff_ h
theorem HeadF.vint(H:HeadF w g mg mb)(i:Int){x:Str}{pos:Pos}(hk:E.scope.names.lookup x=some .globalImplicit)(hn:intIs (nsIn (KF w.params) mainGlobals x) i=true)(hd:(x==("__debug__" : Str))=false):
 DE w g c E (.Name x pos) (Zb (.int i)):=by
 refine ZW (ZoT hn) fun t e=>?_
 · exact DE.glob H.B hk ⟨_,ZcA H.K H.B.mg e,fun υ=>⟨t,rfl⟩⟩ hd
theorem HeadF.vstr(H:HeadF w g mg mb)(s:Str){x:Str}{pos:Pos}(hk:E.scope.names.lookup x=some .globalImplicit)(hn:strIs (nsIn (KF w.params) mainGlobals x) s=true)(hd:(x==("__debug__" : Str))=false):
 DE w g c E (.Name x pos) (Zb (.str s.cps.toList)):=by
 refine ZW (Zoj hn) fun t e=>?_
 · exact DE.glob H.B hk ⟨_,ZcA H.K H.B.mg e,fun υ=>⟨t,by rw[Zhj]⟩⟩ hd
theorem Zbl{scope:Scope}{cells:List (Str×Nat)}(h:(scope.names.all fun y=>y.2 != .free || (cells.lookup y.1).isSome)=true):∀n,(n,NameKind.free)∈scope.names→(cells.lookup n).isSome=true:=fun n hn=>by
 have:=lae h _ hn;simpa using this
theorem ZcB{scope:Scope}(h:(scope.names.all fun y=>y.2 != .local || scope.names.lookup y.1==some .local)=true):∀y∈scope.names,y.2=.local→scope.names.lookup y.1=some .local:=fun y hy hl=>by
 have:=lae h _ hy;rw[hl] at this;simpa using this
theorem Zcl{scope:Scope}(h:(scope.names.all fun y=>y.2 != .cell)=true):∀y∈scope.names,y.2≠.cell:=fun y hy=>by
 have:=lae h _ hy;simpa using this
noncomputable def Zbj(scope:Scope)(cells:List (Str×Nat)):Bool:=(scope.names.all fun y=>y.2 != .free || (cells.lookup y.1).isSome)&&(scope.names.all fun y=>y.2 != .local || scope.names.lookup y.1==some .local)&&(scope.names.all fun y=>y.2 != .cell)
theorem DE.comp'(N:Nat){x:Str}{px pos:Pos}{iter elt:PySem.Expr}{ifs:List PySem.Expr}{scope:Scope}(cl:List (Str×Nat)){fi:IF}{t:TF}{f:EF}(di:DI w g c E iter fi)(dt:DTs w g c (E.comp scope x cl) ifs t)(df:DE w g c (E.comp scope x cl) elt f)
 (hk:scope.kind=.function) (hx:(ZE scope E.scope).names.lookup x=some .local) (hok:Zbj scope E.cells=true) (hcl:Zae E.cells scope cl) (hs:∀env x,foldedSetIterable iter env x=pure x):DE w g c E (.ListComp elt [⟨.Name x px,iter,ifs,0⟩] scope pos) (Qb fi t f N):=by
 unfold Zbj at hok;rw[Bool.and_eq_true,Bool.and_eq_true] at hok;exact DE.comp N cl di dt df hk (Zcl hok.2) hx (Zbl hok.1.1) hcl (ZcB hok.1.2) hs
theorem DS1.assignComp'(i:Nat){y:Str}{py spos:Pos}(N:Nat){x:Str}{px pos:Pos}{iter elt:PySem.Expr}{ifs:List PySem.Expr}{scope:Scope}(cl:List (Str×Nat)){fi:IF}{t:TF}{f:EF}(di:DI w g c E iter fi)(dt:DTs w g c (E.comp scope x cl) ifs t)(df:DE w g c (E.comp scope x cl) elt f)
 (hk:scope.kind=.function) (hx:(ZE scope E.scope).names.lookup x=some .local) (hok:Zbj scope E.cells=true) (hcl:Zae E.cells scope cl) (hs:∀env x,foldedSetIterable iter env x=pure x)
 (hi:E.slots[i]?=some y) (hky:E.scope.names.lookup y=some .local) (hn:E.slots.Nodup)
 (hsw:∀env:Env,env.scope=E.scope→swapsWith (.ListComp elt [⟨.Name x px,iter,ifs,0⟩] scope pos) (some (.Name y py)) spos.line env=pure true):
 DS1 w g c E (.Assign [.Name y py] (.ListComp elt [⟨.Name x px,iter,ifs,0⟩] scope pos) spos) (ZU i (Qb fi t f N)):=by
 unfold Zbj at hok;rw[Bool.and_eq_true,Bool.and_eq_true] at hok;exact DS1.assignComp i N cl di dt df hk (Zcl hok.2) hx (Zbl hok.1.1) hcl (ZcB hok.1.2) hs hi hky hn hsw
theorem DE.zip'(N:Nat)(B:Bs w g mg mb){a b xz:Str}{pa pb tp pz pc pos:Pos}{kk:Nat}{args:List PySem.Expr}{elt tst:PySem.Expr}{scope:Scope}(cl:List (Str×Nat)){fa:AF}{t:TF}{f:EF}
 (hz:DE w g c E (.Name xz pz) (Zb (.glob (.type "zip")))) (da:DA w g c E args fa) (dt:DT w g c (E.comp2 scope a b cl) tst t) (df:DE w g c (E.comp2 scope a b cl) elt f)
 (hk:scope.kind=.function) (hxa:(ZE scope E.scope).names.lookup a=some .local) (hxb:(ZE scope E.scope).names.lookup b=some .local) (hab:(a==b)=false) (hok:Zbj scope E.cells=true) (hcl:Zae E.cells scope cl) (hs:∀env x,foldedSetIterable (.Call (.Name xz pz) args [] pc) env x=pure x):
 DE w g c E (.ListComp elt [⟨.Tuple [.Name a pa,.Name b pb] kk tp,.Call (.Name xz pz) args [] pc,[tst],0⟩] scope pos) (zipE fa t f N):=by
 unfold Zbj at hok;rw[Bool.and_eq_true,Bool.and_eq_true] at hok;exact DE.zip N B cl hz da dt df hk (Zcl hok.2) hxa hxb (beq_eq_false_iff_ne.mp hab) (Zbl hok.1.1) hcl (ZcB hok.1.2) hs
theorem DE.comp2'(N:Nat){x y:Str}{px py pos:Pos}{iter iter2 elt:PySem.Expr}{ifs:List PySem.Expr}{scope:Scope}(cl:List (Str×Nat)){fi fi2:IF}{t:TF}{f:EF}(di:DI w g c E iter fi)(di2:DI w g c (E.comp2 scope x y cl) iter2 fi2)(dt:DTs w g c (E.comp2 scope x y cl) ifs t)(df:DE w g c (E.comp2 scope x y cl) elt f)
 (hk:scope.kind=.function) (hx:(ZE scope E.scope).names.lookup x=some .local) (hy:(ZE scope E.scope).names.lookup y=some .local) (hxy:(x==y)=false) (hok:Zbj scope E.cells=true) (hcl:Zae E.cells scope cl) (hs:∀env x,foldedSetIterable iter env x=pure x) (hs2:∀env x,foldedSetIterable iter2 env x=pure x):
 DE w g c E (.ListComp elt [⟨.Name x px,iter,[],0⟩,⟨.Name y py,iter2,ifs,0⟩] scope pos) (ZdW fi fi2 t f N):=by
 unfold Zbj at hok;rw[Bool.and_eq_true,Bool.and_eq_true] at hok;exact DE.comp2 N cl di di2 dt df hk (Zcl hok.2) hx hy (beq_eq_false_iff_ne.mp hxy) (Zbl hok.1.1) hcl (ZcB hok.1.2) hs hs2
noncomputable def negE(f:EF):EF:=fun ℓ hp=>match f ℓ hp with
 | some (.int i,hp1)=>some (.int (-i),hp1)
 | _=>none
theorem DE.neg{e:PySem.Expr}{f:EF}{pos:Pos}(d:DE w g c E e f):DE w g c E (.UnaryOp .USub e pos) (negE f):=by
 intro ℓ hp mv hp' q;revert q;refine jVi fun i hp1 q1 q=>?_;refine oi2 q fun yq yr=>?_;subst yq yr;intro ρ env s A Q Ee S hA h;refine wpAny_UnaryOp (d _ _ _ _ q1 ρ env s A _ Ee S hA fun va h1 tk1 ρ1 P1 v1=>?_);refine vrI v1 fun t=>?_;exact neg_int (h _ _ _ _ P1 ⟨_,rfl⟩)
noncomputable def ZhH(scope:Scope)(x:Str)(cells:List (Str×Nat)):Bool:=(scope.names.all fun y=>y.2 != .free || (cells.lookup y.1).isSome)&&(scope.names.all fun y=>y.2 != .local || scope.names.lookup y.1==some .local)&&(scope.names.filter (fun y=>y.2==.cell)==[(x,.cell)])
theorem DS1.assignCompC'(i:Nat){y:Str}{py spos:Pos}(N:Nat){x:Str}{px pos:Pos}{iter elt:PySem.Expr}{scope:Scope}(cl:List (Str×Nat)){fi:IF}{f:Nat→EF}(di:DI w g c E iter fi)(df:∀n,DE w g c (E.compC scope x n cl) elt (f n))
 (hk:scope.kind=.function) (hx:(ZE scope E.scope).names.lookup x=some .cell) (hok:ZhH scope x E.cells=true) (hcl:Zae E.cells scope cl) (hs:∀env x,foldedSetIterable iter env x=pure x)
 (hi:E.slots[i]?=some y) (hky:E.scope.names.lookup y=some .local) (hn:E.slots.Nodup)
 (hsw:∀env:Env,env.scope=E.scope→swapsWith (.ListComp elt [⟨.Name x px,iter,[],0⟩] scope pos) (some (.Name y py)) spos.line env=pure true):
 DS1 w g c E (.Assign [.Name y py] (.ListComp elt [⟨.Name x px,iter,[],0⟩] scope pos) spos) (ZU i (Zhx fi f N)):=by
 unfold ZhH at hok;rw[Bool.and_eq_true,Bool.and_eq_true] at hok;exact DS1.assignCompC i N cl di df hk (beq_iff_eq.mp hok.2) hx (Zbl hok.1.1) hcl (ZcB hok.1.2) hs hi hky hn hsw
theorem CLam.mono{lamF:ZF}(d:CLam w g c lamF){c':Nat}(h:c≤c'):CLam w g c' lamF:=fun id cl kc args hp mv hp' k hk hq q ρ a vs s A Q Ee R ha hA hvs hr=>d id cl kc args hp mv hp' k hk hq q ρ a vs s A Q Ee R ha (hA.le h) hvs hr
theorem CFK.mono{fv:Value}{F:FF}(d:CFK w g c fv F){c':Nat}(h:c≤c'):CFK w g c' fv F:=fun args hp mv hp' q ρ vs kv s A Q Ee R hA hvs hr=>d args hp mv hp' q ρ vs kv s A Q Ee R (hA.le h) hvs hr
noncomputable def ZkF:PySem.Expr→Bool
 | .Starred ..=>false
 | _=>true
theorem star_ok{e:PySem.Expr}(h:ZkF e=true)(es:List PySem.Expr)(env:Env):starEach (e::es) env=(false,eval e env)::starEach es env:=by
 cases e<;>first | rfl | cases h
theorem DA.cons'{e:PySem.Expr}{es:List PySem.Expr}{f:EF}{r:AF}(d:DE w g c E e f)(dr:DA w g c E es r)(h:ZkF e=true):DA w g c E (e::es) (Zd f r):=DA.cons d dr (star_ok h es)
end
end
section
structure SDE(w:World)(g:Heap)(c:Nat)(E:EnvD)(e:PySem.Expr)(f:EF):Prop where un:DE w g c E e f
structure SDT(w:World)(g:Heap)(c:Nat)(E:EnvD)(e:PySem.Expr)(f:TF):Prop where un:DT w g c E e f
structure SDS(w:World)(g:Heap)(c:Nat)(E:EnvD)(b:List Stmt)(f:SF):Prop where un:DS w g c E b f
structure SDS1(w:World)(g:Heap)(c:Nat)(E:EnvD)(b:Stmt)(f:SF):Prop where un:DS1 w g c E b f
structure SDI(w:World)(g:Heap)(c:Nat)(E:EnvD)(e:PySem.Expr)(f:IF):Prop where un:DI w g c E e f
structure SDTs(w:World)(g:Heap)(c:Nat)(E:EnvD)(es:List PySem.Expr)(f:TF):Prop where un:DTs w g c E es f
structure SDA(w:World)(g:Heap)(c:Nat)(E:EnvD)(es:List PySem.Expr)(f:AF):Prop where un:DA w g c E es f
structure SDP(w:World)(g:Heap)(c:Nat)(E:EnvD)(e:Option PySem.Expr)(f:PF):Prop where un:DP w g c E e f
structure SDK(w:World)(g:Heap)(c:Nat)(E:EnvD)(ks:List (Option PySem.Expr))(vs:List PySem.Expr)(f:KF_):Prop where un:DK w g c E ks vs f
structure SCF(w:World)(g:Heap)(c:Nat)(fv:Value)(F:FF):Prop where un:CF w g c fv F
structure SCFK(w:World)(g:Heap)(c:Nat)(fv:Value)(F:FF):Prop where un:CFK w g c fv F
structure SCLam(w:World)(g:Heap)(c:Nat)(lamF:ZF):Prop where un:CLam w g c lamF
section
variable {w:World} {g:Heap} {c:Nat} {E:EnvD} {mg mb:Str→Option Value}
theorem nm(i:Nat){x:Str}{pos:Pos}(hi:E.slots[i]?=some x:=by rfl)(hk:E.scope.names.lookup x=some .local:=by kernel_rfl)(hd:(x==("__debug__" : Str))=false:=by kernel_rfl):SDE w g c E (.Name x pos) (Zf i):=⟨DE.name i hi hk hd⟩
theorem Ze{i:Int}{k:Nat}{pos:Pos}:SDE w g c E (.Constant (.int i) k pos) (Zb (.int i)):=⟨DE.int ⟩
theorem Zq{x:Str}{k:Nat}{pos:Pos}:SDE w g c E (.Constant (.str x) k pos) (Zb (.str x.cps.toList)):=⟨DE.strc ⟩
theorem Zt{b:Bool}{k:Nat}{pos:Pos}:SDE w g c E (.Constant (.bool b) k pos) (Zb (.bool b)):=⟨DE.boolc ⟩
theorem ZaV{k:Nat}{pos:Pos}:SDE w g c E (.Constant .none k pos) (Zb .none):=⟨DE.nonec ⟩
theorem Zi{op:Operator}{e1 e2:PySem.Expr}{f1 f2:EF}{pos:Pos}(d1:SDE w g c E e1 f1)(d2:SDE w g c E e2 f2):SDE w g c E (.BinOp e1 op e2 pos) (ZB op f1 f2):=⟨DE.bin d1.un d2.un⟩
theorem ZbR{mg mb:Str→Option Value}(B:Bs w g mg mb){op:CmpOp}{e1 e2:PySem.Expr}{f1 f2:EF}{pos:Pos}(d1:SDE w g (c+1) E e1 f1)(d2:SDE w g (c+1) E e2 f2)(hm:behindInMarks op e2=false):SDE w g (c+1) E (.Compare e1 [op] [e2] pos) (ZbG (ZS op f1 f2)):=⟨DE.cmp B d1.un d2.un hm⟩
theorem Zz{mg mb:Str→Option Value}(B:Bs w g mg mb){op:CmpOp}{e1 e2:PySem.Expr}{f1 f2:EF}{pos:Pos}(d1:SDE w g (c+1) E e1 f1)(d2:SDE w g (c+1) E e2 f2)(hm:behindInMarks op e2=false):SDT w g (c+1) E (.Compare e1 [op] [e2] pos) (ZS op f1 f2):=⟨DT.cmp B d1.un d2.un hm⟩
theorem ZaS{e1:PySem.Expr}{f:EF}(d:SDE w g c E e1 f)(he:∀env whole,isTrue e1 env whole=(do let v ← whole;standAt e1.pos;holding [v] (truthy v))):SDT w g c E e1 (Zek f):=⟨DT.value d.un he⟩
theorem SDT.not{e1:PySem.Expr}{f:TF}{pos:Pos}(d:SDT w g c E e1 f):SDT w g c E (.UnaryOp .Not e1 pos) (notT f):=⟨DT.not d.un⟩
theorem SDE.and{e1 e2:PySem.Expr}{f1 f2:EF}{pos:Pos}(d1:SDE w g c E e1 f1)(d2:SDE w g c E e2 f2):SDE w g c E (.BoolOp .And [e1,e2] pos) (andE f1 f2):=⟨DE.and d1.un d2.un⟩
theorem Zh  : SDS w g c E [] ZA:=⟨DS.nil ⟩
theorem Zc{st:Stmt}{rest:List Stmt}{f1 f2:SF}(d1:SDS1 w g c E st f1)(d2:SDS w g c E rest f2):SDS w g c E (st::rest) (Zn f1 f2):=⟨DS.cons d1.un d2.un⟩
theorem Zj(i:Nat){x:Str}{p' pos:Pos}{e:PySem.Expr}{f:EF}(d:SDE w g c E e f)(hi:E.slots[i]?=some x)(hk:E.scope.names.lookup x=some .local)(hn:E.slots.Nodup)(hs:∀env,swapsWith e (some (.Name x p')) pos.line env=pure false):SDS1 w g c E (.Assign [.Name x p'] e pos) (ZU i f):=⟨DS1.assign i d.un hi hk hn hs⟩
theorem Zw{e:PySem.Expr}{f:EF}{pos:Pos}(d:SDE w g c E e f):SDS1 w g c E (.Return (some e) pos) (Qk f):=⟨DS1.ret d.un⟩
theorem ZaT{e:PySem.Expr}{f:EF}{pos:Pos}(d:SDE w g c E e f)(hs:∀env,swapsWith e none pos.line env=pure false):SDS1 w g c E (.Expr e pos) (Zgu f):=⟨DS1.expr d.un hs⟩
theorem ZC{t:PySem.Expr}{b1 b2:List Stmt}{ft:TF}{f1 f2:SF}{pos:Pos}(dt:SDT w g c E t ft)(d1:SDS w g c E b1 f1)(d2:SDS w g c E b2 f2):SDS1 w g c E (.If t b1 b2 pos) (ifS ft f1 f2):=⟨DS1.if dt.un d1.un d2.un⟩
theorem Zld{t:PySem.Expr}{msg:Option PySem.Expr}{ft:TF}{pos:Pos}(dt:SDT w g c E t ft):SDS1 w g c E (.Assert t msg pos) (ZiA ft):=⟨DS1.assert dt.un⟩
theorem ZbY{b:List Stmt}:SDS w g c E b ZdS:=⟨DS.never ⟩
theorem ZdG(N:Nat){t:PySem.Expr}{b:List Stmt}{ft:TF}{f:SF}{pos:Pos}(dt:SDT w g c E t ft)(d:SDS w g c E b f):SDS1 w g c E (.While t b [] pos) (Zbn ft f N):=⟨DS1.while N dt.un d.un⟩
theorem Zy{e:PySem.Expr}{f:EF}(d:SDE w g c E e f):SDI w g c E e (itE f):=⟨DI.value d.un⟩
theorem ZaR  : SDTs w g c E [] Qi:=⟨DTs.nil ⟩
theorem ZeC{e:PySem.Expr}{f:TF}(d:SDT w g c E e f):SDTs w g c E [e] f:=⟨DTs.one d.un⟩
theorem Zg  : SDA w g c E [] Zp:=⟨DA.nil ⟩
theorem Zx{es:List PySem.Expr}{f:AF}{pos:Pos}(d:SDA w g c E es f):SDE w g c E (.List es pos) (ZH f):=⟨DE.list d.un⟩
theorem Zm{x:Str}{pos:Pos}{k:Nat}(hk:E.scope.names.lookup x=some .cell∨E.scope.names.lookup x=some .free)(hc:E.cells.lookup x=some k)(hd:(x==("__debug__" : Str))=false)(hd2:(x==("__classdict__" : Str))=false):SDE w g c E (.Name x pos) (ZL k):=⟨DE.cell hk hc hd hd2⟩
theorem Zbh{k:Nat}{x:Str}{p' pos:Pos}{e:PySem.Expr}{f:EF}(d:SDE w g c E e f)(hk:E.scope.names.lookup x=some .cell)(hc:E.cells.lookup x=some k)(hs:∀env:Env,env.scope=E.scope→swapsWith e (some (.Name x p')) pos.line env=pure false):SDS1 w g c E (.Assign [.Name x p'] e pos) (asgC k f):=⟨DS1.assignC d.un hk hc hs⟩
theorem Zad{id:String}{x:Str}{p pos:Pos}{es:List PySem.Expr}{F:FF}{a:AF}(hf:SDE w g c E (.Name x p) (Zb (.glob (.builtin id))))(d:SDA w g c E es a)(hF:SCF w g c (.builtin id) F):SDE w g c E (.Call (.Name x p) es [] pos) (Zr F a):=⟨DE.callB hf.un d.un hF.un⟩
theorem ZjL{T:String}{x:Str}{p pos:Pos}{es:List PySem.Expr}{F:FF}{a:AF}(hf:SDE w g c E (.Name x p) (Zb (.glob (.type T))))(d:SDA w g c E es a)(hF:SCF w g c (.type T) F):SDE w g c E (.Call (.Name x p) es [] pos) (Zr F a):=⟨DE.callT hf.un d.un hF.un⟩
theorem ZD{fa:Addr}{o:Obj}{fd:FuncData}{x:Str}{p pos:Pos}{es:List PySem.Expr}{F:FF}{a:AF}(hf:SDE w g c E (.Name x p) (Zb (.glob (.ref fa))))(ho:g.get? fa=some o)(hdt:o.data=.func fd)(d:SDA w g c E es a)(hF:SCF w g c (.ref fa) F):SDE w g c E (.Call (.Name x p) es [] pos) (Zr F a):=⟨DE.callF hf.un ho hdt d.un hF.un⟩
theorem Zag(B:B2 w g){T id:String}{o:PySem.Expr}{name:Str}{apos pos:Pos}{es:List PySem.Expr}{F:FF}{f:EF}{a:AF}(df:SDE w g c E o f)(d:SDA w g c E es a)(hF:SCF w g c (.builtin id) F)(pa:PlainAttrs T)(slot:Slot T name id)(hty:typeOf (.builtin id)=pure (.type "method_descriptor"))(hbase:∀env,attributeBase o name env (eval o env)=eval o env)(hfew:∀env,((backTo pos (starEach es env)).all (fun x=>!x.1)&&(backToKw pos (keywordEach [] env)).all (fun x=>x.1.isSome)&&decide (es.length+([]:List Keyword).length+(if ([]:List Keyword).isEmpty then 0 else 1) < 30))=true)(hline:(apos.endLine==pos.line)=true):SDE w g c E (.Call (.Attribute o name apos) es [] pos) (ZV T F f a):=⟨DE.meth B df.un d.un hF.un pa slot hty hbase hfew hline⟩
theorem ZaZ{fa:Addr}{fd:FuncData}{o:Obj}{body:List Stmt}{names more:List Str}{f:SF}(B:Bs w g mg mb)(ho:g.get? fa=some o)(hd:o.data=.func fd)(hbody:fd.body=.stmts body)(hgl:fd.globals=mainGlobals)(hbi:fd.builtins=builtinsNs)(hclo:fd.closure=[])(hcode:g.CodeRec fd.code fd.qualname)(hb:∀vs:List Value,vs.length=names.length→bindArgs fd ⟨vs,[]⟩=pure (names.zip vs))(hcell:∀x∈fd.scope.names,x.2≠.cell)(hloc:∀x∈names,fd.scope.names.lookup x=some .local)(hnd:names.Nodup)(hco:fd.scope.isCoroutine=false)(hgen:fd.scope.isGenerator=false)(hk:fd.scope.kind=.function)(d:SDS w g c ⟨fd.scope,names++more,[],fd.code,fd.qualname ++ ".<locals>."⟩ body f):SCF w g (c+1) (.ref fa) (Qw names.length more.length f):=⟨CF.def B ho hd hbody hgl hbi hclo hcode hb hcell hloc hnd hco hgen hk d.un⟩
theorem ZbD{fv:Value}{F:FF}(d:SCF w g c fv F):SCF w g c fv (Zgt F):=⟨CF.iso d.un⟩
theorem ZM{fv:Value}{F:FF}(d:SCF w g c fv F){c':Nat}(h:c≤c'):SCF w g c' fv F:=⟨CF.mono d.un h⟩
theorem Zcx  : SCF w g c (.builtin "len") lenF:=⟨CF.len ⟩
theorem ZiD  : SCF w g c (.builtin "ord") ordF:=⟨CF.ord ⟩
theorem Zgn  : SCF w g c (.builtin "chr") Zpr:=⟨CF.chr ⟩
theorem ZpD  : SCF w g c (.builtin "str.lower") ZoE:=⟨CF.lower ⟩
theorem ZnU  : SCF w g c (.builtin "str.startswith") ZjZ:=⟨CF.starts ⟩
theorem SCF.ends  : SCF w g c (.builtin "str.endswith") endsF:=⟨CF.ends ⟩
theorem Zdt  : SCF w g c (.builtin "str.find") ZdD:=⟨CF.find ⟩
theorem ZjM  : SCF w g c (.builtin "str.split") ZgQ:=⟨CF.split ⟩
theorem ZdK  : SCF w g c (.builtin "list.append") Zgk:=⟨CF.append ⟩
theorem ZK{e1 e2:PySem.Expr}{f1 f2:EF}{pos:Pos}(d1:SDE w g c E e1 f1)(d2:SDE w g c E e2 f2)(hs:∀o i,subscripted e2 false o i=operate [o,i] (getItem o i)):SDE w g c E (.Subscript e1 e2 pos) (ZZ f1 f2):=⟨DE.sub d1.un d2.un hs⟩
theorem ZbL{o i e:PySem.Expr}{p' pos:Pos}{f fo fi:EF}(d:SDE w g c E e f)(do_:SDE w g c E o fo)(di:SDE w g c E i fi)(hs:∀env,swapsWith e (some (.Subscript o i p')) pos.line env=pure false):SDS1 w g c E (.Assign [.Subscript o i p'] e pos) (asgI f fo fi):=⟨DS1.assignI d.un do_.un di.un hs⟩
theorem ZdJ  : SCF w g c (.builtin "list.insert") ZfL:=⟨CF.insert ⟩
theorem SCF.pop  : SCF w g c (.builtin "list.pop") popF:=⟨CF.pop ⟩
theorem ZnV  : SCF w g c (.builtin "list.extend") ZkR:=⟨CF.extend ⟩
theorem Zdu  : SCF w g c (.builtin "list.count") ZcS:=⟨CF.count ⟩
theorem ZaU(i:Nat){op:Operator}{x:Str}{p' pos:Pos}{e:PySem.Expr}{f:EF}(d:SDE w g c E e f)(hi:E.slots[i]?=some x)(hk:E.scope.names.lookup x=some .local)(hn:E.slots.Nodup):SDS1 w g c E (.AugAssign (.Name x p') op e pos) (Ziz i op f):=⟨DS1.aug i d.un hi hk hn⟩
theorem ZjJ{op:Operator}{o i e:PySem.Expr}{p' pos:Pos}{f fo fi:EF}(do_:SDE w g c E o fo)(di:SDE w g c E i fi)(d:SDE w g c E e f)(hi:∀ov iv new,augStore i ov iv new=(do holding [new,ov,iv] (setItem ov iv new);release [new,ov,iv] [];pure .next)):SDS1 w g c E (.AugAssign (.Subscript o i p') op e pos) (augI op fo fi f):=⟨DS1.augI do_.un di.un d.un hi⟩
theorem Zcf  : SDP w g c E none noP:=⟨DP.none ⟩
theorem ZaC{e:PySem.Expr}{f:EF}(d:SDE w g c E e f):SDP w g c E (some e) (Qj f):=⟨DP.some d.un⟩
theorem ZaI{e:PySem.Expr}{lo hi:Option PySem.Expr}{p pos:Pos}{f:EF}{pl pu:PF}(d:SDE w g c E e f)(dl:SDP w g c E lo pl)(du:SDP w g c E hi pu)(ht:∀o r,letTemporaryGo e o r=pure ()):SDE w g c E (.Subscript e (.Slice lo hi none p) pos) (ZgR f pl pu):=⟨DE.slice d.un dl.un du.un ht⟩
theorem ZjK{pos:Pos}:SDE w g c E (.Dict [] [] pos) dict0:=⟨DE.dict0 ⟩
theorem Zle  : SCF w g c (.builtin "sum") sumF:=⟨CF.sum ⟩
theorem ZpB{e1 e2:PySem.Expr}{f1 f2:TF}{pos:Pos}(d1:SDT w g c E e1 f1)(d2:SDT w g c E e2 f2):SDT w g c E (.BoolOp .And [e1,e2] pos) (andT f1 f2):=⟨DT.and d1.un d2.un⟩
theorem SDT.or{e1 e2:PySem.Expr}{f1 f2:TF}{pos:Pos}(d1:SDT w g c E e1 f1)(d2:SDT w g c E e2 f2):SDT w g c E (.BoolOp .Or [e1,e2] pos) (orT f1 f2):=⟨DT.or d1.un d2.un⟩
theorem ZiC{p1 p2 pos1 pos2:Pos}{l r:Str}{es:List PySem.Expr}{as:AF}(hl:SDE w g c E (.Name l p1) (Zb (.glob (.type "list"))))(hr:SDE w g c E (.Name r p2) (Zb (.glob (.type "range"))))(da:SDA w g c E es as):SDE w g c E (.Call (.Name l p1) [.Call (.Name r p2) es [] pos2] [] pos1) (Zig as):=⟨DE.listRange hl.un hr.un da.un⟩
theorem Zdr{p2 pos2:Pos}{r:Str}{es:List PySem.Expr}{as:AF}(hr:SDE w g c E (.Name r p2) (Zb (.glob (.type "range"))))(da:SDA w g c E es as):SDI w g c E (.Call (.Name r p2) es [] pos2) (rngI as):=⟨DI.range hr.un da.un⟩
theorem Zgm  : SCF w g c (.type "list") Internal.ZfI:=⟨CF.listStr ⟩
theorem ZpG{look:Int→Option (List Nat)}(B:B3 w g look)(hs:(76==sysModules)=false):SCF w g c (.builtin "dict.get") (getB3 look):=⟨CF.getB3 B hs⟩
theorem SDK.nil  : SDK w g c E [] [] nilK:=⟨DK.nil ⟩
theorem ZcI{k v:PySem.Expr}{ks:List (Option PySem.Expr)}{vs:List PySem.Expr}{fk fv:EF}{r:KF_}(dk:SDE w g c E k fk)(dv:SDE w g c E v fv)(dr:SDK w g c E ks vs r):SDK w g c E (some k::ks) (v::vs) (Zjw fk fv r):=⟨DK.cons dk.un dv.un dr.un⟩
theorem SDE.dict{ks:List (Option PySem.Expr)}{vs:List PySem.Expr}{pos:Pos}{f:KF_}(d:SDK w g c E ks vs f)(hall:ks.all (·.isSome)=true)(hl:ks.length=vs.length)(h0:ks≠[])(hlen:ks.length≤15):SDE w g c E (.Dict ks vs pos) (dictE f):=⟨DE.dict d.un hall hl h0 hlen⟩
theorem Znp{o i:PySem.Expr}{p pos:Pos}{fo fi:EF}(do_:SDE w g c E o fo)(di:SDE w g c E i fi):SDS1 w g c E (.Delete [.Subscript o i p] pos) (delS fo fi):=⟨DS1.del do_.un di.un⟩
theorem ZiE{fa:Addr}{fd:FuncData}{o:Obj}{body:List Stmt}{names slots cn:List Str}{li ci:List (Option Nat)}{f:Nat→SF}(B:Bs w g mg mb)(ho:g.get? fa=some o)(hd:o.data=.func fd)(hbody:fd.body=.stmts body)(hgl:fd.globals=mainGlobals)(hbi:fd.builtins=builtinsNs)(hclo:fd.closure=[])(hcode:g.CodeRec fd.code fd.qualname)(hb:∀vs:List Value,vs.length=names.length→bindArgs fd ⟨vs,[]⟩=pure (names.zip vs))(hkind:∀x∈names,fd.scope.names.lookup x=some .local∨(fd.scope.names.lookup x=some .cell∧x∈cn))(hnd:names.Nodup)(hcn:∀L,(cellsFrom L fd.scope.names []).map (·.1)=cn)(hcnd:cn.Nodup)(hL:okL fd.scope names slots li=true)(hC:okC fd.scope names cn ci=true)(hco:fd.scope.isCoroutine=false)(hgen:fd.scope.isGenerator=false)(hk:fd.scope.kind=.function)(d:∀n,SDS w g c ⟨fd.scope,slots,Zbk n cn,fd.code,fd.qualname ++ ".<locals>."⟩ body (f n)):SCF w g (c+1) (.ref fa) (Zjq names.length li ci f):=⟨CF.defC B ho hd hbody hgl hbi hclo hcode hb hkind hnd hcn hcnd hL hC hco hgen hk (fun n=>(d n).un)⟩
theorem ZdI{id kt:Nat}{cA P:Addr}{pos:Pos}{cl:List (Str×Nat)}(B:Bs w g mg mb)(L:LamB g mg cA P)(hc:E.code=.ref cA)(hq:E.qual ++ "<lambda>" = Qp id)(hdf:∀env,defaultsOf (lamSyn id).1 env=([],[]))(hf:∀n,(n,NameKind.free)∈(lamSyn id).2.2.names→(E.cells.lookup n).isSome=true)(hcl:Zae E.cells (lamSyn id).2.2 cl):
 SDE w g c E (.Lambda (lamSyn id).1 (lamSyn id).2.1 (lamSyn id).2.2 pos) (ZkK id kt P pos cl):=⟨DE.lam B L hc hq hdf hf hcl⟩
theorem Zds{lamF:ZF}{x:Str}{p pos:Pos}{es:List PySem.Expr}{f:EF}{a:AF}(L:SCLam w g c lamF)(df:SDE w g c E (.Name x p) f)(da:SDA w g c E es a):SDE w g c E (.Call (.Name x p) es [] pos) (Internal.ZgF lamF f a):=⟨DE.callV L.un df.un da.un⟩
theorem ZbZ{fa:Addr}{o:Obj}{fd:FuncData}{x:Str}{p pk pos:Pos}{e0 ek:PySem.Expr}{es:List PySem.Expr}{F:FF}{a:AF}{f:EF}(hf:SDE w g c E (.Name x p) (Zb (.glob (.ref fa))))(ho:g.get? fa=some o)(hdt:o.data=.func fd)(d:SDA w g c E (e0::es) a)(dk:SDE w g c E ek f)(he:∀env,starEach (e0::es) env=(false,eval e0 env)::starEach es env)(hF:SCFK w g c (.ref fa) F):SDE w g c E (.Call (.Name x p) (e0::es) [⟨some keyS,ek,pk⟩] pos) (Internal.ZbX F a f):=⟨DE.callK hf.un ho hdt d.un dk.un he hF.un⟩
theorem ZeD{fa:Addr}{fd:FuncData}{o:Obj}{body:List Stmt}{n:Nat}{full:List MV→List MV}{names more:List Str}{f:SF}(B:Bs w g mg mb)(ho:g.get? fa=some o)(hd:o.data=.func fd)(hbody:fd.body=.stmts body)(hgl:fd.globals=mainGlobals)(hbi:fd.builtins=builtinsNs)(hclo:fd.closure=[])(hcode:g.CodeRec fd.code fd.qualname)(hb:∀(ρ:List Addr) (args:List MV) (vs:List Value) (kv:Value) (s:Shared),(∀b o,g.get? b=some o→s.heap.get? b=some o)→VRs ρ args (vs++[kv])→args.length=n→∃bv,BindsTo s fd ⟨vs,[(keyS,kv)]⟩ (names.zip bv)∧VRs ρ (full args) bv∧bv.length=names.length)(hcell:∀x∈fd.scope.names,x.2≠.cell)(hloc:∀x∈names,fd.scope.names.lookup x=some .local)(hnd:names.Nodup)(hco:fd.scope.isCoroutine=false)(hgen:fd.scope.isGenerator=false)(hk:fd.scope.kind=.function)(d:SDS w g c ⟨fd.scope,names++more,[],fd.code,fd.qualname ++ ".<locals>."⟩ body f):SCFK w g (c+1) (.ref fa) (ZgA n more.length full f):=⟨CF.defK B ho hd hbody hgl hbi hclo hcode hb hcell hloc hnd hco hgen hk d.un⟩
theorem Zea{names:List Str}{elts vals:List PySem.Expr}{k kk:Nat}{tp tp2 pos:Pos}{a:AF}{tg:List TgF}(da:SDA w g c E vals a)(T:TgL w g E names tg)(hlen:names.length≤100)(hs:∀env:Env,env.scope=E.scope→swapsWithSole [.Tuple elts k tp] (.Tuple vals kk tp2) pos.line env=pure false)(hw:∀env:Env,env.scope=E.scope→swappedStores [.Tuple elts k tp] (.Tuple vals kk tp2) env=pure (some names)):SDS1 w g c E (.Assign [.Tuple elts k tp] (.Tuple vals kk tp2) pos) (tupS a tg):=⟨DS1.tupSwap da.un T hlen hs hw⟩
theorem ZjI{is:List (Str×Pos)}{e:PySem.Expr}{k:Nat}{tp pos:Pos}{f:EF}{tg:List TgF}(d:SDE w g c E e f)(T:TgL w g E (is.map (·.1)) tg){elts:List PySem.Expr}(he:∀env,(assignEach elts env)=is.map fun i=>(false,PySem.assign (.Name i.1 i.2) env))(hs:∀env:Env,env.scope=E.scope→swapsWithSole [.Tuple elts k tp] e pos.line env=pure false)(hw:∀env:Env,env.scope=E.scope→swappedStores [.Tuple elts k tp] e env=pure none):SDS1 w g c E (.Assign [.Tuple elts k tp] e pos) (unlS f tg):=⟨DS1.unpackL d.un T he hs hw⟩
theorem Zai(N:Nat){x:Str}{p' pos:Pos}{e:PySem.Expr}{b:List Stmt}{fi:IF}{f:SF}(di:SDI w g c E e fi)(d:SDS w g c E b f){tg:TgF}(ht:DT1 w g E x tg)(hs:∀env x,foldedSetIterable e env x=pure x):SDS1 w g c E (.For (.Name x p') e b [] pos) (Zbr fi tg f N):=⟨DS1.forT N di.un d.un ht hs⟩
theorem Zgl{lamF:ZF}(L:SCLam w g c lamF):SCFK w g (c+1) (.builtin "sorted") (ZhF lamF):=⟨CFK.sorted L.un⟩
theorem ZhB{id:String}{x:Str}{p pk pos:Pos}{e0 ek:PySem.Expr}{es:List PySem.Expr}{F:FF}{a:AF}{f:EF}(hf:SDE w g c E (.Name x p) (Zb (.glob (.builtin id))))(d:SDA w g c E (e0::es) a)(dk:SDE w g c E ek f)(he:∀env,backTo pos (starEach (e0::es) env)=(false,eval e0 env)::backTo pos (starEach es env))(hF:SCFK w g c (.builtin id) F):SDE w g c E (.Call (.Name x p) (e0::es) [⟨some keyS,ek,pk⟩] pos) (Internal.ZbX F a f):=⟨DE.callKB hf.un d.un dk.un he hF.un⟩
theorem ZnT{l:Addr}{items:List MV}{vs:List Value}(hl:g.get? l=some {cls:=.type "list", data:=.seq vs.toArray})(hvs:VRs [] items vs)(hpl:items.all ZO=true){xa xb xz:Str}{pa pb tp pz pc pos:Pos}{kk:Nat}{args:List PySem.Expr}{b:List Stmt}{fa:AF}{f:SF}{tg:List TgF}(hz:SDE w g c E (.Name xz pz) (Zb (.glob (.type "enumerate"))))(da:SDA w g c E args fa)(d:SDS w g c E b f)(T:TgL w g E [xa,xb] tg)(hs:∀env x,foldedSetIterable (.Call (.Name xz pz) args [] pc) env x=pure x):SDS1 w g c E (.For (.Tuple [.Name xa pa,.Name xb pb] kk tp) (.Call (.Name xz pz) args [] pc) b [] pos) (forGS l items fa tg f):=⟨DS1.forEG hl hvs hpl hz.un da.un d.un T hs⟩
theorem ZjN{fv:Value}{F:FF}(d:SCF w g c fv F):SCF w g c fv (Internal.isoL1 F):=⟨CF.isoL1 d.un⟩
theorem ZpF{fv:Value}{F:FF}(d:SCF w g c fv F):SCF w g c fv (Internal.isoL2 F):=⟨CF.isoL2 d.un⟩
theorem ZpE{fv:Value}{F:FF}(d:SCF w g c fv F):SCF w g c fv (Internal.isoR3 F):=⟨CF.isoR3 d.un⟩
theorem hbi(H:HeadF w g mg mb)(id:String){x:Str}{pos:Pos}(hk:E.scope.names.lookup x=some .globalImplicit:=by kernel_rfl)(hn:nsIn (KF w.params) mainGlobals x=some none:=by kernel_rfl)(hb:bootBuiltins x=some (.builtin id):=by kernel_rfl)(hne:(x==("__name__" : Str))=false:=by kernel_rfl)(hd:(x==("__debug__" : Str))=false:=by kernel_rfl):
 SDE w g c E (.Name x pos) (Zb (.glob (.builtin id))):=⟨HeadF.bi H id hk hn hb hne hd⟩
theorem hty(H:HeadF w g mg mb)(T:String){x:Str}{pos:Pos}(hk:E.scope.names.lookup x=some .globalImplicit:=by kernel_rfl)(hn:nsIn (KF w.params) mainGlobals x=some none:=by kernel_rfl)(hb:bootBuiltins x=some (.type T):=by kernel_rfl)(hne:(x==("__name__" : Str))=false:=by kernel_rfl)(hd:(x==("__debug__" : Str))=false:=by kernel_rfl):
 SDE w g c E (.Name x pos) (Zb (.glob (.type T))):=⟨HeadF.ty H T hk hn hb hne hd⟩
theorem hK(H:HeadF w g mg mb){a:Addr}{o:Obj}(h:(KF w.params).lookup a=some o:=by kernel_rfl):g.get? a=some o:=H.K a o h
theorem hfn(H:HeadF w g mg mb)(a:Addr){x:Str}{pos:Pos}(hk:E.scope.names.lookup x=some .globalImplicit:=by kernel_rfl)(hn:nsIn (KF w.params) mainGlobals x=some (some (.ref a)):=by kernel_rfl)(hd:(x==("__debug__" : Str))=false:=by kernel_rfl):
 SDE w g c E (.Name x pos) (Zb (.glob (.ref a))):=⟨HeadF.fn H a hk hn hd⟩
theorem SHeadF.vint(H:HeadF w g mg mb)(i:Int){x:Str}{pos:Pos}(hk:E.scope.names.lookup x=some .globalImplicit)(hn:intIs (nsIn (KF w.params) mainGlobals x) i=true)(hd:(x==("__debug__" : Str))=false):
 SDE w g c E (.Name x pos) (Zb (.int i)):=⟨HeadF.vint H i hk hn hd⟩
theorem SHeadF.vstr(H:HeadF w g mg mb)(s:Str){x:Str}{pos:Pos}(hk:E.scope.names.lookup x=some .globalImplicit)(hn:strIs (nsIn (KF w.params) mainGlobals x) s=true)(hd:(x==("__debug__" : Str))=false):
 SDE w g c E (.Name x pos) (Zb (.str s.cps.toList)):=⟨HeadF.vstr H s hk hn hd⟩
theorem ZbC(N:Nat){x:Str}{px pos:Pos}{iter elt:PySem.Expr}{ifs:List PySem.Expr}{scope:Scope}(cl:List (Str×Nat)){fi:IF}{t:TF}{f:EF}(di:SDI w g c E iter fi)(dt:SDTs w g c (E.comp scope x cl) ifs t)(df:SDE w g c (E.comp scope x cl) elt f)(hk:scope.kind=.function)(hx:(ZE scope E.scope).names.lookup x=some .local)(hok:Zbj scope E.cells=true)(hcl:Zae E.cells scope cl)(hs:∀env x,foldedSetIterable iter env x=pure x):SDE w g c E (.ListComp elt [⟨.Name x px,iter,ifs,0⟩] scope pos) (Qb fi t f N):=⟨DE.comp' N cl di.un dt.un df.un hk hx hok hcl hs⟩
theorem Zap(i:Nat){y:Str}{py spos:Pos}(N:Nat){x:Str}{px pos:Pos}{iter elt:PySem.Expr}{ifs:List PySem.Expr}{scope:Scope}(cl:List (Str×Nat)){fi:IF}{t:TF}{f:EF}(di:SDI w g c E iter fi)(dt:SDTs w g c (E.comp scope x cl) ifs t)(df:SDE w g c (E.comp scope x cl) elt f)(hk:scope.kind=.function)(hx:(ZE scope E.scope).names.lookup x=some .local)(hok:Zbj scope E.cells=true)(hcl:Zae E.cells scope cl)(hs:∀env x,foldedSetIterable iter env x=pure x)(hi:E.slots[i]?=some y)(hky:E.scope.names.lookup y=some .local)(hn:E.slots.Nodup)(hsw:∀env:Env,env.scope=E.scope→swapsWith (.ListComp elt [⟨.Name x px,iter,ifs,0⟩] scope pos) (some (.Name y py)) spos.line env=pure true):
 SDS1 w g c E (.Assign [.Name y py] (.ListComp elt [⟨.Name x px,iter,ifs,0⟩] scope pos) spos) (ZU i (Qb fi t f N)):=⟨DS1.assignComp' i N cl di.un dt.un df.un hk hx hok hcl hs hi hky hn hsw⟩
theorem Znq(N:Nat)(B:Bs w g mg mb){a b xz:Str}{pa pb tp pz pc pos:Pos}{kk:Nat}{args:List PySem.Expr}{elt tst:PySem.Expr}{scope:Scope}(cl:List (Str×Nat)){fa:AF}{t:TF}{f:EF}(hz:SDE w g c E (.Name xz pz) (Zb (.glob (.type "zip"))))(da:SDA w g c E args fa)(dt:SDT w g c (E.comp2 scope a b cl) tst t)(df:SDE w g c (E.comp2 scope a b cl) elt f)(hk:scope.kind=.function)(hxa:(ZE scope E.scope).names.lookup a=some .local)(hxb:(ZE scope E.scope).names.lookup b=some .local)(hab:(a==b)=false)(hok:Zbj scope E.cells=true)(hcl:Zae E.cells scope cl)(hs:∀env x,foldedSetIterable (.Call (.Name xz pz) args [] pc) env x=pure x):
 SDE w g c E (.ListComp elt [⟨.Tuple [.Name a pa,.Name b pb] kk tp,.Call (.Name xz pz) args [] pc,[tst],0⟩] scope pos) (zipE fa t f N):=⟨DE.zip' N B cl hz.un da.un dt.un df.un hk hxa hxb hab hok hcl hs⟩
theorem ZhA(N:Nat){x y:Str}{px py pos:Pos}{iter iter2 elt:PySem.Expr}{ifs:List PySem.Expr}{scope:Scope}(cl:List (Str×Nat)){fi fi2:IF}{t:TF}{f:EF}(di:SDI w g c E iter fi)(di2:SDI w g c (E.comp2 scope x y cl) iter2 fi2)(dt:SDTs w g c (E.comp2 scope x y cl) ifs t)(df:SDE w g c (E.comp2 scope x y cl) elt f)(hk:scope.kind=.function)(hx:(ZE scope E.scope).names.lookup x=some .local)(hy:(ZE scope E.scope).names.lookup y=some .local)(hxy:(x==y)=false)(hok:Zbj scope E.cells=true)(hcl:Zae E.cells scope cl)(hs:∀env x,foldedSetIterable iter env x=pure x)(hs2:∀env x,foldedSetIterable iter2 env x=pure x):
 SDE w g c E (.ListComp elt [⟨.Name x px,iter,[],0⟩,⟨.Name y py,iter2,ifs,0⟩] scope pos) (ZdW fi fi2 t f N):=⟨DE.comp2' N cl di.un di2.un dt.un df.un hk hx hy hxy hok hcl hs hs2⟩
theorem ZpC{e:PySem.Expr}{f:EF}{pos:Pos}(d:SDE w g c E e f):SDE w g c E (.UnaryOp .USub e pos) (negE f):=⟨DE.neg d.un⟩
theorem ZdH(i:Nat){y:Str}{py spos:Pos}(N:Nat){x:Str}{px pos:Pos}{iter elt:PySem.Expr}{scope:Scope}(cl:List (Str×Nat)){fi:IF}{f:Nat→EF}(di:SDI w g c E iter fi)(df:∀n,SDE w g c (E.compC scope x n cl) elt (f n))(hk:scope.kind=.function)(hx:(ZE scope E.scope).names.lookup x=some .cell)(hok:ZhH scope x E.cells=true)(hcl:Zae E.cells scope cl)(hs:∀env x,foldedSetIterable iter env x=pure x)(hi:E.slots[i]?=some y)(hky:E.scope.names.lookup y=some .local)(hn:E.slots.Nodup)(hsw:∀env:Env,env.scope=E.scope→swapsWith (.ListComp elt [⟨.Name x px,iter,[],0⟩] scope pos) (some (.Name y py)) spos.line env=pure true):
 SDS1 w g c E (.Assign [.Name y py] (.ListComp elt [⟨.Name x px,iter,[],0⟩] scope pos) spos) (ZU i (Zhx fi f N)):=⟨DS1.assignCompC' i N cl di.un (fun n=>(df n).un) hk hx hok hcl hs hi hky hn hsw⟩
theorem Zbv{lamF:ZF}(d:SCLam w g c lamF){c':Nat}(h:c≤c'):SCLam w g c' lamF:=⟨CLam.mono d.un h⟩
theorem Zca{fv:Value}{F:FF}(d:SCFK w g c fv F){c':Nat}(h:c≤c'):SCFK w g c' fv F:=⟨CFK.mono d.un h⟩
theorem Za{e:PySem.Expr}{es:List PySem.Expr}{f:EF}{r:AF}(d:SDE w g c E e f)(dr:SDA w g c E es r)(h:ZkF e=true):SDA w g c E (e::es) (Zd f r):=⟨DA.cons' d.un dr.un h⟩
end
end
noncomputable section
noncomputable section
variable {w:World} {g:Heap} {mg mb:Str→Option Value}
abbrev ZiG:EnvD:=⟨(fnp 10).2.2,["code"],[],.ref 74,Str.ofString "in_table_b1" ++ ".<locals>."⟩
def s87:SF:=(Qk (ZbG (ZS .In (Zr ordF (Zd (Zf 0) Zp)) (Zb (.glob (.ref 65))))))
def Zdl:SF:=(Zn s87
 ZA)
theorem Zik(H:HeadF w g mg mb):SDS w g 1 ZiG (fnp 10).2.1 (Zdl):=
 (Zc (Zw (ZbR H.B (Zad (hbi H "ord") (Za (nm 0) Zg rfl) ZiD) (hfn H 65) rfl))
 Zh)
def Zbt:FF:=Zgt (Qw 1 0 (Zdl))
theorem Ziq(H:HeadF w g mg mb):SCF w g 2 (.ref 75) (Zbt):=ZbD (ZaZ (o:=ZcV w.params) (names:=["code"]) (more:=[]) H.B (hK H) rfl rfl rfl rfl rfl (codeRec_of H.K (by kernel_rfl)) (fun vs hl=>by apply ZoG hl;intros;rfl) (by decide +kernel) (by decide +kernel) (by decide +kernel) rfl rfl rfl (Zik H))
abbrev ZgK:EnvD:=⟨(fnp 12).2.2,["code","r"],[],.ref 120,Str.ofString "map_table_b3" ++ ".<locals>."⟩
def s93:SF:=(Qk (ZV "str" ZoE (Zf 0) Zp))
def s92:SF:=(Qk (Zf 1))
def s91:SF:=(ifS (ZS .IsNot (Zf 1) (Zb .none))
 (Zn s92
 ZA)
 ZA)
def s90:SF:=(ZU 1 (ZV "dict" (getB3 ZnC) (Zb (.glob (.ref 76))) (Zd (Zr ordF (Zd (Zf 0) Zp)) Zp)))
def ZcR:SF:=(Zn s90
 (Zn s91
 (Zn s93
 ZA)))
theorem ZgB(H:HeadF w g mg mb):SDS w g 1 ZgK (fnp 12).2.1 (ZcR):=
 (Zc (Zj 1 (Zag H.b3.toB2 (hfn H 76) (Za (Zad (hbi H "ord") (Za (nm 0) Zg rfl) ZiD) Zg rfl) (ZpG H.b3 (by decide)) F.plainAttrs_dict F.slot_dict_get F.type_dict_get (fun υ=>rfl) (fun υ=>rfl) rfl) rfl (by kernel_rfl) (by decide +kernel) (fun υ=>rfl))
 (Zc (ZC (Zz H.B (nm 1) ZaV rfl)
 (Zc (Zw (nm 1))
 Zh)
 Zh)
 (Zc (Zw (Zag H.b3.toB2 (nm 0) Zg ZpD F.plainAttrs_str F.slot_str_lower F.type_str_lower (fun υ=>rfl) (fun υ=>rfl) rfl))
 Zh)))
def ZaJ:FF:=Zgt (Qw 1 1 (ZcR))
theorem ZgG(H:HeadF w g mg mb):SCF w g 2 (.ref 121) (ZaJ):=ZbD (ZaZ (o:=Zew w.params) (names:=["code"]) (more:=["r"]) H.B (hK H) rfl rfl rfl rfl rfl (codeRec_of H.K (by kernel_rfl)) (fun vs hl=>by apply ZoG hl;intros;rfl) (by decide +kernel) (by decide +kernel) (by decide +kernel) rfl rfl rfl (ZgB H))
abbrev ZjV:EnvD:=⟨(fnp 15).2.2,["x"],[],.ref 127,Str.ofString "ISTERMINAL" ++ ".<locals>."⟩
def s97:SF:=(Qk (ZbG (ZS .Lt (Zf 0) (Zb (.int 256)))))
def ZdT:SF:=(Zn s97
 ZA)
theorem Zjv(H:HeadF w g mg mb):SDS w g 1 ZjV (fnp 15).2.1 (ZdT):=
 (Zc (Zw (ZbR H.B (nm 0) (SHeadF.vint H 256 (by kernel_rfl) (by kernel_rfl) (by kernel_rfl)) rfl))
 Zh)
def Zau:FF:=Zgt (Qw 1 0 (ZdT))
theorem ZdX(H:HeadF w g mg mb):SCF w g 2 (.ref 128) (Zau):=ZbD (ZaZ (o:=Zdj w.params) (names:=["x"]) (more:=[]) H.B (hK H) rfl rfl rfl rfl rfl (codeRec_of H.K (by kernel_rfl)) (fun vs hl=>by apply ZoG hl;intros;rfl) (by decide +kernel) (by decide +kernel) (by decide +kernel) rfl rfl rfl (Zjv H))
abbrev Zgr:EnvD:=⟨(fnp 16).2.2,["x"],[],.ref 134,Str.ofString "ISNONTERMINAL" ++ ".<locals>."⟩
def s99:SF:=(Qk (ZbG (ZS .GtE (Zf 0) (Zb (.int 256)))))
def Zct:SF:=(Zn s99
 ZA)
theorem ZfY(H:HeadF w g mg mb):SDS w g 1 Zgr (fnp 16).2.1 (Zct):=
 (Zc (Zw (ZbR H.B (nm 0) (SHeadF.vint H 256 (by kernel_rfl) (by kernel_rfl) (by kernel_rfl)) rfl))
 Zh)
def Zaj:FF:=Zgt (Qw 1 0 (Zct))
theorem Zcw(H:HeadF w g mg mb):SCF w g 2 (.ref 135) (Zaj):=ZbD (ZaZ (o:=Zdi w.params) (names:=["x"]) (more:=[]) H.B (hK H) rfl rfl rfl rfl rfl (codeRec_of H.K (by kernel_rfl)) (fun vs hl=>by apply ZoG hl;intros;rfl) (by decide +kernel) (by decide +kernel) (by decide +kernel) rfl rfl rfl (ZfY H))
abbrev ZiI:EnvD:=⟨(fnp 18).2.2,["which","signs"],[],.ref 141,Str.ofString "_law_unseen" ++ ".<locals>."⟩
def s103:SF:=(Qk (Zr Zpr (Zd (ZZ (Zf 1) (ZB .Mod (Zf 0) (Zb (.int 27)))) Zp)))
def s102:SF:=(ZU 1 (ZB .Add (ZH (Zd (Zb (.int 173)) (Zd (Zb (.int 847)) (Zd (Zb (.int 6150)) (Zd (Zb (.int 6155)) (Zd (Zb (.int 6156)) (Zd (Zb (.int 6157)) (Zd (Zb (.int 8203)) (Zd (Zb (.int 8204)) (Zd (Zb (.int 8205)) (Zd (Zb (.int 8288)) (Zd (Zb (.int 65279)) Zp)))))))))))) (Zig (Zd (Zb (.int 65024)) (Zd (Zb (.int 65040)) Zp)))))
def Zcd:SF:=(Zn s102
 (Zn s103
 ZA))
theorem Zim(H:HeadF w g mg mb):SDS w g 1 ZiI (fnp 18).2.1 (Zcd):=
 (Zc (Zj 1 (Zi (Zx (Za Ze (Za Ze (Za Ze (Za Ze (Za Ze (Za Ze (Za Ze (Za Ze (Za Ze (Za Ze (Za Ze Zg rfl) rfl) rfl) rfl) rfl) rfl) rfl) rfl) rfl) rfl) rfl)) (ZiC (hty H "list") (hty H "range") (Za Ze (Za Ze Zg rfl) rfl))) rfl (by kernel_rfl) (by decide +kernel) (fun υ=>rfl))
 (Zc (Zw (Zad (hbi H "chr") (Za (ZK (nm 1) (Zi (nm 0) Ze) (fun υ υ=>rfl)) Zg rfl) Zgn))
 Zh))
def ZaE:FF:=Zgt (Qw 1 1 (Zcd))
theorem Zis(H:HeadF w g mg mb):SCF w g 2 (.ref 142) (ZaE):=ZbD (ZaZ (o:=Zev w.params) (names:=["which"]) (more:=["signs"]) H.B (hK H) rfl rfl rfl rfl rfl (codeRec_of H.K (by kernel_rfl)) (fun vs hl=>by apply ZoG hl;intros;rfl) (by decide +kernel) (by decide +kernel) (by decide +kernel) rfl rfl rfl (Zim H))
abbrev ZiJ:EnvD:=⟨(fnp 19).2.2,["which","signs"],[],.ref 148,Str.ofString "_law_beside" ++ ".<locals>."⟩
def s106:SF:=(Qk (Zr Zpr (Zd (ZZ (Zf 1) (ZB .Mod (Zf 0) (Zb (.int 16)))) Zp)))
def s105:SF:=(ZU 1 (ZH (Zd (Zb (.int 172)) (Zd (Zb (.int 174)) (Zd (Zb (.int 846)) (Zd (Zb (.int 848)) (Zd (Zb (.int 6149)) (Zd (Zb (.int 6151)) (Zd (Zb (.int 6154)) (Zd (Zb (.int 6158)) (Zd (Zb (.int 8202)) (Zd (Zb (.int 8206)) (Zd (Zb (.int 8287)) (Zd (Zb (.int 8289)) (Zd (Zb (.int 65278)) (Zd (Zb (.int 65280)) (Zd (Zb (.int 65023)) (Zd (Zb (.int 65040)) Zp))))))))))))))))))
def Zce:SF:=(Zn s105
 (Zn s106
 ZA))
theorem Zin(H:HeadF w g mg mb):SDS w g 1 ZiJ (fnp 19).2.1 (Zce):=
 (Zc (Zj 1 (Zx (Za Ze (Za Ze (Za Ze (Za Ze (Za Ze (Za Ze (Za Ze (Za Ze (Za Ze (Za Ze (Za Ze (Za Ze (Za Ze (Za Ze (Za Ze (Za Ze Zg rfl) rfl) rfl) rfl) rfl) rfl) rfl) rfl) rfl) rfl) rfl) rfl) rfl) rfl) rfl) rfl)) rfl (by kernel_rfl) (by decide +kernel) (fun υ=>rfl))
 (Zc (Zw (Zad (hbi H "chr") (Za (ZK (nm 1) (Zi (nm 0) Ze) (fun υ υ=>rfl)) Zg rfl) Zgn))
 Zh))
def ZaF:FF:=Zgt (Qw 1 1 (Zce))
theorem Zit(H:HeadF w g mg mb):SCF w g 2 (.ref 149) (ZaF):=ZbD (ZaZ (o:=Zeu w.params) (names:=["which"]) (more:=["signs"]) H.B (hK H) rfl rfl rfl rfl rfl (codeRec_of H.K (by kernel_rfl)) (fun vs hl=>by apply ZoG hl;intros;rfl) (by decide +kernel) (by decide +kernel) (by decide +kernel) rfl rfl rfl (Zin H))
abbrev Zlg:EnvD:=⟨(fnp 20).2.2,["letter","which","starts"],[],.ref 155,Str.ofString "_law_form" ++ ".<locals>."⟩
def s113:SF:=(Qk (Zr Zpr (Zd (ZB .Sub (ZB .Add (ZZ (Zf 2) (ZB .Sub (ZB .Mod (Zf 1) (Zb (.int 12))) (Zb (.int 2)))) (Zr ordF (Zd (Zf 0) Zp))) (Zb (.int 97))) Zp)))
def s112:SF:=(ZU 2 (ZH (Zd (Zb (.int 119808)) (Zd (Zb (.int 119860)) (Zd (Zb (.int 119912)) (Zd (Zb (.int 120016)) (Zd (Zb (.int 120172)) (Zd (Zb (.int 120224)) (Zd (Zb (.int 120276)) (Zd (Zb (.int 120328)) (Zd (Zb (.int 120380)) (Zd (Zb (.int 120432)) Zp))))))))))))
def s111:SF:=(Qk (Zr Zpr (Zd (ZB .Sub (Zr ordF (Zd (Zf 0) Zp)) (Zb (.int 32))) Zp)))
def s110:SF:=(ifS (ZS .Eq (ZB .Mod (Zf 1) (Zb (.int 12))) (Zb (.int 1)))
 (Zn s111
 ZA)
 ZA)
def s109:SF:=(Qk (Zf 0))
def s108:SF:=(ifS (ZS .Eq (ZB .Mod (Zf 1) (Zb (.int 12))) (Zb (.int 0)))
 (Zn s109
 ZA)
 ZA)
def ZbA:SF:=(Zn s108
 (Zn s110
 (Zn s112
 (Zn s113
 ZA))))
theorem ZkV(H:HeadF w g mg mb):SDS w g 1 Zlg (fnp 20).2.1 (ZbA):=
 (Zc (ZC (Zz H.B (Zi (nm 1) Ze) Ze rfl)
 (Zc (Zw (nm 0))
 Zh)
 Zh)
 (Zc (ZC (Zz H.B (Zi (nm 1) Ze) Ze rfl)
 (Zc (Zw (Zad (hbi H "chr") (Za (Zi (Zad (hbi H "ord") (Za (nm 0) Zg rfl) ZiD) Ze) Zg rfl) Zgn))
 Zh)
 Zh)
 (Zc (Zj 2 (Zx (Za Ze (Za Ze (Za Ze (Za Ze (Za Ze (Za Ze (Za Ze (Za Ze (Za Ze (Za Ze Zg rfl) rfl) rfl) rfl) rfl) rfl) rfl) rfl) rfl) rfl)) rfl (by kernel_rfl) (by decide +kernel) (fun υ=>rfl))
 (Zc (Zw (Zad (hbi H "chr") (Za (Zi (Zi (ZK (nm 2) (Zi (Zi (nm 1) Ze) Ze) (fun υ υ=>rfl)) (Zad (hbi H "ord") (Za (nm 0) Zg rfl) ZiD)) Ze) Zg rfl) Zgn))
 Zh))))
def Zba:FF:=Zgt (Qw 2 1 (ZbA))
theorem ZkY(H:HeadF w g mg mb):SCF w g 2 (.ref 156) (Zba):=ZbD (ZaZ (o:=Zet w.params) (names:=["letter","which"]) (more:=["starts"]) H.B (hK H) rfl rfl rfl rfl rfl (codeRec_of H.K (by kernel_rfl)) (fun vs hl=>by apply len2 hl;intros;rfl) (by decide +kernel) (by decide +kernel) (by decide +kernel) rfl rfl rfl (ZkV H))
end
end
noncomputable section
noncomputable section
variable {w:World} {g:Heap} {mg mb:Str→Option Value}
abbrev ZjS:EnvD:=⟨(fnp 21).2.2,["cell","pool","rest","order","size"],[],.ref 162,Str.ofString "_law_order" ++ ".<locals>."⟩
def s121:SF:=(Qk (Zf 3))
def s120:SF:=(Ziz 2 .FloorDiv (Zf 4))
def s119:SF:=(Ziz 3 .Add (ZV "list" popF (Zf 1) (Zd (ZB .Mod (Zf 2) (Zf 4)) Zp)))
def s118:SF:=(Zbr (itE (ZH (Zd (Zb (.int 4)) (Zd (Zb (.int 3)) (Zd (Zb (.int 2)) (Zd (Zb (.int 1)) Zp)))))) (tgL 4)
 (Zn s119
 (Zn s120
 ZA)) 100)
def s117:SF:=(ZU 3 (Zb (.str (Str.ofString "").cps.toList)))
def s116:SF:=(ZU 2 (ZB .Mod (Zf 0) (Zb (.int 24))))
def s115:SF:=(ZU 1 (ZH (Zd (Zb (.str (Str.ofString "a").cps.toList)) (Zd (Zb (.str (Str.ofString "k").cps.toList)) (Zd (Zb (.str (Str.ofString "m").cps.toList)) (Zd (Zb (.str (Str.ofString "p").cps.toList)) Zp))))))
def Zcq:SF:=(Zn s115
 (Zn s116
 (Zn s117
 (Zn s118
 (Zn s121
 ZA)))))
theorem Zjs(H:HeadF w g mg mb):SDS w g 1 ZjS (fnp 21).2.1 (Zcq):=
 (Zc (Zj 1 (Zx (Za Zq (Za Zq (Za Zq (Za Zq Zg rfl) rfl) rfl) rfl)) rfl (by kernel_rfl) (by decide +kernel) (fun υ=>rfl))
 (Zc (Zj 2 (Zi (nm 0) Ze) rfl (by kernel_rfl) (by decide +kernel) (fun υ=>rfl))
 (Zc (Zj 3 Zq rfl (by kernel_rfl) (by decide +kernel) (fun υ=>rfl))
 (Zc (Zai 100 (Zy (Zx (Za Ze (Za Ze (Za Ze (Za Ze Zg rfl) rfl) rfl) rfl)))
 (Zc (ZaU 3 (Zag H.b3.toB2 (nm 1) (Za (Zi (nm 2) (nm 4)) Zg rfl) SCF.pop F.plainAttrs_list F.slot_list_pop F.type_list_pop (fun υ=>rfl) (fun υ=>rfl) rfl) rfl (by kernel_rfl) (by decide +kernel))
 (Zc (ZaU 2 (nm 4) rfl (by kernel_rfl) (by decide +kernel))
 Zh)) (DT1.loc 4 rfl (by kernel_rfl) (by decide +kernel)) (fun υ υ=>rfl))
 (Zc (Zw (nm 3))
 Zh)))))
def Zbi:FF:=Zgt (Qw 1 4 (Zcq))
theorem ZjH(H:HeadF w g mg mb):SCF w g 2 (.ref 163) (Zbi):=ZbD (ZaZ (o:=Zes w.params) (names:=["cell"]) (more:=["pool","rest","order","size"]) H.B (hK H) rfl rfl rfl rfl rfl (codeRec_of H.K (by kernel_rfl)) (fun vs hl=>by apply ZoG hl;intros;rfl) (by decide +kernel) (by decide +kernel) (by decide +kernel) rfl rfl rfl (Zjs H))
abbrev ZjR:EnvD:=⟨(fnp 22).2.2,["order","gone","way","place","joint","typed","spot","size","piece"],[],.ref 169,Str.ofString "_law_typed" ++ ".<locals>."⟩
def s140:SF:=(Qk (Zf 5))
def s139:SF:=(Ziz 6 .Add (Zf 7))
def s134:SF:=(Ziz 5 .Add (Zr Zpr (Zd (ZZ (Zf 4) (Zf 8)) Zp)))
def s136:SF:=(Ziz 5 .Add (Zr (ZaE) (Zd (ZB .Add (ZB .FloorDiv (Zf 2) (Zb (.int 24))) (Zf 3)) Zp)))
def s138:SF:=(Ziz 5 .Add (Zr (Zba) (Zd (Zf 8) (Zd (ZB .Add (ZB .FloorDiv (Zf 2) (Zb (.int 2))) (Zf 6)) Zp))))
def s135:SF:=(ifS (ZS .Eq (Zf 8) (Zf 1))
 (Zn s136
 ZA)
 (Zn s138
 ZA))
def s133:SF:=(ifS (ZS .Gt (Zf 7) (Zb (.int 1)))
 (Zn s134
 ZA)
 (Zn s135
 ZA))
def s132:SF:=(ZU 8 (ZgR (Zf 0) (Qj (Zf 6)) (Qj (ZB .Add (Zf 6) (Zf 7)))))
def s131:SF:=(ZU 7 (Zr lenF (Zd (Zf 8) Zp)))
def s130:SF:=(ifS (andT (ZS .In (Zf 8) (Zf 4)) (ZS .NotIn (Zf 1) (Zf 8)))
 (Zn s131
 ZA)
 ZA)
def s129:SF:=(Zbr (itE (ZH (Zd (ZgR (Zf 0) (Qj (Zf 6)) (Qj (ZB .Add (Zf 6) (Zb (.int 2))))) (Zd (ZgR (Zf 0) (Qj (Zf 6)) (Qj (ZB .Add (Zf 6) (Zb (.int 3))))) Zp)))) (tgL 8)
 (Zn s130
 ZA) 100)
def s128:SF:=(ifS (ZS .Eq (ZB .Mod (Zf 2) (Zb (.int 2))) (Zb (.int 1)))
 (Zn s129
 ZA)
 ZA)
def s127:SF:=(ZU 7 (Zb (.int 1)))
def s126:SF:=(Zbn (ZS .Lt (Zf 6) (Zb (.int 4)))
 (Zn s127
 (Zn s128
 (Zn s132
 (Zn s133
 (Zn s139
 ZA))))) 100)
def s125:SF:=(ZU 6 (Zb (.int 0)))
def s124:SF:=(ZU 5 (Zb (.str (Str.ofString "").cps.toList)))
def s123:SF:=(ZU 4 (dictE (Zjw (Zb (.str (Str.ofString "pa").cps.toList)) (Zb (.int 13184)) (Zjw (Zb (.str (Str.ofString "ma").cps.toList)) (Zb (.int 13187)) (Zjw (Zb (.str (Str.ofString "ka").cps.toList)) (Zb (.int 13188)) (Zjw (Zb (.str (Str.ofString "km").cps.toList)) (Zb (.int 13262)) (Zjw (Zb (.str (Str.ofString "kpa").cps.toList)) (Zb (.int 13226)) (Zjw (Zb (.str (Str.ofString "mpa").cps.toList)) (Zb (.int 13227)) nilK))))))))
def ZbK:SF:=(Zn s123
 (Zn s124
 (Zn s125
 (Zn s126
 (Zn s140
 ZA)))))
theorem Zjr(H:HeadF w g mg mb):SDS w g 2 ZjR (fnp 22).2.1 (ZbK):=
 (Zc (Zj 4 (SDE.dict (ZcI Zq Ze (ZcI Zq Ze (ZcI Zq Ze (ZcI Zq Ze (ZcI Zq Ze (ZcI Zq Ze SDK.nil)))))) rfl rfl (by simp) (by decide)) rfl (by kernel_rfl) (by decide +kernel) (fun υ=>rfl))
 (Zc (Zj 5 Zq rfl (by kernel_rfl) (by decide +kernel) (fun υ=>rfl))
 (Zc (Zj 6 Ze rfl (by kernel_rfl) (by decide +kernel) (fun υ=>rfl))
 (Zc (ZdG 100 (Zz H.B (nm 6) Ze rfl)
 (Zc (Zj 7 Ze rfl (by kernel_rfl) (by decide +kernel) (fun υ=>rfl))
 (Zc (ZC (Zz H.B (Zi (nm 2) Ze) Ze rfl)
 (Zc (Zai 100 (Zy (Zx (Za (ZaI (nm 0) (ZaC (nm 6)) (ZaC (Zi (nm 6) Ze)) (fun υ υ=>rfl)) (Za (ZaI (nm 0) (ZaC (nm 6)) (ZaC (Zi (nm 6) Ze)) (fun υ υ=>rfl)) Zg rfl) rfl)))
 (Zc (ZC (ZpB (Zz H.B (nm 8) (nm 4) rfl) (Zz H.B (nm 1) (nm 8) rfl))
 (Zc (Zj 7 (Zad (hbi H "len") (Za (nm 8) Zg rfl) Zcx) rfl (by kernel_rfl) (by decide +kernel) (fun υ=>rfl))
 Zh)
 Zh)
 Zh) (DT1.loc 8 rfl (by kernel_rfl) (by decide +kernel)) (fun υ υ=>rfl))
 Zh)
 Zh)
 (Zc (Zj 8 (ZaI (nm 0) (ZaC (nm 6)) (ZaC (Zi (nm 6) (nm 7))) (fun υ υ=>rfl)) rfl (by kernel_rfl) (by decide +kernel) (fun υ=>rfl))
 (Zc (ZC (Zz H.B (nm 7) Ze rfl)
 (Zc (ZaU 5 (Zad (hbi H "chr") (Za (ZK (nm 4) (nm 8) (fun υ υ=>rfl)) Zg rfl) Zgn) rfl (by kernel_rfl) (by decide +kernel))
 Zh)
 (Zc (ZC (Zz H.B (nm 8) (nm 1) rfl)
 (Zc (ZaU 5 (ZD (o:=Zev w.params) (hfn H 142) (hK H) rfl (Za (Zi (Zi (nm 2) Ze) (nm 3)) Zg rfl) (ZM (Zis H) (by decide))) rfl (by kernel_rfl) (by decide +kernel))
 Zh)
 (Zc (ZaU 5 (ZD (o:=Zet w.params) (hfn H 156) (hK H) rfl (Za (nm 8) (Za (Zi (Zi (nm 2) Ze) (nm 6)) Zg rfl) rfl) (ZM (ZkY H) (by decide))) rfl (by kernel_rfl) (by decide +kernel))
 Zh))
 Zh))
 (Zc (ZaU 6 (nm 7) rfl (by kernel_rfl) (by decide +kernel))
 Zh))))))
 (Zc (Zw (nm 5))
 Zh)))))
def ZaL:FF:=Zgt (Qw 4 5 (ZbK))
theorem ZjG(H:HeadF w g mg mb):SCF w g 3 (.ref 170) (ZaL):=ZbD (ZaZ (o:=Zer w.params) (names:=["order","gone","way","place"]) (more:=["joint","typed","spot","size","piece"]) H.B (hK H) rfl rfl rfl rfl rfl (codeRec_of H.K (by kernel_rfl)) (fun vs hl=>by apply len4 hl;intros;rfl) (by decide +kernel) (by decide +kernel) (by decide +kernel) rfl rfl rfl (Zjr H))
abbrev Zgq:EnvD:=⟨(fnp 23).2.2,["text","out","sign","held"],[],.ref 176,Str.ofString "_law_prepared" ++ ".<locals>."⟩
def s149:SF:=(Qk (Zf 1))
def s146:SF:=(Ziz 1 .Add (Zr (ZaJ) (Zd (Zf 2) Zp)))
def s148:SF:=(Qk (Zb (.str (Str.ofString "").cps.toList)))
def s147:SF:=(ifS (ZS .IsNot (Zf 3) (Zb (.bool true)))
 (Zn s148
 ZA)
 ZA)
def s145:SF:=(ifS (ZS .Is (Zf 3) (Zb (.bool false)))
 (Zn s146
 ZA)
 (Zn s147
 ZA))
def s144:SF:=(ZU 3 (Zr (Zbt) (Zd (Zf 2) Zp)))
def s143:SF:=(Zbr (itE (Zf 0)) (tgL 2)
 (Zn s144
 (Zn s145
 ZA)) 100)
def s142:SF:=(ZU 1 (Zb (.str (Str.ofString "").cps.toList)))
def ZaP:SF:=(Zn s142
 (Zn s143
 (Zn s149
 ZA)))
theorem ZfX(H:HeadF w g mg mb):SDS w g 2 Zgq (fnp 23).2.1 (ZaP):=
 (Zc (Zj 1 Zq rfl (by kernel_rfl) (by decide +kernel) (fun υ=>rfl))
 (Zc (Zai 100 (Zy (nm 0))
 (Zc (Zj 3 (ZD (o:=ZcV w.params) (hfn H 75) (hK H) rfl (Za (nm 2) Zg rfl) (ZM (Ziq H) (by decide))) rfl (by kernel_rfl) (by decide +kernel) (fun υ=>rfl))
 (Zc (ZC (Zz H.B (nm 3) Zt rfl)
 (Zc (ZaU 1 (ZD (o:=Zew w.params) (hfn H 121) (hK H) rfl (Za (nm 2) Zg rfl) (ZM (ZgG H) (by decide))) rfl (by kernel_rfl) (by decide +kernel))
 Zh)
 (Zc (ZC (Zz H.B (nm 3) Zt rfl)
 (Zc (Zw Zq)
 Zh)
 Zh)
 Zh))
 Zh)) (DT1.loc 2 rfl (by kernel_rfl) (by decide +kernel)) (fun υ υ=>rfl))
 (Zc (Zw (nm 1))
 Zh)))
def ZbE:FF:=Zgt (Qw 1 3 (ZaP))
theorem Zgg(H:HeadF w g mg mb):SCF w g 3 (.ref 177) (ZbE):=ZbD (ZaZ (o:=Zeq w.params) (names:=["text"]) (more:=["out","sign","held"]) H.B (hK H) rfl rfl rfl rfl rfl (codeRec_of H.K (by kernel_rfl)) (fun vs hl=>by apply ZoG hl;intros;rfl) (by decide +kernel) (by decide +kernel) (by decide +kernel) rfl rfl rfl (ZfX H))
abbrev E__ellipsis_match:EnvD:=⟨(fnp 7).2.2,["want","got","ws","startpos","endpos","w"],[],.ref 56,Str.ofString "_ellipsis_match" ++ ".<locals>."⟩
def s83:SF:=(Qk (Zb (.bool true)))
def s82:SF:=(Ziz 3 .Add (Zr lenF (Zd (Zf 5) Zp)))
def s81:SF:=(Qk (Zb (.bool false)))
def s80:SF:=(ifS (ZS .Lt (Zf 3) (Zb (.int 0)))
 (Zn s81
 ZA)
 ZA)
def s79:SF:=(ZU 3 (ZV "str" ZdD (Zf 1) (Zd (Zf 5) (Zd (Zf 3) (Zd (Zf 4) Zp)))))
def s78:SF:=(Zbr (itE (Zf 2)) (tgL 5)
 (Zn s79
 (Zn s80
 (Zn s82
 ZA))) 100)
def s77:SF:=(Qk (Zb (.bool false)))
def s76:SF:=(ifS (ZS .Gt (Zf 3) (Zf 4))
 (Zn s77
 ZA)
 ZA)
def s73:SF:=(delS (Zf 2) (negE (Zb (.int 1))))
def s72:SF:=(Ziz 4 .Sub (Zr lenF (Zd (Zf 5) Zp)))
def s75:SF:=(Qk (Zb (.bool false)))
def s71:SF:=(ifS (Zek (ZV "str" endsF (Zf 1) (Zd (Zf 5) Zp)))
 (Zn s72
 (Zn s73
 ZA))
 (Zn s75
 ZA))
def s70:SF:=(ifS (Zek (Zf 5))
 (Zn s71
 ZA)
 ZA)
def s69:SF:=(ZU 5 (ZZ (Zf 2) (negE (Zb (.int 1)))))
def s66:SF:=(delS (Zf 2) (Zb (.int 0)))
def s65:SF:=(ZU 3 (Zr lenF (Zd (Zf 5) Zp)))
def s68:SF:=(Qk (Zb (.bool false)))
def s64:SF:=(ifS (Zek (ZV "str" ZjZ (Zf 1) (Zd (Zf 5) Zp)))
 (Zn s65
 (Zn s66
 ZA))
 (Zn s68
 ZA))
def s63:SF:=(ifS (Zek (Zf 5))
 (Zn s64
 ZA)
 ZA)
def s62:SF:=(ZU 5 (ZZ (Zf 2) (Zb (.int 0))))
def s61:SF:=(tupS (Zd (Zb (.int 0)) (Zd (Zr lenF (Zd (Zf 1) Zp)) Zp)) [(tgL 3),(tgL 4)])
def s60:SF:=(ZiA (ZS .GtE (Zr lenF (Zd (Zf 2) Zp)) (Zb (.int 2))))
def s59:SF:=(ZU 2 (ZV "str" ZgQ (Zf 0) (Zd (Zb (.str (Str.ofString "...").cps.toList)) Zp)))
def s58:SF:=(Qk (ZbG (ZS .Eq (Zf 0) (Zf 1))))
def s57:SF:=(ifS (ZS .NotIn (Zb (.str (Str.ofString "...").cps.toList)) (Zf 0))
 (Zn s58
 ZA)
 ZA)
def f__ellipsis_match:SF:=(Zn s57
 (Zn s59
 (Zn s60
 (Zn s61
 (Zn s62
 (Zn s63
 (Zn s69
 (Zn s70
 (Zn s76
 (Zn s78
 (Zn s83
 ZA)))))))))))
theorem d__ellipsis_match(H:HeadF w g mg mb):SDS w g 1 E__ellipsis_match (fnp 7).2.1 (f__ellipsis_match):=
 (Zc (ZC (Zz H.B (SHeadF.vstr H "..." (by kernel_rfl) (by kernel_rfl) (by kernel_rfl)) (nm 0) rfl)
 (Zc (Zw (ZbR H.B (nm 0) (nm 1) rfl))
 Zh)
 Zh)
 (Zc (Zj 2 (Zag H.b3.toB2 (nm 0) (Za (SHeadF.vstr H "..." (by kernel_rfl) (by kernel_rfl) (by kernel_rfl)) Zg rfl) ZjM F.plainAttrs_str F.slot_str_split F.type_str_split (fun υ=>rfl) (fun υ=>rfl) rfl) rfl (by kernel_rfl) (by decide +kernel) (fun υ=>rfl))
 (Zc (Zld (Zz H.B (Zad (hbi H "len") (Za (nm 2) Zg rfl) Zcx) Ze rfl))
 (Zc (Zea (names:=["startpos","endpos"]) (Za Ze (Za (Zad (hbi H "len") (Za (nm 1) Zg rfl) Zcx) Zg rfl) rfl) (.cons (DT1.loc 3 rfl (by kernel_rfl) (by decide +kernel)) (.cons (DT1.loc 4 rfl (by kernel_rfl) (by decide +kernel)) .nil)) (by decide) (fun υ υ=>rfl) (fun env he=>by obtain ⟨sc⟩:=env;cases he;kernel_rfl))
 (Zc (Zj 5 (ZK (nm 2) Ze (fun υ υ=>rfl)) rfl (by kernel_rfl) (by decide +kernel) (fun υ=>rfl))
 (Zc (ZC (ZaS (nm 5) (fun υ υ=>rfl))
 (Zc (ZC (ZaS (Zag H.b3.toB2 (nm 1) (Za (nm 5) Zg rfl) ZnU F.plainAttrs_str F.slot_str_startswith F.type_str_startswith (fun υ=>rfl) (fun υ=>rfl) rfl) (fun υ υ=>rfl))
 (Zc (Zj 3 (Zad (hbi H "len") (Za (nm 5) Zg rfl) Zcx) rfl (by kernel_rfl) (by decide +kernel) (fun υ=>rfl))
 (Zc (Znp (nm 2) Ze)
 Zh))
 (Zc (Zw Zt)
 Zh))
 Zh)
 Zh)
 (Zc (Zj 5 (ZK (nm 2) (ZpC Ze) (fun υ υ=>rfl)) rfl (by kernel_rfl) (by decide +kernel) (fun υ=>rfl))
 (Zc (ZC (ZaS (nm 5) (fun υ υ=>rfl))
 (Zc (ZC (ZaS (Zag H.b3.toB2 (nm 1) (Za (nm 5) Zg rfl) SCF.ends F.plainAttrs_str F.slot_str_endswith F.type_str_endswith (fun υ=>rfl) (fun υ=>rfl) rfl) (fun υ υ=>rfl))
 (Zc (ZaU 4 (Zad (hbi H "len") (Za (nm 5) Zg rfl) Zcx) rfl (by kernel_rfl) (by decide +kernel))
 (Zc (Znp (nm 2) (ZpC Ze))
 Zh))
 (Zc (Zw Zt)
 Zh))
 Zh)
 Zh)
 (Zc (ZC (Zz H.B (nm 3) (nm 4) rfl)
 (Zc (Zw Zt)
 Zh)
 Zh)
 (Zc (Zai 100 (Zy (nm 2))
 (Zc (Zj 3 (Zag H.b3.toB2 (nm 1) (Za (nm 5) (Za (nm 3) (Za (nm 4) Zg rfl) rfl) rfl) Zdt F.plainAttrs_str F.slot_str_find F.type_str_find (fun υ=>rfl) (fun υ=>rfl) rfl) rfl (by kernel_rfl) (by decide +kernel) (fun υ=>rfl))
 (Zc (ZC (Zz H.B (nm 3) Ze rfl)
 (Zc (Zw Zt)
 Zh)
 Zh)
 (Zc (ZaU 3 (Zad (hbi H "len") (Za (nm 5) Zg rfl) Zcx) rfl (by kernel_rfl) (by decide +kernel))
 Zh))) (DT1.loc 5 rfl (by kernel_rfl) (by decide +kernel)) (fun υ υ=>rfl))
 (Zc (Zw Zt)
 Zh)))))))))))
def F__ellipsis_match:FF:=Zgt (Qw 2 4 (f__ellipsis_match))
theorem c__ellipsis_match(H:HeadF w g mg mb):SCF w g 2 (.ref 57) (F__ellipsis_match):=ZbD (ZaZ (o:=Zde w.params) (names:=["want","got"]) (more:=["ws","startpos","endpos","w"]) H.B (hK H) rfl rfl rfl rfl rfl (codeRec_of H.K (by kernel_rfl)) (fun vs hl=>by apply len2 hl;intros;rfl) (by decide +kernel) (by decide +kernel) (by decide +kernel) rfl rfl rfl (d__ellipsis_match H))
abbrev ZjU:EnvD:=⟨(fnp 24).2.2,["want","got","said","answer"],[],.ref 183,Str.ofString "_law_asked" ++ ".<locals>."⟩
def s153:SF:=(Qk (ZbG (ZS .Is (Zf 3) (Zb (.bool true)))))
def s152:SF:=(Zgu (ZV "list" Zgk (Zf 2) (Zd (Zf 3) Zp)))
def s151:SF:=(ZU 3 (Zr (F__ellipsis_match) (Zd (Zf 0) (Zd (Zf 1) Zp))))
def Zcs:SF:=(Zn s151
 (Zn s152
 (Zn s153
 ZA)))
theorem Zju(H:HeadF w g mg mb):SDS w g 2 ZjU (fnp 24).2.1 (Zcs):=
 (Zc (Zj 3 (ZD (o:=Zde w.params) (hfn H 57) (hK H) rfl (Za (nm 0) (Za (nm 1) Zg rfl) rfl) (ZM (c__ellipsis_match H) (by decide))) rfl (by kernel_rfl) (by decide +kernel) (fun υ=>rfl))
 (Zc (ZaT (Zag H.b3.toB2 (nm 2) (Za (nm 3) Zg rfl) ZdK F.plainAttrs_list F.slot_list_append F.type_list_append (fun υ=>rfl) (fun υ=>rfl) rfl) (fun υ=>rfl))
 (Zc (Zw (ZbR H.B (nm 3) Zt rfl))
 Zh)))
def Zab:FF:=isoL1 (Qw 3 1 (Zcs))
theorem ZaA(H:HeadF w g mg mb):SCF w g 3 (.ref 184) (Zab):=ZjN (ZaZ (o:=Zbc w.params) (names:=["want","got","said"]) (more:=["answer"]) H.B (hK H) rfl rfl rfl rfl rfl (codeRec_of H.K (by kernel_rfl)) (fun vs hl=>by apply len3 hl;intros;rfl) (by decide +kernel) (by decide +kernel) (by decide +kernel) rfl rfl rfl (Zju H))
abbrev ZjT:EnvD:=⟨(fnp 25).2.2,["holders","weights"],[],.ref 188,Str.ofString "_law_heavy" ++ ".<locals>."⟩
def s155:SF:=(Qk (Zr sumF (Zd (zipE (Zd (Zf 0) (Zd (Zf 1) Zp)) (Zek (Zf 0)) (Zf 1) 100) Zp)))
def Zcr:SF:=(Zn s155
 ZA)
theorem Zjt(H:HeadF w g mg mb):SDS w g 1 ZjT (fnp 25).2.1 (Zcr):=
 (Zc (Zw (Zad (hbi H "sum") (Za (Znq 100 H.B [] (hty H "zip") (Za (nm 0) (Za (nm 1) Zg rfl) rfl) (ZaS (nm 0) (fun υ υ=>rfl)) (nm 1) rfl (by kernel_rfl) (by kernel_rfl) (by kernel_rfl) (by kernel_rfl) trivial (fun υ υ=>rfl)) Zg rfl) Zle))
 Zh)
def Zaq:FF:=isoL2 (Qw 2 0 (Zcr))
theorem Zcv(H:HeadF w g mg mb):SCF w g 2 (.ref 189) (Zaq):=ZpF (ZaZ (o:=Zcz w.params) (names:=["holders","weights"]) (more:=[]) H.B (hK H) rfl rfl rfl rfl rfl (codeRec_of H.K (by kernel_rfl)) (fun vs hl=>by apply len2 hl;intros;rfl) (by decide +kernel) (by decide +kernel) (by decide +kernel) rfl rfl rfl (Zjt H))
end
end
section
section
variable {w:World} {g:Heap} {mg mb:Str→Option Value}
noncomputable def fullI:List MV→List MV
 | [a,x,k]=>[a,x,.int 0,.none,k]
 | _=>[]
noncomputable abbrev ZgM:EnvD:=⟨(fnp 2).2.2,["a","x","lo","hi","key","mid"],[],.ref 31,Str.ofString "bisect_right" ++ ".<locals>."⟩
noncomputable def s27(lamF:ZF):SF:=(Qk (Zf 2))
noncomputable def s24(lamF:ZF):SF:=(ZU 3 (Zf 5))
noncomputable def s26(lamF:ZF):SF:=(ZU 2 (ZB .Add (Zf 5) (Zb (.int 1))))
noncomputable def s23(lamF:ZF):SF:=(ifS (ZS .Lt (Zf 1) (ZgF lamF (Zf 4) (Zd (ZZ (Zf 0) (Zf 5)) Zp)))
 (Zn (s24 lamF)
 ZA)
 (Zn (s26 lamF)
 ZA))
noncomputable def s22(lamF:ZF):SF:=(ZU 5 (ZB .FloorDiv (ZB .Add (Zf 2) (Zf 3)) (Zb (.int 2))))
noncomputable def s21(lamF:ZF):SF:=(Zbn (ZS .Lt (Zf 2) (Zf 3))
 (Zn (s22 lamF)
 (Zn (s23 lamF)
 ZA)) 100)
noncomputable def s13(lamF:ZF):SF:=(ifS (ZS .Is (Zf 4) (Zb .none))
 ZdS
 (Zn (s21 lamF)
 ZA))
noncomputable def s12(lamF:ZF):SF:=(ZU 3 (Zr lenF (Zd (Zf 0) Zp)))
noncomputable def s11(lamF:ZF):SF:=(ifS (ZS .Is (Zf 3) (Zb .none))
 (Zn (s12 lamF)
 ZA)
 ZA)
noncomputable def s9(lamF:ZF):SF:=(ifS (ZS .Lt (Zf 2) (Zb (.int 0)))
 ZdS
 ZA)
noncomputable def ZbN(lamF:ZF):SF:=(Zn (s9 lamF)
 (Zn (s11 lamF)
 (Zn (s13 lamF)
 (Zn (s27 lamF)
 ZA))))
theorem ZgD{lamF:ZF}(H:HeadF w g mg mb)(L:SCLam w g 8 lamF):SDS w g 8 ZgM (fnp 2).2.1 (ZbN lamF):=
 (Zc (ZC (Zz H.B (nm 2) Ze rfl)
 ZbY
 Zh)
 (Zc (ZC (Zz H.B (nm 3) ZaV rfl)
 (Zc (Zj 3 (Zad (hbi H "len") (Za (nm 0) Zg rfl) Zcx) rfl (by kernel_rfl) (by decide +kernel) (fun υ=>rfl))
 Zh)
 Zh)
 (Zc (ZC (Zz H.B (nm 4) ZaV rfl)
 ZbY
 (Zc (ZdG 100 (Zz H.B (nm 2) (nm 3) rfl)
 (Zc (Zj 5 (Zi (Zi (nm 2) (nm 3)) Ze) rfl (by kernel_rfl) (by decide +kernel) (fun υ=>rfl))
 (Zc (ZC (Zz H.B (nm 1) (Zds (Zbv L (by decide)) (nm 4) (Za (ZK (nm 0) (nm 5) (fun υ υ=>rfl)) Zg rfl)) rfl)
 (Zc (Zj 3 (nm 5) rfl (by kernel_rfl) (by decide +kernel) (fun υ=>rfl))
 Zh)
 (Zc (Zj 2 (Zi (nm 5) Ze) rfl (by kernel_rfl) (by decide +kernel) (fun υ=>rfl))
 Zh))
 Zh)))
 Zh))
 (Zc (Zw (nm 2))
 Zh))))
noncomputable def ZbS(lamF:ZF):FF:=ZgA 5 1 id (ZbN lamF)
theorem ZgH{lamF:ZF}(H:HeadF w g mg mb)(L:SCLam w g 8 lamF):SCFK w g 9 (.ref 32) (ZbS lamF):=ZeD (o:=Zdg w.params) (names:=["a","x","lo","hi","key"]) (more:=["mid"]) H.B (hK H) rfl rfl rfl rfl rfl (codeRec_of H.K (by kernel_rfl)) (fun ρ args vs kv s hbase hv hl=>by
 have hvl:vs.length=4:=by have:=hv.len;simp at this;lia
 revert hv;apply len4 hvl;intro v0 v1 v2 v3 hv;exact ⟨[v0,v1,v2,v3,kv],BindsTo.of_defaults (T:=24) rfl (hbase _ _ (H.K _ (ZdO w.params) (by kernel_rfl))) rfl rfl rfl,hv,rfl⟩) (by decide +kernel) (by decide +kernel) (by decide +kernel) rfl rfl rfl (ZgD H L)
noncomputable abbrev ZiH:EnvD:=⟨(fnp 4).2.2,["a","x","lo","hi","key","mid"],[],.ref 49,Str.ofString "bisect_left" ++ ".<locals>."⟩
noncomputable def s53(lamF:ZF):SF:=(Qk (Zf 2))
noncomputable def s50(lamF:ZF):SF:=(ZU 2 (ZB .Add (Zf 5) (Zb (.int 1))))
noncomputable def s52(lamF:ZF):SF:=(ZU 3 (Zf 5))
noncomputable def s49(lamF:ZF):SF:=(ifS (ZS .Lt (ZgF lamF (Zf 4) (Zd (ZZ (Zf 0) (Zf 5)) Zp)) (Zf 1))
 (Zn (s50 lamF)
 ZA)
 (Zn (s52 lamF)
 ZA))
noncomputable def s48(lamF:ZF):SF:=(ZU 5 (ZB .FloorDiv (ZB .Add (Zf 2) (Zf 3)) (Zb (.int 2))))
noncomputable def s47(lamF:ZF):SF:=(Zbn (ZS .Lt (Zf 2) (Zf 3))
 (Zn (s48 lamF)
 (Zn (s49 lamF)
 ZA)) 100)
noncomputable def s39(lamF:ZF):SF:=(ifS (ZS .Is (Zf 4) (Zb .none))
 ZdS
 (Zn (s47 lamF)
 ZA))
noncomputable def s38(lamF:ZF):SF:=(ZU 3 (Zr lenF (Zd (Zf 0) Zp)))
noncomputable def s37(lamF:ZF):SF:=(ifS (ZS .Is (Zf 3) (Zb .none))
 (Zn (s38 lamF)
 ZA)
 ZA)
noncomputable def s35(lamF:ZF):SF:=(ifS (ZS .Lt (Zf 2) (Zb (.int 0)))
 ZdS
 ZA)
noncomputable def Zcc(lamF:ZF):SF:=(Zn (s35 lamF)
 (Zn (s37 lamF)
 (Zn (s39 lamF)
 (Zn (s53 lamF)
 ZA))))
theorem Zil{lamF:ZF}(H:HeadF w g mg mb)(L:SCLam w g 8 lamF):SDS w g 8 ZiH (fnp 4).2.1 (Zcc lamF):=
 (Zc (ZC (Zz H.B (nm 2) Ze rfl)
 ZbY
 Zh)
 (Zc (ZC (Zz H.B (nm 3) ZaV rfl)
 (Zc (Zj 3 (Zad (hbi H "len") (Za (nm 0) Zg rfl) Zcx) rfl (by kernel_rfl) (by decide +kernel) (fun υ=>rfl))
 Zh)
 Zh)
 (Zc (ZC (Zz H.B (nm 4) ZaV rfl)
 ZbY
 (Zc (ZdG 100 (Zz H.B (nm 2) (nm 3) rfl)
 (Zc (Zj 5 (Zi (Zi (nm 2) (nm 3)) Ze) rfl (by kernel_rfl) (by decide +kernel) (fun υ=>rfl))
 (Zc (ZC (Zz H.B (Zds (Zbv L (by decide)) (nm 4) (Za (ZK (nm 0) (nm 5) (fun υ υ=>rfl)) Zg rfl)) (nm 1) rfl)
 (Zc (Zj 2 (Zi (nm 5) Ze) rfl (by kernel_rfl) (by decide +kernel) (fun υ=>rfl))
 Zh)
 (Zc (Zj 3 (nm 5) rfl (by kernel_rfl) (by decide +kernel) (fun υ=>rfl))
 Zh))
 Zh)))
 Zh))
 (Zc (Zw (nm 2))
 Zh))))
noncomputable def Zcg(lamF:ZF):FF:=ZgA 5 1 id (Zcc lamF)
theorem Zir{lamF:ZF}(H:HeadF w g mg mb)(L:SCLam w g 8 lamF):SCFK w g 9 (.ref 50) (Zcg lamF):=ZeD (o:=Zdf w.params) (names:=["a","x","lo","hi","key"]) (more:=["mid"]) H.B (hK H) rfl rfl rfl rfl rfl (codeRec_of H.K (by kernel_rfl)) (fun ρ args vs kv s hbase hv hl=>by
 have hvl:vs.length=4:=by have:=hv.len;simp at this;lia
 revert hv;apply len4 hvl;intro v0 v1 v2 v3 hv;exact ⟨[v0,v1,v2,v3,kv],BindsTo.of_defaults (T:=42) rfl (hbase _ _ (H.K _ (ZdM w.params) (by kernel_rfl))) rfl rfl rfl,hv,rfl⟩) (by decide +kernel) (by decide +kernel) (by decide +kernel) rfl rfl rfl (Zil H L)
noncomputable abbrev ZgL:EnvD:=⟨(fnp 1).2.2,["a","x","lo","hi","key"],[],.ref 22,Str.ofString "insort_right" ++ ".<locals>."⟩
noncomputable def s7(lamF:ZF):SF:=(Zgu (ZV "list" ZfL (Zf 0) (Zd (Zf 2) (Zd (Zf 1) Zp))))
noncomputable def s6(lamF:ZF):SF:=(ZU 2 (ZbX (ZbS lamF) (Zd (Zf 0) (Zd (ZgF lamF (Zf 4) (Zd (Zf 1) Zp)) (Zd (Zf 2) (Zd (Zf 3) Zp)))) (Zf 4)))
noncomputable def s3(lamF:ZF):SF:=(ifS (ZS .Is (Zf 4) (Zb .none))
 ZdS
 (Zn (s6 lamF)
 ZA))
noncomputable def ZbM(lamF:ZF):SF:=(Zn (s3 lamF)
 (Zn (s7 lamF)
 ZA))
theorem ZgC{lamF:ZF}(H:HeadF w g mg mb)(L:SCLam w g 8 lamF):SDS w g 9 ZgL (fnp 1).2.1 (ZbM lamF):=
 (Zc (ZC (Zz H.B (nm 4) ZaV rfl)
 ZbY
 (Zc (Zj 2 (ZbZ (o:=Zdg w.params) (hfn H 32) (hK H) rfl (Za (nm 0) (Za (Zds (Zbv L (by decide)) (nm 4) (Za (nm 1) Zg rfl)) (Za (nm 2) (Za (nm 3) Zg rfl) rfl) rfl) rfl) (nm 4) (fun υ=>rfl) (Zca (ZgH H L) (by decide))) rfl (by kernel_rfl) (by decide +kernel) (fun υ=>rfl))
 Zh))
 (Zc (ZaT (Zag H.b3.toB2 (nm 0) (Za (nm 2) (Za (nm 1) Zg rfl) rfl) ZdJ F.plainAttrs_list F.slot_list_insert F.type_list_insert (fun υ=>rfl) (fun υ=>rfl) rfl) (fun υ=>rfl))
 Zh))
noncomputable def Zax(lamF:ZF):FF:=ZgA 3 0 fullI (ZbM lamF)
theorem ZcT{lamF:ZF}(H:HeadF w g mg mb)(L:SCLam w g 8 lamF):SCFK w g 10 (.ref 23) (Zax lamF):=ZeD (o:=ZcP w.params) (names:=["a","x","lo","hi","key"]) (more:=[]) H.B (hK H) rfl rfl rfl rfl rfl (codeRec_of H.K (by kernel_rfl)) (fun ρ args vs kv s hbase hv hl=>by
 have hvl:vs.length=2:=by have:=hv.len;simp at this;lia
 revert hv;apply len2 hvl;intro v0 v1;apply len3 hl;intro a x k hv
 exact ⟨[v0,v1,.int 0 189,.none,kv],BindsTo.of_defaults (T:=15) rfl (hbase _ _ (H.K _ (ZdP w.params) (by kernel_rfl))) rfl rfl rfl,(by cases hv with | cons h1 h2=>cases h2 with | cons h2 h3=>cases h3 with | cons h3 h4=>exact .cons h1 (.cons h2 (.cons ⟨_,rfl⟩ (.cons rfl (.cons h3 .nil))))),rfl⟩) (by decide +kernel) (by decide +kernel) (by decide +kernel) rfl rfl rfl (ZgC H L)
noncomputable abbrev ZiF:EnvD:=⟨(fnp 3).2.2,["a","x","lo","hi","key"],[],.ref 40,Str.ofString "insort_left" ++ ".<locals>."⟩
noncomputable def s33(lamF:ZF):SF:=(Zgu (ZV "list" ZfL (Zf 0) (Zd (Zf 2) (Zd (Zf 1) Zp))))
noncomputable def s32(lamF:ZF):SF:=(ZU 2 (ZbX (Zcg lamF) (Zd (Zf 0) (Zd (ZgF lamF (Zf 4) (Zd (Zf 1) Zp)) (Zd (Zf 2) (Zd (Zf 3) Zp)))) (Zf 4)))
noncomputable def s29(lamF:ZF):SF:=(ifS (ZS .Is (Zf 4) (Zb .none))
 ZdS
 (Zn (s32 lamF)
 ZA))
noncomputable def Zcb(lamF:ZF):SF:=(Zn (s29 lamF)
 (Zn (s33 lamF)
 ZA))
theorem Zij{lamF:ZF}(H:HeadF w g mg mb)(L:SCLam w g 8 lamF):SDS w g 9 ZiF (fnp 3).2.1 (Zcb lamF):=
 (Zc (ZC (Zz H.B (nm 4) ZaV rfl)
 ZbY
 (Zc (Zj 2 (ZbZ (o:=Zdf w.params) (hfn H 50) (hK H) rfl (Za (nm 0) (Za (Zds (Zbv L (by decide)) (nm 4) (Za (nm 1) Zg rfl)) (Za (nm 2) (Za (nm 3) Zg rfl) rfl) rfl) rfl) (nm 4) (fun υ=>rfl) (Zca (Zir H L) (by decide))) rfl (by kernel_rfl) (by decide +kernel) (fun υ=>rfl))
 Zh))
 (Zc (ZaT (Zag H.b3.toB2 (nm 0) (Za (nm 2) (Za (nm 1) Zg rfl) rfl) ZdJ F.plainAttrs_list F.slot_list_insert F.type_list_insert (fun υ=>rfl) (fun υ=>rfl) rfl) (fun υ=>rfl))
 Zh))
noncomputable def ZaD(lamF:ZF):FF:=ZgA 3 0 fullI (Zcb lamF)
theorem Zdp{lamF:ZF}(H:HeadF w g mg mb)(L:SCLam w g 8 lamF):SCFK w g 10 (.ref 41) (ZaD lamF):=ZeD (o:=ZcO w.params) (names:=["a","x","lo","hi","key"]) (more:=[]) H.B (hK H) rfl rfl rfl rfl rfl (codeRec_of H.K (by kernel_rfl)) (fun ρ args vs kv s hbase hv hl=>by
 have hvl:vs.length=2:=by have:=hv.len;simp at this;lia
 revert hv;apply len2 hvl;intro v0 v1;apply len3 hl;intro a x k hv
 exact ⟨[v0,v1,.int 0 216,.none,kv],BindsTo.of_defaults (T:=33) rfl (hbase _ _ (H.K _ (ZdN w.params) (by kernel_rfl))) rfl rfl rfl,(by cases hv with | cons h1 h2=>cases h2 with | cons h2 h3=>cases h3 with | cons h3 h4=>exact .cons h1 (.cons h2 (.cons ⟨_,rfl⟩ (.cons rfl (.cons h3 .nil))))),rfl⟩) (by decide +kernel) (by decide +kernel) (by decide +kernel) rfl rfl rfl (Zij H L)
end
end
noncomputable section
theorem ZfF:List.Nodup (α:=Str) ["x","y","z","taken","passed"]:=by decide +kernel
theorem nd_G4_1:List.Nodup (α:=Str) ["orders","weights","over"]:=by decide +kernel
theorem ZkH:List.Nodup (α:=Str) ["coming","by_left","row","done"]:=by decide +kernel
noncomputable section
variable {w:World} {g:Heap} {mg mb:Str→Option Value}
abbrev Zda(n:Nat):EnvD:=⟨(fnp 26).2.2,["x","y","z","taken","passed"],Zbk n ["said","ballot"],.ref 193,Str.ofString "_law_told_of_dots" ++ ".<locals>."⟩
def s162(n:Nat):SF:=(Qk (andE (Zr (Zab) (Zd (ZB .Add (ZB .Add (ZB .Add (ZB .Add (Zb (.str (Str.ofString "...").cps.toList)) (Zf 0)) (Zb (.str (Str.ofString "...").cps.toList))) (Zf 0)) (Zb (.str (Str.ofString "...").cps.toList))) (Zd (ZB .Mult (ZL (n+1)) (Zb (.int 2))) (Zd (ZL n) Zp)))) (Zr (Zab) (Zd (ZB .Add (ZB .Add (Zf 0) (Zb (.str (Str.ofString "...").cps.toList))) (Zf 2)) (Zd (ZB .Add (ZB .Add (Zf 0) (Zb (.str (Str.ofString "\n").cps.toList))) (Zf 2)) (Zd (ZL n) Zp))))))
def s161(n:Nat):SF:=(Qk (Zb (.bool false)))
def s160(n:Nat):SF:=(ifS (ZS .NotEq (Qb (itE (ZB .Add (Zf 3) (Zf 4))) Qi (Zr (Zab) (Zd (Zf 0) (Zd (ZL (n+1)) (Zd (ZL n) Zp)))) 100) (ZB .Add (ZB .Mult (ZH (Zd (Zb (.bool true)) Zp)) (Zb (.int 3))) (ZB .Mult (ZH (Zd (Zb (.bool false)) Zp)) (Zb (.int 10)))))
 (Zn (s161 n)
 ZA)
 ZA)
def s159(n:Nat):SF:=(ZU 4 (ZH (Zd (ZB .Add (Zf 0) (Zf 1)) (Zd (ZB .Add (Zf 1) (Zf 2)) (Zd (ZB .Add (ZB .Add (Zf 0) (Zf 2)) (Zb (.str (Str.ofString "...").cps.toList))) (Zd (ZB .Add (ZB .Add (Zb (.str (Str.ofString "...").cps.toList)) (Zf 0)) (Zf 2)) (Zd (ZB .Add (ZB .Add (ZB .Add (ZB .Add (Zf 0) (Zf 1)) (Zb (.str (Str.ofString "...").cps.toList))) (Zf 1)) (Zf 2)) (Zd (ZB .Add (ZB .Add (ZB .Add (ZB .Add (ZB .Add (ZB .Add (Zb (.str (Str.ofString "...").cps.toList)) (Zf 0)) (Zf 1)) (Zb (.str (Str.ofString "...").cps.toList))) (Zf 1)) (Zf 2)) (Zb (.str (Str.ofString "...").cps.toList))) (Zd (ZB .Add (ZB .Add (ZB .Add (Zf 0) (Zb (.str (Str.ofString "...").cps.toList))) (Zf 0)) (Zb (.str (Str.ofString "...").cps.toList))) (Zd (ZB .Add (ZB .Add (ZB .Add (Zb (.str (Str.ofString "...").cps.toList)) (Zf 2)) (Zb (.str (Str.ofString "...").cps.toList))) (Zf 2)) (Zd (ZB .Add (ZB .Add (ZB .Add (ZB .Add (ZB .Add (ZB .Add (Zb (.str (Str.ofString "...").cps.toList)) (Zf 0)) (Zb (.str (Str.ofString "...").cps.toList))) (Zf 2)) (Zb (.str (Str.ofString "...").cps.toList))) (Zf 1)) (Zb (.str (Str.ofString "...").cps.toList))) (Zd (ZB .Add (ZB .Add (ZB .Add (ZB .Add (Zb (.str (Str.ofString "...").cps.toList)) (Zf 0)) (Zb (.str (Str.ofString ".").cps.toList))) (Zf 2)) (Zb (.str (Str.ofString "...").cps.toList))) Zp))))))))))))
def s158(n:Nat):SF:=(ZU 3 (ZH (Zd (ZL (n+1)) (Zd (ZB .Add (ZB .Add (ZB .Add (Zf 0) (Zf 1)) (Zb (.str (Str.ofString "...").cps.toList))) (Zf 2)) (Zd (ZB .Add (ZB .Add (ZB .Add (ZB .Add (ZB .Add (ZB .Add (Zb (.str (Str.ofString "...").cps.toList)) (Zf 0)) (Zb (.str (Str.ofString "...").cps.toList))) (Zf 1)) (Zb (.str (Str.ofString "...").cps.toList))) (Zf 2)) (Zb (.str (Str.ofString "...").cps.toList))) Zp)))))
def s157(n:Nat):SF:=(tupS (Zd (ZZ (ZL (n+1)) (Zb (.int 0))) (Zd (ZZ (ZL (n+1)) (Zb (.int 1))) (Zd (ZZ (ZL (n+1)) (Zb (.int 2))) Zp))) [(tgL 0),(tgL 1),(tgL 2)])
def Zan(n:Nat):SF:=(Zn (s157 n)
 (Zn (s158 n)
 (Zn (s159 n)
 (Zn (s160 n)
 (Zn (s162 n)
 ZA)))))
theorem ZcY(H:HeadF w g mg mb)(n:Nat):SDS w g 3 (Zda n) (fnp 26).2.1 (Zan n):=
 (Zc (Zea (names:=["x","y","z"]) (Za (ZK (Zm (.inl (by kernel_rfl)) (by kernel_rfl) (by kernel_rfl) (by kernel_rfl)) Ze (fun υ υ=>rfl)) (Za (ZK (Zm (.inl (by kernel_rfl)) (by kernel_rfl) (by kernel_rfl) (by kernel_rfl)) Ze (fun υ υ=>rfl)) (Za (ZK (Zm (.inl (by kernel_rfl)) (by kernel_rfl) (by kernel_rfl) (by kernel_rfl)) Ze (fun υ υ=>rfl)) Zg rfl) rfl) rfl) (.cons (DT1.loc 0 rfl (by kernel_rfl) ZfF) (.cons (DT1.loc 1 rfl (by kernel_rfl) ZfF) (.cons (DT1.loc 2 rfl (by kernel_rfl) ZfF) .nil))) (by decide) (fun υ υ=>rfl) (fun env he=>by obtain ⟨sc⟩:=env;cases he;kernel_rfl))
 (Zc (Zj 3 (Zx (Za (Zm (.inl (by kernel_rfl)) (by kernel_rfl) (by kernel_rfl) (by kernel_rfl)) (Za (Zi (Zi (Zi (nm 0) (nm 1)) Zq) (nm 2)) (Za (Zi (Zi (Zi (Zi (Zi (Zi Zq (nm 0)) Zq) (nm 1)) Zq) (nm 2)) Zq) Zg rfl) rfl) rfl)) rfl (by kernel_rfl) ZfF (fun υ=>rfl))
 (Zc (Zj 4 (Zx (Za (Zi (nm 0) (nm 1)) (Za (Zi (nm 1) (nm 2)) (Za (Zi (Zi (nm 0) (nm 2)) Zq) (Za (Zi (Zi Zq (nm 0)) (nm 2)) (Za (Zi (Zi (Zi (Zi (nm 0) (nm 1)) Zq) (nm 1)) (nm 2)) (Za (Zi (Zi (Zi (Zi (Zi (Zi Zq (nm 0)) (nm 1)) Zq) (nm 1)) (nm 2)) Zq) (Za (Zi (Zi (Zi (nm 0) Zq) (nm 0)) Zq) (Za (Zi (Zi (Zi Zq (nm 2)) Zq) (nm 2)) (Za (Zi (Zi (Zi (Zi (Zi (Zi Zq (nm 0)) Zq) (nm 2)) Zq) (nm 1)) Zq) (Za (Zi (Zi (Zi (Zi Zq (nm 0)) Zq) (nm 2)) Zq) Zg rfl) rfl) rfl) rfl) rfl) rfl) rfl) rfl) rfl) rfl)) rfl (by kernel_rfl) ZfF (fun υ=>rfl))
 (Zc (ZC (Zz H.B (ZbC 100 [("ballot", (n+1)),("said", n)] (Zy (Zi (nm 3) (nm 4))) ZaR (ZD (o:=Zbc w.params) (hfn H 184) (hK H) rfl (Za (nm 0) (Za (Zm (.inl (by kernel_rfl)) (by kernel_rfl) (by kernel_rfl) (by kernel_rfl)) (Za (Zm (.inl (by kernel_rfl)) (by kernel_rfl) (by kernel_rfl) (by kernel_rfl)) Zg rfl) rfl) rfl) (ZM (ZaA H) (by decide))) rfl (by kernel_rfl) (by kernel_rfl) ⟨(by kernel_rfl),(by decide +kernel),(by kernel_rfl),(by decide +kernel),trivial⟩ (fun υ υ=>rfl)) (Zi (Zi (Zx (Za Zt Zg rfl)) Ze) (Zi (Zx (Za Zt Zg rfl)) Ze)) rfl)
 (Zc (Zw Zt)
 Zh)
 Zh)
 (Zc (Zw (SDE.and (ZD (o:=Zbc w.params) (hfn H 184) (hK H) rfl (Za (Zi (Zi (Zi (Zi Zq (nm 0)) Zq) (nm 0)) Zq) (Za (Zi (Zm (.inl (by kernel_rfl)) (by kernel_rfl) (by kernel_rfl) (by kernel_rfl)) Ze) (Za (Zm (.inl (by kernel_rfl)) (by kernel_rfl) (by kernel_rfl) (by kernel_rfl)) Zg rfl) rfl) rfl) (ZM (ZaA H) (by decide))) (ZD (o:=Zbc w.params) (hfn H 184) (hK H) rfl (Za (Zi (Zi (nm 0) Zq) (nm 2)) (Za (Zi (Zi (nm 0) Zq) (nm 2)) (Za (Zm (.inl (by kernel_rfl)) (by kernel_rfl) (by kernel_rfl) (by kernel_rfl)) Zg rfl) rfl) rfl) (ZM (ZaA H) (by decide)))))
 Zh)))))
def Zao:FF:=isoL1 (Zjq 2 [none,none,none,none,none] [some 1,some 0] (Zan))
theorem ZcZ(H:HeadF w g mg mb):SCF w g 4 (.ref 194) (Zao):=ZjN (ZiE (o:=Zep w.params) (names:=["ballot","said"]) (slots:=["x","y","z","taken","passed"]) (cn:=["said","ballot"]) (li:=[none,none,none,none,none]) (ci:=[some 1,some 0]) H.B (hK H) rfl rfl rfl rfl rfl (codeRec_of H.K (by kernel_rfl)) (fun vs hl=>by apply len2 hl;intros;rfl) (by decide +kernel) (by decide +kernel) (fun υ=>rfl) (by decide +kernel) (by kernel_rfl) (by kernel_rfl) rfl rfl rfl (ZcY H))
abbrev ZgN(n:Nat):EnvD:=⟨(fnp 28).2.2,["orders","weights","over"],Zbk n ["other","one","wins","names"],.ref 205,Str.ofString "_law_by_wins" ++ ".<locals>."⟩
def s181(n:Nat):SF:=(Qk (ZdW (itE (ZH (Zd (Zb (.int 2)) (Zd (Zb (.int 1)) (Zd (Zb (.int 0)) Zp))))) (itE (ZL (n+3))) (ZS .Eq (ZZ (ZL (n+2)) (Zf 1)) (Zf 0)) (Zf 1) 100))
def s180(n:Nat):SF:=(augI .Add (ZL (n+2)) (ZL (n+1)) (Zb (.int 1)))
def s179(n:Nat):SF:=(ifS (ZS .Gt (Zf 2) (Zb (.int 255)))
 (Zn (s180 n)
 ZA)
 ZA)
def s178(n:Nat):SF:=(ZU 2 (Zr sumF (Zd (zipE (Zd (Zf 0) (Zd (Zf 1) Zp)) (ZS .Lt (ZV "str" ZdD (Zf 0) (Zd (ZL (n+1)) Zp)) (ZV "str" ZdD (Zf 0) (Zd (ZL n) Zp))) (Zf 1) 100) Zp)))
def s177(n:Nat):SF:=(Zbr (itE (ZL (n+3))) (tgC n)
 (Zn (s178 n)
 (Zn (s179 n)
 ZA)) 100)
def s176(n:Nat):SF:=(asgI (Zb (.int 0)) (ZL (n+2)) (ZL (n+1)))
def s175(n:Nat):SF:=(Zbr (itE (ZL (n+3))) (tgC (n+1))
 (Zn (s176 n)
 (Zn (s177 n)
 ZA)) 100)
def s174(n:Nat):SF:=(asgC (n+2) dict0)
def ZbO(n:Nat):SF:=(Zn (s174 n)
 (Zn (s175 n)
 (Zn (s181 n)
 ZA)))
theorem ZgE(H:HeadF w g mg mb)(n:Nat):SDS w g 1 (ZgN n) (fnp 28).2.1 (ZbO n):=
 (Zc (Zbh ZjK (by kernel_rfl) (by kernel_rfl) (fun env he=>by obtain ⟨sc⟩:=env;cases he;rfl))
 (Zc (Zai 100 (Zy (Zm (.inl (by kernel_rfl)) (by kernel_rfl) (by kernel_rfl) (by kernel_rfl)))
 (Zc (ZbL Ze (Zm (.inl (by kernel_rfl)) (by kernel_rfl) (by kernel_rfl) (by kernel_rfl)) (Zm (.inl (by kernel_rfl)) (by kernel_rfl) (by kernel_rfl) (by kernel_rfl)) (fun υ=>rfl))
 (Zc (Zai 100 (Zy (Zm (.inl (by kernel_rfl)) (by kernel_rfl) (by kernel_rfl) (by kernel_rfl)))
 (Zc (Zj 2 (Zad (hbi H "sum") (Za (Znq 100 H.B [("one", (n+1)),("other", n)] (hty H "zip") (Za (nm 0) (Za (nm 1) Zg rfl) rfl) (Zz H.B (Zag H.b3.toB2 (nm 0) (Za (Zm (.inl (by kernel_rfl)) (by kernel_rfl) (by kernel_rfl) (by kernel_rfl)) Zg rfl) Zdt F.plainAttrs_str F.slot_str_find F.type_str_find (fun υ=>rfl) (fun υ=>rfl) rfl) (Zag H.b3.toB2 (nm 0) (Za (Zm (.inl (by kernel_rfl)) (by kernel_rfl) (by kernel_rfl) (by kernel_rfl)) Zg rfl) Zdt F.plainAttrs_str F.slot_str_find F.type_str_find (fun υ=>rfl) (fun υ=>rfl) rfl) rfl) (nm 1) rfl (by kernel_rfl) (by kernel_rfl) (by kernel_rfl) (by kernel_rfl) ⟨(by kernel_rfl),(by decide +kernel),(by kernel_rfl),(by decide +kernel),trivial⟩ (fun υ υ=>rfl)) Zg rfl) Zle) rfl (by kernel_rfl) nd_G4_1 (fun υ=>rfl))
 (Zc (ZC (Zz H.B (nm 2) Ze rfl)
 (Zc (ZjJ (Zm (.inl (by kernel_rfl)) (by kernel_rfl) (by kernel_rfl) (by kernel_rfl)) (Zm (.inl (by kernel_rfl)) (by kernel_rfl) (by kernel_rfl) (by kernel_rfl)) Ze (fun υ υ υ=>rfl))
 Zh)
 Zh)
 Zh)) (DT1.cell (by kernel_rfl) (by kernel_rfl)) (fun υ υ=>rfl))
 Zh)) (DT1.cell (by kernel_rfl) (by kernel_rfl)) (fun υ υ=>rfl))
 (Zc (Zw (ZhA 100 [("names", (n+3)),("wins", (n+2))] (Zy (Zx (Za Ze (Za Ze (Za Ze Zg rfl) rfl) rfl))) (Zy (Zm (.inl (by kernel_rfl)) (by kernel_rfl) (by kernel_rfl) (by kernel_rfl))) (ZeC (Zz H.B (ZK (Zm (.inl (by kernel_rfl)) (by kernel_rfl) (by kernel_rfl) (by kernel_rfl)) (nm 1) (fun υ υ=>rfl)) (nm 0) rfl)) (nm 1) rfl (by kernel_rfl) (by kernel_rfl) (by kernel_rfl) (by kernel_rfl) ⟨(by kernel_rfl),(by decide +kernel),(by kernel_rfl),(by decide +kernel),trivial⟩ (fun υ υ=>rfl) (fun υ υ=>rfl)))
 Zh)))
def Zbd:FF:=isoR3 (Zjq 3 [some 1,some 2,none] [none,none,none,some 0] (ZbO))
theorem ZgI(H:HeadF w g mg mb):SCF w g 2 (.ref 206) (Zbd):=ZpE (ZiE (o:=Zeo w.params) (names:=["names","orders","weights"]) (slots:=["orders","weights","over"]) (cn:=["other","one","wins","names"]) (li:=[some 1,some 2,none]) (ci:=[none,none,none,some 0]) H.B (hK H) rfl rfl rfl rfl rfl (codeRec_of H.K (by kernel_rfl)) (fun vs hl=>by apply len3 hl;intros;rfl) (by decide +kernel) (by decide +kernel) (fun υ=>rfl) (by decide +kernel) (by kernel_rfl) (by kernel_rfl) rfl rfl rfl (ZgE H))
abbrev Zlf(n:Nat):EnvD:=⟨(fnp 27).2.2,["coming","by_left","row","done"],Zbk n ["new","weights","ahead"],.ref 200,Str.ofString "_law_laid" ++ ".<locals>."⟩
def s172(lamF:ZF)(n:Nat):SF:=(Qk (Zf 2))
def s171(lamF:ZF)(n:Nat):SF:=(Qk (Zb .none))
def s170(lamF:ZF)(n:Nat):SF:=(ifS (ZS .IsNot (Zf 3) (Zb .none))
 (Zn (s171 lamF n)
 ZA)
 ZA)
def s167(lamF:ZF)(n:Nat):SF:=(ZU 3 (ZbX (ZaD lamF) (Zd (Zf 2) (Zd (ZL n) Zp)) (ZkK 0 0 196 ⟨167,45,167,106⟩ [("ahead", (n+2)),("new", n),("weights", (n+1))])))
def s169(lamF:ZF)(n:Nat):SF:=(ZU 3 (ZbX (Zax lamF) (Zd (Zf 2) (Zd (ZL n) Zp)) (ZkK 1 0 196 ⟨169,46,169,110⟩ [("ahead", (n+2)),("new", n),("weights", (n+1))])))
def s166(lamF:ZF)(n:Nat):SF:=(ifS (Zek (Zf 1))
 (Zn (s167 lamF n)
 ZA)
 (Zn (s169 lamF n)
 ZA))
def s165(lamF:ZF)(n:Nat):SF:=(Zbr (itE (Zf 0)) (tgC n)
 (Zn (s166 lamF n)
 (Zn (s170 lamF n)
 ZA)) 100)
def s164(lamF:ZF)(n:Nat):SF:=(ZU 2 (ZH Zp))
def ZcX(lamF:ZF)(n:Nat):SF:=(Zn (s164 lamF n)
 (Zn (s165 lamF n)
 (Zn (s172 lamF n)
 ZA)))
theorem ZkU{lamF:ZF}(H:HeadF w g mg mb)(L:SCLam w g 8 lamF)(n:Nat):SDS w g 10 (Zlf n) (fnp 27).2.1 (ZcX lamF n):=
 (Zc (Zj 2 (Zx Zg) rfl (by kernel_rfl) ZkH (fun υ=>rfl))
 (Zc (Zai 100 (Zy (nm 0))
 (Zc (ZC (ZaS (nm 1) (fun υ υ=>rfl))
 (Zc (Zj 3 (ZbZ (o:=ZcO w.params) (hfn H 41) (hK H) rfl (Za (nm 2) (Za (Zm (.inl (by kernel_rfl)) (by kernel_rfl) (by kernel_rfl) (by kernel_rfl)) Zg rfl) rfl) (ZdI (id:=0) (kt:=0) (cl:=[("ahead", (n+2)),("new", n),("weights", (n+1))]) H.B H.l1 rfl (by kernel_rfl) (fun υ=>rfl) (Zbl (by kernel_rfl)) ⟨(by kernel_rfl),(by decide +kernel),(by kernel_rfl),(by decide +kernel),(by kernel_rfl),(by decide +kernel),trivial⟩) (fun υ=>rfl) (Zca (Zdp H L) (by decide))) rfl (by kernel_rfl) ZkH (fun υ=>rfl))
 Zh)
 (Zc (Zj 3 (ZbZ (o:=ZcP w.params) (hfn H 23) (hK H) rfl (Za (nm 2) (Za (Zm (.inl (by kernel_rfl)) (by kernel_rfl) (by kernel_rfl) (by kernel_rfl)) Zg rfl) rfl) (ZdI (id:=1) (kt:=0) (cl:=[("ahead", (n+2)),("new", n),("weights", (n+1))]) H.B H.l1 rfl (by kernel_rfl) (fun υ=>rfl) (Zbl (by kernel_rfl)) ⟨(by kernel_rfl),(by decide +kernel),(by kernel_rfl),(by decide +kernel),(by kernel_rfl),(by decide +kernel),trivial⟩) (fun υ=>rfl) (Zca (ZcT H L) (by decide))) rfl (by kernel_rfl) ZkH (fun υ=>rfl))
 Zh))
 (Zc (ZC (Zz H.B (nm 3) ZaV rfl)
 (Zc (Zw ZaV)
 Zh)
 Zh)
 Zh)) (DT1.cell (by kernel_rfl) (by kernel_rfl)) (fun υ υ=>rfl))
 (Zc (Zw (nm 2))
 Zh)))
def ZbF(lamF:ZF):FF:=(Zjq 4 [some 0,some 3,none,none] [none,some 2,some 1] (ZcX lamF))
theorem Zgh{lamF:ZF}(H:HeadF w g mg mb)(L:SCLam w g 8 lamF):SCF w g 11 (.ref 201) (ZbF lamF):=(ZiE (o:=Zdh w.params) (names:=["coming","ahead","weights","by_left"]) (slots:=["coming","by_left","row","done"]) (cn:=["new","weights","ahead"]) (li:=[some 0,some 3,none,none]) (ci:=[none,some 2,some 1]) H.B (hK H) rfl rfl rfl rfl rfl (codeRec_of H.K (by kernel_rfl)) (fun vs hl=>by apply len4 hl;intros;rfl) (by decide +kernel) (by decide +kernel) (fun υ=>rfl) (by decide +kernel) (by kernel_rfl) (by kernel_rfl) rfl rfl rfl (ZkU H L))
end
end
noncomputable section
theorem ZI:List.Nodup (α:=Str) ["script","cells","place","number","closing","orders","page","weights","names","ahead","came","back","pair","kept_off","first","last","x","y","z","row","comings","turn","rings","ring","wishes","spots","shares","wish","by_left","shelf","turned","verdicts"]:=by decide +kernel
noncomputable section
variable {w:World} {g:Heap} {mg mb:Str→Option Value}
abbrev Zdx(n:Nat):EnvD:=⟨(fnp 29).2.2,["script","cells","place","number","closing","orders","page","weights","names","ahead","came","back","pair","kept_off","first","last","x","y","z","row","comings","turn","rings","ring","wishes","spots","shares","wish","by_left","shelf","turned","verdicts"],Zbk n ["want","other","one","said","name","ballots","gone"],.ref 210,Str.ofString "law" ++ ".<locals>."⟩
def s185(lamF:ZF)(l:Addr)(items:List MV)(n:Nat):SF:=(augI .Add (Zf 1) (ZB .Mod (Zf 2) (Zb (.int 6))) (ZB .Mod (Zf 3) (Zb (.int 1000000))))
def s184(lamF:ZF)(l:Addr)(items:List MV)(n:Nat):SF:=(forGS l items (Zd (Zf 0) Zp) [(tgL 2),(tgL 3)]
 (Zn (s185 lamF l items n)
 ZA))
def s183(lamF:ZF)(l:Addr)(items:List MV)(n:Nat):SF:=(ZU 1 (ZH (Zd (Zb (.int 17778)) (Zd (Zb (.int 158015)) (Zd (Zb (.int 963939)) (Zd (Zb (.int 463216)) (Zd (Zb (.int 3089)) (Zd (Zb (.int 62)) Zp))))))))
def Zni(lamF:ZF)(l:Addr)(items:List MV)(n:Nat):SF:=(Zn (s183 lamF l items n)
 (Zn (s184 lamF l items n)
 ZA))
theorem d_lawA{lamF:ZF}(H:HeadF w g mg mb)(L:SCLam w g 8 lamF)(l:Addr)(items:List MV)(vs:List Value)(hl:g.get? l=some {cls:=.type "list", data:=.seq vs.toArray})(hvs:VRs [] items vs)(hpl:items.all ZO=true)(n:Nat):SDS w g 11 (Zdx n) ((fnp 29).2.1.take 2) (Zni lamF l items n):=
 (Zc (Zj 1 (Zx (Za Ze (Za Ze (Za Ze (Za Ze (Za Ze (Za Ze Zg rfl) rfl) rfl) rfl) rfl) rfl)) rfl (by kernel_rfl) ZI (fun υ=>rfl))
 (Zc (ZnT (l:=l) (items:=items) hl hvs hpl (hty H "enumerate") (Za (nm 0) Zg rfl)
 (Zc (ZjJ (nm 1) (Zi (nm 2) Ze) (Zi (nm 3) Ze) (fun υ υ υ=>rfl))
 Zh) (.cons (DT1.loc 2 rfl (by kernel_rfl) ZI) (.cons (DT1.loc 3 rfl (by kernel_rfl) ZI) .nil)) (fun υ υ=>rfl))
 Zh))
def s192(lamF:ZF)(n:Nat):SF:=(asgC (n+5) (ZV "str" ZgQ (Zr (ZbE) (Zd (Zf 6) Zp)) (Zd (Zf 4) Zp)))
def s191(lamF:ZF)(n:Nat):SF:=(Ziz 6 .Add (ZB .Add (Zr (ZaL) (Zd (ZZ (Zf 5) (Zf 2)) (Zd (ZL (n+6)) (Zd (ZB .FloorDiv (ZZ (Zf 1) (Zf 2)) (Zb (.int 3072))) (Zd (Zf 2) Zp))))) (Zf 4)))
def s190(lamF:ZF)(n:Nat):SF:=(Zbr (rngI (Zd (Zb (.int 5)) Zp)) (tgL 2)
 (Zn (s191 lamF n)
 ZA) 100)
def s189(lamF:ZF)(n:Nat):SF:=(ZU 6 (Zb (.str (Str.ofString "").cps.toList)))
def s188(lamF:ZF)(n:Nat):SF:=(ZU 5 (Qb (itE (ZgR (Zf 1) noP (Qj (Zb (.int 5))))) Qi (Zr (Zbi) (Zd (Zf 0) Zp)) 100))
def s187(lamF:ZF)(n:Nat):SF:=(ZU 4 (Zr (ZaF) (Zd (ZB .FloorDiv (ZZ (Zf 1) (Zb (.int 5))) (Zb (.int 4))) Zp)))
def Znh(lamF:ZF)(n:Nat):SF:=(Zn (s187 lamF n)
 (Zn (s188 lamF n)
 (Zn (s189 lamF n)
 (Zn (s190 lamF n)
 (Zn (s192 lamF n)
 ZA)))))
theorem d_lawB{lamF:ZF}(H:HeadF w g mg mb)(L:SCLam w g 8 lamF)(n:Nat):SDS w g 11 (Zdx n) (((fnp 29).2.1.drop 3).take 5) (Znh lamF n):=
 (Zc (Zj 4 (ZD (o:=Zeu w.params) (hfn H 149) (hK H) rfl (Za (Zi (ZK (nm 1) Ze (fun υ υ=>rfl)) Ze) Zg rfl) (ZM (Zit H) (by decide))) rfl (by kernel_rfl) ZI (fun υ=>rfl))
 (Zc (Zap 5 100 [] (Zy (ZaI (nm 1) Zcf (ZaC Ze) (fun υ υ=>rfl))) ZaR (ZD (o:=Zes w.params) (hfn H 163) (hK H) rfl (Za (nm 0) Zg rfl) (ZM (ZjH H) (by decide))) rfl (by kernel_rfl) (by kernel_rfl) trivial (fun υ υ=>rfl) rfl (by kernel_rfl) ZI (fun env he=>by obtain ⟨sc⟩:=env;cases he;rfl))
 (Zc (Zj 6 Zq rfl (by kernel_rfl) ZI (fun υ=>rfl))
 (Zc (Zai 100 (Zdr (hty H "range") (Za Ze Zg rfl))
 (Zc (ZaU 6 (Zi (ZD (o:=Zer w.params) (hfn H 170) (hK H) rfl (Za (ZK (nm 5) (nm 2) (fun υ υ=>rfl)) (Za (Zm (.inl (by kernel_rfl)) (by kernel_rfl) (by kernel_rfl) (by kernel_rfl)) (Za (Zi (ZK (nm 1) (nm 2) (fun υ υ=>rfl)) Ze) (Za (nm 2) Zg rfl) rfl) rfl) rfl) (ZM (ZjG H) (by decide))) (nm 4)) rfl (by kernel_rfl) ZI)
 Zh) (DT1.loc 2 rfl (by kernel_rfl) ZI) (fun υ υ=>rfl))
 (Zc (Zbh (Zag H.b3.toB2 (ZD (o:=Zeq w.params) (hfn H 177) (hK H) rfl (Za (nm 6) Zg rfl) (ZM (Zgg H) (by decide))) (Za (nm 4) Zg rfl) ZjM F.plainAttrs_str F.slot_str_split F.type_str_split (fun υ=>rfl) (fun υ=>rfl) rfl) (by kernel_rfl) (by kernel_rfl) (fun env he=>by obtain ⟨sc⟩:=env;cases he;rfl))
 Zh)))))
def s203(lamF:ZF)(n:Nat):SF:=(ZU 11 (ZH Zp))
def s202(lamF:ZF)(n:Nat):SF:=(ZU 10 (ZH Zp))
def s201(lamF:ZF)(n:Nat):SF:=(ZU 9 dict0)
def s200(lamF:ZF)(n:Nat):SF:=(asgC (n+3) (ZH Zp))
def s199(lamF:ZF)(n:Nat):SF:=(ZU 8 (Qb (itE (Zb (.str (Str.ofString "akmp").cps.toList))) (ZS .NotEq (Zf 0) (ZL (n+6))) (Zf 0) 100))
def s198(lamF:ZF)(n:Nat):SF:=(Zgu (ZV "list" Zgk (Zf 7) (Zd (ZB .Sub (Zb (.int 511)) (Zr sumF (Zd (Zf 7) Zp))) Zp)))
def s197(lamF:ZF)(n:Nat):SF:=(ZU 7 (Qb (itE (ZgR (Zf 1) noP (Qj (Zb (.int 4))))) Qi (ZB .Mod (ZB .FloorDiv (Zf 0) (Zb (.int 24))) (Zb (.int 128))) 100))
def s196(lamF:ZF)(n:Nat):SF:=(asgC (n+5) (ZgR (ZL (n+5)) noP (Qj (Zb (.int 5)))))
def s195(lamF:ZF)(n:Nat):SF:=(Qk (Zb (.bool false)))
def s194(lamF:ZF)(n:Nat):SF:=(ifS (ZS .NotEq (ZL (n+5)) (ZB .Add (Zf 5) (ZH (Zd (Zb (.str (Str.ofString "").cps.toList)) Zp))))
 (Zn (s195 lamF n)
 ZA)
 ZA)
def Zpe(lamF:ZF)(n:Nat):SF:=(Zn (s194 lamF n)
 (Zn (s196 lamF n)
 (Zn (s197 lamF n)
 (Zn (s198 lamF n)
 (Zn (s199 lamF n)
 (Zn (s200 lamF n)
 (Zn (s201 lamF n)
 (Zn (s202 lamF n)
 (Zn (s203 lamF n)
 ZA)))))))))
theorem d_lawC{lamF:ZF}(H:HeadF w g mg mb)(L:SCLam w g 8 lamF)(n:Nat):SDS w g 11 (Zdx n) (((fnp 29).2.1.drop 9).take 9) (Zpe lamF n):=
 (Zc (ZC (Zz H.B (Zm (.inl (by kernel_rfl)) (by kernel_rfl) (by kernel_rfl) (by kernel_rfl)) (Zi (nm 5) (Zx (Za Zq Zg rfl))) rfl)
 (Zc (Zw Zt)
 Zh)
 Zh)
 (Zc (Zbh (ZaI (Zm (.inl (by kernel_rfl)) (by kernel_rfl) (by kernel_rfl) (by kernel_rfl)) Zcf (ZaC Ze) (fun υ υ=>rfl)) (by kernel_rfl) (by kernel_rfl) (fun env he=>by obtain ⟨sc⟩:=env;cases he;rfl))
 (Zc (Zap 7 100 [] (Zy (ZaI (nm 1) Zcf (ZaC Ze) (fun υ υ=>rfl))) ZaR (Zi (Zi (nm 0) Ze) Ze) rfl (by kernel_rfl) (by kernel_rfl) trivial (fun υ υ=>rfl) rfl (by kernel_rfl) ZI (fun env he=>by obtain ⟨sc⟩:=env;cases he;rfl))
 (Zc (ZaT (Zag H.b3.toB2 (nm 7) (Za (Zi Ze (Zad (hbi H "sum") (Za (nm 7) Zg rfl) Zle)) Zg rfl) ZdK F.plainAttrs_list F.slot_list_append F.type_list_append (fun υ=>rfl) (fun υ=>rfl) rfl) (fun υ=>rfl))
 (Zc (Zap 8 100 [("gone", (n+6))] (Zy Zq) (ZeC (Zz H.B (nm 0) (Zm (.inl (by kernel_rfl)) (by kernel_rfl) (by kernel_rfl) (by kernel_rfl)) rfl)) (nm 0) rfl (by kernel_rfl) (by kernel_rfl) ⟨(by kernel_rfl),(by decide +kernel),trivial⟩ (fun υ υ=>rfl) rfl (by kernel_rfl) ZI (fun env he=>by obtain ⟨sc⟩:=env;cases he;rfl))
 (Zc (Zbh (Zx Zg) (by kernel_rfl) (by kernel_rfl) (fun env he=>by obtain ⟨sc⟩:=env;cases he;rfl))
 (Zc (Zj 9 ZjK rfl (by kernel_rfl) ZI (fun υ=>rfl))
 (Zc (Zj 10 (Zx Zg) rfl (by kernel_rfl) ZI (fun υ=>rfl))
 (Zc (Zj 11 (Zx Zg) rfl (by kernel_rfl) ZI (fun υ=>rfl))
 Zh)))))))))
def s212(lamF:ZF)(n:Nat):SF:=(Zgu (ZV "list" ZfL (Zf 11) (Zd (Zb (.int 0)) (Zd (Zf 12) Zp))))
def s211(lamF:ZF)(n:Nat):SF:=(Zgu (ZV "list" Zgk (Zf 10) (Zd (Zf 12) Zp)))
def s210(lamF:ZF)(n:Nat):SF:=(ZU 12 (ZH (Zd (Zr (Zaq) (Zd (ZZ (Zf 9) (ZB .Add (ZL (n+2)) (ZL (n+1)))) (Zd (Zf 7) Zp))) (Zd (ZB .Add (ZL (n+2)) (ZL (n+1))) Zp))))
def s209(lamF:ZF)(n:Nat):SF:=(Qk (Zb (.bool false)))
def s208(lamF:ZF)(n:Nat):SF:=(ifS (ZS .NotEq (ZZ (Zf 9) (ZB .Add (ZL (n+2)) (ZL (n+1)))) (Qb (itE (Zf 5)) Qi (ZbG (ZS .Lt (ZV "str" ZdD (Zf 0) (Zd (ZL (n+2)) Zp)) (ZV "str" ZdD (Zf 0) (Zd (ZL (n+1)) Zp)))) 100))
 (Zn (s209 lamF n)
 ZA)
 ZA)
def s207(lamF:ZF)(n:Nat):SF:=(asgI (Qb (itE (ZL (n+5))) Qi (Zr (Zab) (Zd (ZL n) (Zd (Zf 0) (Zd (ZL (n+3)) Zp)))) 100) (Zf 9) (ZB .Add (ZL (n+2)) (ZL (n+1))))
def s206(lamF:ZF)(n:Nat):SF:=(asgC n (ZB .Add (ZB .Add (ZB .Add (ZB .Add (Zb (.str (Str.ofString "...").cps.toList)) (ZL (n+2))) (Zb (.str (Str.ofString "...").cps.toList))) (ZL (n+1))) (Zb (.str (Str.ofString "...").cps.toList))))
def s205(lamF:ZF)(n:Nat):SF:=(Zbr (itE (Zf 8)) (tgC (n+1))
 (Zn (s206 lamF n)
 (Zn (s207 lamF n)
 (Zn (s208 lamF n)
 (Zn (s210 lamF n)
 (Zn (s211 lamF n)
 (Zn (s212 lamF n)
 ZA)))))) 100)
def s204(lamF:ZF)(n:Nat):SF:=(Zbr (itE (Zf 8)) (tgC (n+2))
 (Zn (s205 lamF n)
 ZA) 100)
def Zng(lamF:ZF)(n:Nat):SF:=(Zn (s204 lamF n)
 ZA)
theorem d_lawD{lamF:ZF}(H:HeadF w g mg mb)(L:SCLam w g 8 lamF)(n:Nat):SDS w g 11 (Zdx n) (((fnp 29).2.1.drop 18).take 1) (Zng lamF n):=
 (Zc (Zai 100 (Zy (nm 8))
 (Zc (Zai 100 (Zy (nm 8))
 (Zc (Zbh (Zi (Zi (Zi (Zi Zq (Zm (.inl (by kernel_rfl)) (by kernel_rfl) (by kernel_rfl) (by kernel_rfl))) Zq) (Zm (.inl (by kernel_rfl)) (by kernel_rfl) (by kernel_rfl) (by kernel_rfl))) Zq) (by kernel_rfl) (by kernel_rfl) (fun env he=>by obtain ⟨sc⟩:=env;cases he;rfl))
 (Zc (ZbL (ZbC 100 [("said", (n+3)),("want", n)] (Zy (Zm (.inl (by kernel_rfl)) (by kernel_rfl) (by kernel_rfl) (by kernel_rfl))) ZaR (ZD (o:=Zbc w.params) (hfn H 184) (hK H) rfl (Za (Zm (.inl (by kernel_rfl)) (by kernel_rfl) (by kernel_rfl) (by kernel_rfl)) (Za (nm 0) (Za (Zm (.inl (by kernel_rfl)) (by kernel_rfl) (by kernel_rfl) (by kernel_rfl)) Zg rfl) rfl) rfl) (ZM (ZaA H) (by decide))) rfl (by kernel_rfl) (by kernel_rfl) ⟨(by kernel_rfl),(by decide +kernel),(by kernel_rfl),(by decide +kernel),trivial⟩ (fun υ υ=>rfl)) (nm 9) (Zi (Zm (.inl (by kernel_rfl)) (by kernel_rfl) (by kernel_rfl) (by kernel_rfl)) (Zm (.inl (by kernel_rfl)) (by kernel_rfl) (by kernel_rfl) (by kernel_rfl))) (fun υ=>rfl))
 (Zc (ZC (Zz H.B (ZK (nm 9) (Zi (Zm (.inl (by kernel_rfl)) (by kernel_rfl) (by kernel_rfl) (by kernel_rfl)) (Zm (.inl (by kernel_rfl)) (by kernel_rfl) (by kernel_rfl) (by kernel_rfl))) (fun υ υ=>rfl)) (ZbC 100 [("one", (n+2)),("other", (n+1))] (Zy (nm 5)) ZaR (ZbR H.B (Zag H.b3.toB2 (nm 0) (Za (Zm (.inl (by kernel_rfl)) (by kernel_rfl) (by kernel_rfl) (by kernel_rfl)) Zg rfl) Zdt F.plainAttrs_str F.slot_str_find F.type_str_find (fun υ=>rfl) (fun υ=>rfl) rfl) (Zag H.b3.toB2 (nm 0) (Za (Zm (.inl (by kernel_rfl)) (by kernel_rfl) (by kernel_rfl) (by kernel_rfl)) Zg rfl) Zdt F.plainAttrs_str F.slot_str_find F.type_str_find (fun υ=>rfl) (fun υ=>rfl) rfl) rfl) rfl (by kernel_rfl) (by kernel_rfl) ⟨(by kernel_rfl),(by decide +kernel),(by kernel_rfl),(by decide +kernel),trivial⟩ (fun υ υ=>rfl)) rfl)
 (Zc (Zw Zt)
 Zh)
 Zh)
 (Zc (Zj 12 (Zx (Za (ZD (o:=Zcz w.params) (hfn H 189) (hK H) rfl (Za (ZK (nm 9) (Zi (Zm (.inl (by kernel_rfl)) (by kernel_rfl) (by kernel_rfl) (by kernel_rfl)) (Zm (.inl (by kernel_rfl)) (by kernel_rfl) (by kernel_rfl) (by kernel_rfl))) (fun υ υ=>rfl)) (Za (nm 7) Zg rfl) rfl) (ZM (Zcv H) (by decide))) (Za (Zi (Zm (.inl (by kernel_rfl)) (by kernel_rfl) (by kernel_rfl) (by kernel_rfl)) (Zm (.inl (by kernel_rfl)) (by kernel_rfl) (by kernel_rfl) (by kernel_rfl))) Zg rfl) rfl)) rfl (by kernel_rfl) ZI (fun υ=>rfl))
 (Zc (ZaT (Zag H.b3.toB2 (nm 10) (Za (nm 12) Zg rfl) ZdK F.plainAttrs_list F.slot_list_append F.type_list_append (fun υ=>rfl) (fun υ=>rfl) rfl) (fun υ=>rfl))
 (Zc (ZaT (Zag H.b3.toB2 (nm 11) (Za Ze (Za (nm 12) Zg rfl) rfl) ZdJ F.plainAttrs_list F.slot_list_insert F.type_list_insert (fun υ=>rfl) (fun υ=>rfl) rfl) (fun υ=>rfl))
 Zh)))))) (DT1.cell (by kernel_rfl) (by kernel_rfl)) (fun υ υ=>rfl))
 Zh) (DT1.cell (by kernel_rfl) (by kernel_rfl)) (fun υ υ=>rfl))
 Zh)
def s220(lamF:ZF)(n:Nat):SF:=(ZU 13 (Zb (.bool true)))
def s219(lamF:ZF)(n:Nat):SF:=(ifS (ZS .In (Zb (.int 0)) (ZH (Zd (ZV "list" ZcS (Zf 14) (Zd (Zb (.bool true)) Zp)) (Zd (ZV "list" ZcS (Zf 15) (Zd (Zb (.bool true)) Zp)) (Zd (ZB .Sub (ZB .Sub (Zb (.int 5)) (ZV "list" ZcS (Zf 14) (Zd (Zb (.bool true)) Zp))) (ZV "list" ZcS (Zf 15) (Zd (Zb (.bool true)) Zp))) Zp)))))
 (Zn (s220 lamF n)
 ZA)
 ZA)
def s218(lamF:ZF)(n:Nat):SF:=(Qk (Zb (.bool false)))
def s217(lamF:ZF)(n:Nat):SF:=(ifS (orT (ZS .NotEq (Zf 14) (Qb (itE (Zf 5)) Qi (ZbG (ZS .Eq (ZZ (Zf 0) (Zb (.int 0))) (ZL (n+4)))) 100)) (ZS .NotEq (Zf 15) (Qb (itE (Zf 5)) Qi (ZbG (ZS .Eq (ZZ (Zf 0) (Zb (.int 2))) (ZL (n+4)))) 100)))
 (Zn (s218 lamF n)
 ZA)
 ZA)
def s216(lamF:ZF)(n:Nat):SF:=(ZU 15 (Qb (itE (ZL (n+5))) Qi (Zr (Zab) (Zd (ZB .Add (Zb (.str (Str.ofString "...").cps.toList)) (ZL (n+4))) (Zd (Zf 0) (Zd (ZL (n+3)) Zp)))) 100))
def s215(lamF:ZF)(n:Nat):SF:=(ZU 14 (Qb (itE (ZL (n+5))) Qi (Zr (Zab) (Zd (ZB .Add (ZL (n+4)) (Zb (.str (Str.ofString "...").cps.toList))) (Zd (Zf 0) (Zd (ZL (n+3)) Zp)))) 100))
def s214(lamF:ZF)(n:Nat):SF:=(Zbr (itE (Zf 8)) (tgC (n+4))
 (Zn (s215 lamF n)
 (Zn (s216 lamF n)
 (Zn (s217 lamF n)
 (Zn (s219 lamF n)
 ZA)))) 100)
def s213(lamF:ZF)(n:Nat):SF:=(ZU 13 (Zb (.bool false)))
def Znf(lamF:ZF)(n:Nat):SF:=(Zn (s213 lamF n)
 (Zn (s214 lamF n)
 ZA))
theorem d_lawF{lamF:ZF}(H:HeadF w g mg mb)(L:SCLam w g 8 lamF)(n:Nat):SDS w g 11 (Zdx n) (((fnp 29).2.1.drop 19).take 2) (Znf lamF n):=
 (Zc (Zj 13 Zt rfl (by kernel_rfl) ZI (fun υ=>rfl))
 (Zc (Zai 100 (Zy (nm 8))
 (Zc (Zap 14 100 [("name", (n+4)),("said", (n+3))] (Zy (Zm (.inl (by kernel_rfl)) (by kernel_rfl) (by kernel_rfl) (by kernel_rfl))) ZaR (ZD (o:=Zbc w.params) (hfn H 184) (hK H) rfl (Za (Zi (Zm (.inl (by kernel_rfl)) (by kernel_rfl) (by kernel_rfl) (by kernel_rfl)) Zq) (Za (nm 0) (Za (Zm (.inl (by kernel_rfl)) (by kernel_rfl) (by kernel_rfl) (by kernel_rfl)) Zg rfl) rfl) rfl) (ZM (ZaA H) (by decide))) rfl (by kernel_rfl) (by kernel_rfl) ⟨(by kernel_rfl),(by decide +kernel),(by kernel_rfl),(by decide +kernel),trivial⟩ (fun υ υ=>rfl) rfl (by kernel_rfl) ZI (fun env he=>by obtain ⟨sc⟩:=env;cases he;rfl))
 (Zc (Zap 15 100 [("name", (n+4)),("said", (n+3))] (Zy (Zm (.inl (by kernel_rfl)) (by kernel_rfl) (by kernel_rfl) (by kernel_rfl))) ZaR (ZD (o:=Zbc w.params) (hfn H 184) (hK H) rfl (Za (Zi Zq (Zm (.inl (by kernel_rfl)) (by kernel_rfl) (by kernel_rfl) (by kernel_rfl))) (Za (nm 0) (Za (Zm (.inl (by kernel_rfl)) (by kernel_rfl) (by kernel_rfl) (by kernel_rfl)) Zg rfl) rfl) rfl) (ZM (ZaA H) (by decide))) rfl (by kernel_rfl) (by kernel_rfl) ⟨(by kernel_rfl),(by decide +kernel),(by kernel_rfl),(by decide +kernel),trivial⟩ (fun υ υ=>rfl) rfl (by kernel_rfl) ZI (fun env he=>by obtain ⟨sc⟩:=env;cases he;rfl))
 (Zc (ZC (SDT.or (Zz H.B (nm 14) (ZbC 100 [("name", (n+4))] (Zy (nm 5)) ZaR (ZbR H.B (ZK (nm 0) Ze (fun υ υ=>rfl)) (Zm (.inl (by kernel_rfl)) (by kernel_rfl) (by kernel_rfl) (by kernel_rfl)) rfl) rfl (by kernel_rfl) (by kernel_rfl) ⟨(by kernel_rfl),(by decide +kernel),trivial⟩ (fun υ υ=>rfl)) rfl) (Zz H.B (nm 15) (ZbC 100 [("name", (n+4))] (Zy (nm 5)) ZaR (ZbR H.B (ZK (nm 0) Ze (fun υ υ=>rfl)) (Zm (.inl (by kernel_rfl)) (by kernel_rfl) (by kernel_rfl) (by kernel_rfl)) rfl) rfl (by kernel_rfl) (by kernel_rfl) ⟨(by kernel_rfl),(by decide +kernel),trivial⟩ (fun υ υ=>rfl)) rfl))
 (Zc (Zw Zt)
 Zh)
 Zh)
 (Zc (ZC (Zz H.B Ze (Zx (Za (Zag H.b3.toB2 (nm 14) (Za Zt Zg rfl) Zdu F.plainAttrs_list F.slot_list_count F.type_list_count (fun υ=>rfl) (fun υ=>rfl) rfl) (Za (Zag H.b3.toB2 (nm 15) (Za Zt Zg rfl) Zdu F.plainAttrs_list F.slot_list_count F.type_list_count (fun υ=>rfl) (fun υ=>rfl) rfl) (Za (Zi (Zi Ze (Zag H.b3.toB2 (nm 14) (Za Zt Zg rfl) Zdu F.plainAttrs_list F.slot_list_count F.type_list_count (fun υ=>rfl) (fun υ=>rfl) rfl)) (Zag H.b3.toB2 (nm 15) (Za Zt Zg rfl) Zdu F.plainAttrs_list F.slot_list_count F.type_list_count (fun υ=>rfl) (fun υ=>rfl) rfl)) Zg rfl) rfl) rfl)) rfl)
 (Zc (Zj 13 Zt rfl (by kernel_rfl) ZI (fun υ=>rfl))
 Zh)
 Zh)
 Zh)))) (DT1.cell (by kernel_rfl) (by kernel_rfl)) (fun υ υ=>rfl))
 Zh))
def s223(lamF:ZF)(n:Nat):SF:=(unlS (Zf 8) [(tgL 16),(tgL 17),(tgL 18)])
def s222(lamF:ZF)(n:Nat):SF:=(Qk (Zb (.bool false)))
def s221(lamF:ZF)(n:Nat):SF:=(ifS (notT (Zek (Zr (Zao) (Zd (ZZ (ZL (n+5)) (Zb (.int 0))) (Zd (ZL (n+3)) Zp)))))
 (Zn (s222 lamF n)
 ZA)
 ZA)
def Zne(lamF:ZF)(n:Nat):SF:=(Zn (s221 lamF n)
 (Zn (s223 lamF n)
 ZA))
theorem d_lawG{lamF:ZF}(H:HeadF w g mg mb)(L:SCLam w g 8 lamF)(n:Nat):SDS w g 11 (Zdx n) (((fnp 29).2.1.drop 21).take 2) (Zne lamF n):=
 (Zc (ZC (SDT.not (ZaS (ZD (o:=Zep w.params) (hfn H 194) (hK H) rfl (Za (ZK (Zm (.inl (by kernel_rfl)) (by kernel_rfl) (by kernel_rfl) (by kernel_rfl)) Ze (fun υ υ=>rfl)) (Za (Zm (.inl (by kernel_rfl)) (by kernel_rfl) (by kernel_rfl) (by kernel_rfl)) Zg rfl) rfl) (ZM (ZcZ H) (by decide))) (fun υ υ=>rfl)))
 (Zc (Zw Zt)
 Zh)
 Zh)
 (Zc (ZjI (is:=[("x", ⟨223,4,223,5⟩),("y", ⟨223,7,223,8⟩),("z", ⟨223,10,223,11⟩)]) (nm 8) (.cons (DT1.loc 16 rfl (by kernel_rfl) ZI) (.cons (DT1.loc 17 rfl (by kernel_rfl) ZI) (.cons (DT1.loc 18 rfl (by kernel_rfl) ZI) .nil))) (fun υ=>rfl) (fun υ υ=>rfl) (fun υ υ=>rfl))
 Zh))
def s229(lamF:ZF)(n:Nat):SF:=(Qk (Zb (.bool false)))
def s228(lamF:ZF)(n:Nat):SF:=(ifS (ZS .NotEq (Zr (ZbF lamF) (Zd (ZZ (Zf 20) (Zf 21)) (Zd (Zf 9) (Zd (Zf 7) (Zd (ZbG (ZS .Eq (ZB .Mod (Zf 21) (Zb (.int 2))) (Zb (.int 1)))) Zp))))) (Zf 19))
 (Zn (s229 lamF n)
 ZA)
 ZA)
def s227(lamF:ZF)(n:Nat):SF:=(Zbr (rngI (Zd (Zb (.int 6)) Zp)) (tgL 21)
 (Zn (s228 lamF n)
 ZA) 100)
def s226(lamF:ZF)(n:Nat):SF:=(ZU 20 (ZH (Zd (ZH (Zd (Zf 16) (Zd (Zf 17) (Zd (Zf 18) Zp)))) (Zd (ZH (Zd (Zf 18) (Zd (Zf 17) (Zd (Zf 16) Zp)))) (Zd (ZH (Zd (Zf 17) (Zd (Zf 18) (Zd (Zf 16) Zp)))) (Zd (ZH (Zd (Zf 17) (Zd (Zf 16) (Zd (Zf 18) Zp)))) (Zd (ZH (Zd (Zf 18) (Zd (Zf 16) (Zd (Zf 17) Zp)))) (Zd (ZH (Zd (Zf 16) (Zd (Zf 18) (Zd (Zf 17) Zp)))) Zp))))))))
def s225(lamF:ZF)(n:Nat):SF:=(ZU 19 (Zr (Zbd) (Zd (Zf 8) (Zd (Zf 5) (Zd (Zf 7) Zp)))))
def s246(lamF:ZF)(n:Nat):SF:=(Qk (Zb (.bool false)))
def s245(lamF:ZF)(n:Nat):SF:=(ifS (ZS .Eq (Zf 22) (Zb (.int 0)))
 (Zn (s246 lamF n)
 ZA)
 ZA)
def s244(lamF:ZF)(n:Nat):SF:=(Qk (Zb (.bool false)))
def s243(lamF:ZF)(n:Nat):SF:=(ifS (ZS .NotEq (Zr (ZbF lamF) (Zd (Zr ZfI (Zd (Zf 27) Zp)) (Zd (Zf 9) (Zd (Zf 26) (Zd (Zf 28) Zp))))) (Zr ZfI (Zd (Zf 27) Zp)))
 (Zn (s244 lamF n)
 ZA)
 ZA)
def s242(lamF:ZF)(n:Nat):SF:=(Zbr (itE (ZH (Zd (Zb (.bool false)) (Zd (Zb (.bool true)) Zp)))) (tgL 28)
 (Zn (s243 lamF n)
 ZA) 100)
def s241(lamF:ZF)(n:Nat):SF:=(Zbr (itE (Zf 24)) (tgL 27)
 (Zn (s242 lamF n)
 ZA) 100)
def s240(lamF:ZF)(n:Nat):SF:=(asgI (Zb (.int 171)) (Zf 26) (ZZ (ZZ (Zf 25) (Zb (.int 0))) (Zb (.int 0))))
def s239(lamF:ZF)(n:Nat):SF:=(asgI (Zb (.int 170)) (Zf 26) (ZZ (ZZ (Zf 25) (Zf 21)) (Zb (.int 0))))
def s238(lamF:ZF)(n:Nat):SF:=(Zbr (rngI (Zd (Zb (.int 3)) Zp)) (tgL 21)
 (Zn (s239 lamF n)
 ZA) 100)
def s237(lamF:ZF)(n:Nat):SF:=(ZU 26 (ZH (Zd (Zb (.int 0)) (Zd (Zb (.int 0)) (Zd (Zb (.int 0)) (Zd (Zb (.int 0)) (Zd (Zb (.int 0)) Zp)))))))
def s236(lamF:ZF)(n:Nat):SF:=(Ziz 22 .Add (Zb (.int 1)))
def s235(lamF:ZF)(n:Nat):SF:=(ifS (ZS .NotIn (ZH Zp) (Zf 25))
 (Zn (s236 lamF n)
 (Zn (s237 lamF n)
 (Zn (s238 lamF n)
 (Zn (s240 lamF n)
 (Zn (s241 lamF n)
 ZA)))))
 ZA)
def s234(lamF:ZF)(n:Nat):SF:=(ZU 25 (Zhx (itE (Zf 24)) (fun nC=>(Qb (rngI (Zd (Zb (.int 5)) Zp)) (Zek (Zr (Zab) (Zd (ZL nC) (Zd (ZZ (ZL (n+5)) (Zf 0)) (Zd (ZL (n+3)) Zp))))) (Zf 0) 100)) 100))
def s233(lamF:ZF)(n:Nat):SF:=(ZU 24 (ZH (Zd (Zf 23) (Zd (ZB .Add (ZgR (Zf 23) (Qj (Zb (.int 1))) noP) (ZgR (Zf 23) noP (Qj (Zb (.int 1))))) (Zd (ZB .Add (ZgR (Zf 23) (Qj (Zb (.int 2))) noP) (ZgR (Zf 23) noP (Qj (Zb (.int 2))))) Zp)))))
def s232(lamF:ZF)(n:Nat):SF:=(Zbr (itE (ZH (Zd (ZB .Add (ZB .Add (Zf 16) (Zf 17)) (Zf 18)) (Zd (ZB .Add (ZB .Add (Zf 16) (Zf 18)) (Zf 17)) Zp)))) (tgL 23)
 (Zn (s233 lamF n)
 (Zn (s234 lamF n)
 (Zn (s235 lamF n)
 ZA))) 100)
def s231(lamF:ZF)(n:Nat):SF:=(ZU 22 (Zb (.int 0)))
def s224(lamF:ZF)(n:Nat):SF:=(ifS (Zek (Zf 13))
 (Zn (s225 lamF n)
 (Zn (s226 lamF n)
 (Zn (s227 lamF n)
 ZA)))
 (Zn (s231 lamF n)
 (Zn (s232 lamF n)
 (Zn (s245 lamF n)
 ZA))))
def ZfU(lamF:ZF)(n:Nat):SF:=(Zn (s224 lamF n)
 ZA)
theorem d_lawH{lamF:ZF}(H:HeadF w g mg mb)(L:SCLam w g 8 lamF)(n:Nat):SDS w g 11 (Zdx n) (((fnp 29).2.1.drop 23).take 1) (ZfU lamF n):=
 (Zc (ZC (ZaS (nm 13) (fun υ υ=>rfl))
 (Zc (Zj 19 (ZD (o:=Zeo w.params) (hfn H 206) (hK H) rfl (Za (nm 8) (Za (nm 5) (Za (nm 7) Zg rfl) rfl) rfl) (ZM (ZgI H) (by decide))) rfl (by kernel_rfl) ZI (fun υ=>rfl))
 (Zc (Zj 20 (Zx (Za (Zx (Za (nm 16) (Za (nm 17) (Za (nm 18) Zg rfl) rfl) rfl)) (Za (Zx (Za (nm 18) (Za (nm 17) (Za (nm 16) Zg rfl) rfl) rfl)) (Za (Zx (Za (nm 17) (Za (nm 18) (Za (nm 16) Zg rfl) rfl) rfl)) (Za (Zx (Za (nm 17) (Za (nm 16) (Za (nm 18) Zg rfl) rfl) rfl)) (Za (Zx (Za (nm 18) (Za (nm 16) (Za (nm 17) Zg rfl) rfl) rfl)) (Za (Zx (Za (nm 16) (Za (nm 18) (Za (nm 17) Zg rfl) rfl) rfl)) Zg rfl) rfl) rfl) rfl) rfl) rfl)) rfl (by kernel_rfl) ZI (fun υ=>rfl))
 (Zc (Zai 100 (Zdr (hty H "range") (Za Ze Zg rfl))
 (Zc (ZC (Zz H.B (ZD (o:=Zdh w.params) (hfn H 201) (hK H) rfl (Za (ZK (nm 20) (nm 21) (fun υ υ=>rfl)) (Za (nm 9) (Za (nm 7) (Za (ZbR H.B (Zi (nm 21) Ze) Ze rfl) Zg rfl) rfl) rfl) rfl) (ZM (Zgh H L) (by decide))) (nm 19) rfl)
 (Zc (Zw Zt)
 Zh)
 Zh)
 Zh) (DT1.loc 21 rfl (by kernel_rfl) ZI) (fun υ υ=>rfl))
 Zh)))
 (Zc (Zj 22 Ze rfl (by kernel_rfl) ZI (fun υ=>rfl))
 (Zc (Zai 100 (Zy (Zx (Za (Zi (Zi (nm 16) (nm 17)) (nm 18)) (Za (Zi (Zi (nm 16) (nm 18)) (nm 17)) Zg rfl) rfl)))
 (Zc (Zj 24 (Zx (Za (nm 23) (Za (Zi (ZaI (nm 23) (ZaC Ze) Zcf (fun υ υ=>rfl)) (ZaI (nm 23) Zcf (ZaC Ze) (fun υ υ=>rfl))) (Za (Zi (ZaI (nm 23) (ZaC Ze) Zcf (fun υ υ=>rfl)) (ZaI (nm 23) Zcf (ZaC Ze) (fun υ υ=>rfl))) Zg rfl) rfl) rfl)) rfl (by kernel_rfl) ZI (fun υ=>rfl))
 (Zc (ZdH 25 100 [("ballots", (n+5)),("said", (n+3))] (Zy (nm 24)) (fun nC=>(ZbC 100 [("ballots", (n+5)),("said", (n+3)),("wish", nC)] (Zdr (hty H "range") (Za Ze Zg rfl)) (ZeC (ZaS (ZD (o:=Zbc w.params) (hfn H 184) (hK H) rfl (Za (Zm (.inl (by kernel_rfl)) (by kernel_rfl) (by kernel_rfl) (by kernel_rfl)) (Za (ZK (Zm (.inl (by kernel_rfl)) (by kernel_rfl) (by kernel_rfl) (by kernel_rfl)) (nm 0) (fun υ υ=>rfl)) (Za (Zm (.inl (by kernel_rfl)) (by kernel_rfl) (by kernel_rfl) (by kernel_rfl)) Zg rfl) rfl) rfl) (ZM (ZaA H) (by decide))) (fun υ υ=>rfl))) (nm 0) rfl (by kernel_rfl) (by kernel_rfl) ⟨(by kernel_rfl),(by decide +kernel),(by kernel_rfl),(by decide +kernel),(by kernel_rfl),(by decide +kernel),trivial⟩ (fun υ υ=>rfl))) rfl (by kernel_rfl) (by kernel_rfl) ⟨(by kernel_rfl),(by decide +kernel),(by kernel_rfl),(by decide +kernel),trivial⟩ (fun υ υ=>rfl) rfl (by kernel_rfl) ZI (fun env he=>by obtain ⟨sc⟩:=env;cases he;rfl))
 (Zc (ZC (Zz H.B (Zx Zg) (nm 25) rfl)
 (Zc (ZaU 22 Ze rfl (by kernel_rfl) ZI)
 (Zc (Zj 26 (Zx (Za Ze (Za Ze (Za Ze (Za Ze (Za Ze Zg rfl) rfl) rfl) rfl) rfl)) rfl (by kernel_rfl) ZI (fun υ=>rfl))
 (Zc (Zai 100 (Zdr (hty H "range") (Za Ze Zg rfl))
 (Zc (ZbL Ze (nm 26) (ZK (ZK (nm 25) (nm 21) (fun υ υ=>rfl)) Ze (fun υ υ=>rfl)) (fun υ=>rfl))
 Zh) (DT1.loc 21 rfl (by kernel_rfl) ZI) (fun υ υ=>rfl))
 (Zc (ZbL Ze (nm 26) (ZK (ZK (nm 25) Ze (fun υ υ=>rfl)) Ze (fun υ υ=>rfl)) (fun υ=>rfl))
 (Zc (Zai 100 (Zy (nm 24))
 (Zc (Zai 100 (Zy (Zx (Za Zt (Za Zt Zg rfl) rfl)))
 (Zc (ZC (Zz H.B (ZD (o:=Zdh w.params) (hfn H 201) (hK H) rfl (Za (ZjL (hty H "list") (Za (nm 27) Zg rfl) Zgm) (Za (nm 9) (Za (nm 26) (Za (nm 28) Zg rfl) rfl) rfl) rfl) (ZM (Zgh H L) (by decide))) (ZjL (hty H "list") (Za (nm 27) Zg rfl) Zgm) rfl)
 (Zc (Zw Zt)
 Zh)
 Zh)
 Zh) (DT1.loc 28 rfl (by kernel_rfl) ZI) (fun υ υ=>rfl))
 Zh) (DT1.loc 27 rfl (by kernel_rfl) ZI) (fun υ υ=>rfl))
 Zh)))))
 Zh)
 Zh))) (DT1.loc 23 rfl (by kernel_rfl) ZI) (fun υ υ=>rfl))
 (Zc (ZC (Zz H.B (nm 22) Ze rfl)
 (Zc (Zw Zt)
 Zh)
 Zh)
 Zh))))
 Zh)
def s262(lamF:ZF)(n:Nat):SF:=(Qk (ZbG (ZS .Eq (Qb (itE (ZL (n+3))) (andT (ZS .IsNot (Zf 0) (Zb (.bool true))) (ZS .IsNot (Zf 0) (Zb (.bool false)))) (Zf 0) 1000) (ZH Zp))))
def s261(lamF:ZF)(n:Nat):SF:=(Zgu (ZV "list" ZkR (ZL (n+3)) (Zd (ZdW (itE (Zf 31)) (itE (Zf 0)) Qi (Zf 1) 100) Zp)))
def s260(lamF:ZF)(n:Nat):SF:=(Qk (Zb (.bool false)))
def s259(lamF:ZF)(n:Nat):SF:=(ifS (ZS .NotEq (Zf 31) (ZB .Add (ZB .Mult (ZH (Zd (ZH (Zd (Zb (.bool true)) (Zd (Zb (.bool false)) Zp))) Zp)) (Zb (.int 6))) (ZB .Mult (ZH (Zd (ZH (Zd (Zb (.bool false)) (Zd (Zb (.bool true)) Zp))) Zp)) (Zb (.int 3)))))
 (Zn (s260 lamF n)
 ZA)
 ZA)
def s258(lamF:ZF)(n:Nat):SF:=(ZU 31 (Qb (itE (Zf 29)) Qi (ZH (Zd (Zr (Zau) (Zd (ZZ (Zf 0) (Zb (.int 0))) Zp)) (Zd (Zr (Zaj) (Zd (ZZ (Zf 0) (Zb (.int 0))) Zp)) Zp))) 100))
def s257(lamF:ZF)(n:Nat):SF:=(Qk (Zb (.bool false)))
def s254(lamF:ZF)(n:Nat):SF:=(ifS (orT (ZS .NotEq (Zf 29) (ZbX (ZhF lamF) (Zd (Zf 10) Zp) (ZkK 4 1 208 ⟨255,0,255,18⟩ []))) (ZS .NotEq (Zf 30) (ZbX (ZhF lamF) (Zd (Zf 11) Zp) (ZkK 5 1 208 ⟨256,0,256,18⟩ []))))
 (Zn (s257 lamF n)
 ZA)
 ZA)
def s252(lamF:ZF)(n:Nat):SF:=(Zgu (ZbX (ZaD lamF) (Zd (Zf 30) (Zd (Zf 12) Zp)) (ZkK 3 1 208 ⟨253,0,253,18⟩ [])))
def s250(lamF:ZF)(n:Nat):SF:=(Zgu (ZbX (Zax lamF) (Zd (Zf 29) (Zd (Zf 12) Zp)) (ZkK 2 1 208 ⟨251,0,251,18⟩ [])))
def s249(lamF:ZF)(n:Nat):SF:=(Zbr (itE (Zf 10)) (tgL 12)
 (Zn (s250 lamF n)
 (Zn (s252 lamF n)
 ZA)) 100)
def s248(lamF:ZF)(n:Nat):SF:=(ZU 30 (ZH Zp))
def s247(lamF:ZF)(n:Nat):SF:=(ZU 29 (ZH Zp))
def Zpd(lamF:ZF)(n:Nat):SF:=(Zn (s247 lamF n)
 (Zn (s248 lamF n)
 (Zn (s249 lamF n)
 (Zn (s254 lamF n)
 (Zn (s258 lamF n)
 (Zn (s259 lamF n)
 (Zn (s261 lamF n)
 (Zn (s262 lamF n)
 ZA))))))))
theorem d_lawI{lamF:ZF}(H:HeadF w g mg mb)(L:SCLam w g 8 lamF)(n:Nat):SDS w g 11 (Zdx n) ((fnp 29).2.1.drop 24) (Zpd lamF n):=
 (Zc (Zj 29 (Zx Zg) rfl (by kernel_rfl) ZI (fun υ=>rfl))
 (Zc (Zj 30 (Zx Zg) rfl (by kernel_rfl) ZI (fun υ=>rfl))
 (Zc (Zai 100 (Zy (nm 10))
 (Zc (ZaT (ZbZ (o:=ZcP w.params) (hfn H 23) (hK H) rfl (Za (nm 29) (Za (nm 12) Zg rfl) rfl) (ZdI (id:=2) (kt:=1) (cl:=[]) H.B H.l2 rfl (by kernel_rfl) (fun υ=>rfl) (Zbl (by kernel_rfl)) trivial) (fun υ=>rfl) (Zca (ZcT H L) (by decide))) (fun υ=>rfl))
 (Zc (ZaT (ZbZ (o:=ZcO w.params) (hfn H 41) (hK H) rfl (Za (nm 30) (Za (nm 12) Zg rfl) rfl) (ZdI (id:=3) (kt:=1) (cl:=[]) H.B H.l2 rfl (by kernel_rfl) (fun υ=>rfl) (Zbl (by kernel_rfl)) trivial) (fun υ=>rfl) (Zca (Zdp H L) (by decide))) (fun υ=>rfl))
 Zh)) (DT1.loc 12 rfl (by kernel_rfl) ZI) (fun υ υ=>rfl))
 (Zc (ZC (SDT.or (Zz H.B (nm 29) (ZhB (hbi H "sorted") (Za (nm 10) Zg rfl) (ZdI (id:=4) (kt:=1) (cl:=[]) H.B H.l2 rfl (by kernel_rfl) (fun υ=>rfl) (Zbl (by kernel_rfl)) trivial) (fun υ=>rfl) (Zgl (Zbv L (by decide)))) rfl) (Zz H.B (nm 30) (ZhB (hbi H "sorted") (Za (nm 11) Zg rfl) (ZdI (id:=5) (kt:=1) (cl:=[]) H.B H.l2 rfl (by kernel_rfl) (fun υ=>rfl) (Zbl (by kernel_rfl)) trivial) (fun υ=>rfl) (Zgl (Zbv L (by decide)))) rfl))
 (Zc (Zw Zt)
 Zh)
 Zh)
 (Zc (Zap 31 100 [] (Zy (nm 29)) ZaR (Zx (Za (ZD (o:=Zdj w.params) (hfn H 128) (hK H) rfl (Za (ZK (nm 0) Ze (fun υ υ=>rfl)) Zg rfl) (ZM (ZdX H) (by decide))) (Za (ZD (o:=Zdi w.params) (hfn H 135) (hK H) rfl (Za (ZK (nm 0) Ze (fun υ υ=>rfl)) Zg rfl) (ZM (Zcw H) (by decide))) Zg rfl) rfl)) rfl (by kernel_rfl) (by kernel_rfl) trivial (fun υ υ=>rfl) rfl (by kernel_rfl) ZI (fun env he=>by obtain ⟨sc⟩:=env;cases he;rfl))
 (Zc (ZC (Zz H.B (nm 31) (Zi (Zi (Zx (Za (Zx (Za Zt (Za Zt Zg rfl) rfl)) Zg rfl)) Ze) (Zi (Zx (Za (Zx (Za Zt (Za Zt Zg rfl) rfl)) Zg rfl)) Ze)) rfl)
 (Zc (Zw Zt)
 Zh)
 Zh)
 (Zc (ZaT (Zag H.b3.toB2 (Zm (.inl (by kernel_rfl)) (by kernel_rfl) (by kernel_rfl) (by kernel_rfl)) (Za (ZhA 100 [] (Zy (nm 31)) (Zy (nm 0)) ZaR (nm 1) rfl (by kernel_rfl) (by kernel_rfl) (by kernel_rfl) (by kernel_rfl) trivial (fun υ υ=>rfl) (fun υ υ=>rfl)) Zg rfl) ZnV F.plainAttrs_list F.slot_list_extend F.type_list_extend (fun υ=>rfl) (fun υ=>rfl) rfl) (fun υ=>rfl))
 (Zc (Zw (ZbR H.B (ZbC 1000 [] (Zy (Zm (.inl (by kernel_rfl)) (by kernel_rfl) (by kernel_rfl) (by kernel_rfl))) (ZeC (ZpB (Zz H.B (nm 0) Zt rfl) (Zz H.B (nm 0) Zt rfl))) (nm 0) rfl (by kernel_rfl) (by kernel_rfl) trivial (fun υ υ=>rfl)) (Zx Zg) rfl))
 Zh))))))))
end
end
noncomputable section
noncomputable section
variable {w:World} {g:Heap} {mg mb:Str→Option Value}
def Zpg(ka kn kw:Nat):EF:=(Zr (Zau) (Zd (Zr (Zaq) (Zd (ZZ (ZL ka) (ZB .Add (Zf 0) (ZL kn))) (Zd (ZL kw) Zp))) Zp))
theorem d_lam0(H:HeadF w g mg mb)(cl:List (Str×Nat))(cd:Value)(qu:Str)(ka kn kw:Nat)(ha:cl.lookup (Str.ofString "ahead")=some ka)(hn:cl.lookup (Str.ofString "new")=some kn)(hw:cl.lookup (Str.ofString "weights")=some kw):SDE w g 3 ⟨(lamSyn 0).2.2,[oldS],cl,cd,qu⟩ (lamSyn 0).2.1 (Zpg ka kn kw):=
 (ZD (o:=Zdj w.params) (hfn H 128) (hK H) rfl (Za (ZD (o:=Zcz w.params) (hfn H 189) (hK H) rfl (Za (ZK (Zm (.inr (by kernel_rfl)) (by assumption) (by kernel_rfl) (by kernel_rfl)) (Zi (nm 0) (Zm (.inr (by kernel_rfl)) (by assumption) (by kernel_rfl) (by kernel_rfl))) (fun υ υ=>rfl)) (Za (Zm (.inr (by kernel_rfl)) (by assumption) (by kernel_rfl) (by kernel_rfl)) Zg rfl) rfl) (ZM (Zcv H) (by decide))) Zg rfl) (ZM (ZdX H) (by decide)))
def Zpf(ka kn kw:Nat):EF:=(Zr (Zaj) (Zd (Zr (Zaq) (Zd (ZZ (ZL ka) (ZB .Add (ZL kn) (Zf 0))) (Zd (ZL kw) Zp))) Zp))
theorem d_lam1(H:HeadF w g mg mb)(cl:List (Str×Nat))(cd:Value)(qu:Str)(ka kn kw:Nat)(ha:cl.lookup (Str.ofString "ahead")=some ka)(hn:cl.lookup (Str.ofString "new")=some kn)(hw:cl.lookup (Str.ofString "weights")=some kw):SDE w g 3 ⟨(lamSyn 1).2.2,[oldS],cl,cd,qu⟩ (lamSyn 1).2.1 (Zpf ka kn kw):=
 (ZD (o:=Zdi w.params) (hfn H 135) (hK H) rfl (Za (ZD (o:=Zcz w.params) (hfn H 189) (hK H) rfl (Za (ZK (Zm (.inr (by kernel_rfl)) (by assumption) (by kernel_rfl) (by kernel_rfl)) (Zi (Zm (.inr (by kernel_rfl)) (by assumption) (by kernel_rfl) (by kernel_rfl)) (nm 0)) (fun υ υ=>rfl)) (Za (Zm (.inr (by kernel_rfl)) (by assumption) (by kernel_rfl) (by kernel_rfl)) Zg rfl) rfl) (ZM (Zcv H) (by decide))) Zg rfl) (ZM (Zcw H) (by decide)))
def ZfV:EF:=(ZZ (Zf 0) (Zb (.int 0)))
theorem d_lam2(H:HeadF w g mg mb)(cl:List (Str×Nat))(cd:Value)(qu:Str):SDE w g 3 ⟨(lamSyn 2).2.2,[oldS],cl,cd,qu⟩ (lamSyn 2).2.1 (ZfV):=
 (ZK (nm 0) Ze (fun υ υ=>rfl))
theorem d_lam3(H:HeadF w g mg mb)(cl:List (Str×Nat))(cd:Value)(qu:Str):SDE w g 3 ⟨(lamSyn 3).2.2,[oldS],cl,cd,qu⟩ (lamSyn 3).2.1 (ZfV):=
 (ZK (nm 0) Ze (fun υ υ=>rfl))
theorem d_lam4(H:HeadF w g mg mb)(cl:List (Str×Nat))(cd:Value)(qu:Str):SDE w g 3 ⟨(lamSyn 4).2.2,[oldS],cl,cd,qu⟩ (lamSyn 4).2.1 (ZfV):=
 (ZK (nm 0) Ze (fun υ υ=>rfl))
theorem d_lam5(H:HeadF w g mg mb)(cl:List (Str×Nat))(cd:Value)(qu:Str):SDE w g 3 ⟨(lamSyn 5).2.2,[oldS],cl,cd,qu⟩ (lamSyn 5).2.1 (ZfV):=
 (ZK (nm 0) Ze (fun υ υ=>rfl))
def lamF:ZF:=fun id cl args hp=>match args with
 | [v]=>(match id with
  | 0=>(match cl.lookup (Str.ofString "ahead"),cl.lookup (Str.ofString "new"),cl.lookup (Str.ofString "weights") with
   | some ka,some kn,some kw=>Zpg ka kn kw [some v] hp
   | _,_,_=>none)
  | 1=>(match cl.lookup (Str.ofString "ahead"),cl.lookup (Str.ofString "new"),cl.lookup (Str.ofString "weights") with
   | some ka,some kn,some kw=>Zpf ka kn kw [some v] hp
   | _,_,_=>none)
  | _=>ZfV [some v] hp)
 | _=>none
theorem ZmZ(id:Nat):lamSyn (id+5)=lamSyn 5:=rfl
theorem ZjF(H:HeadF w g mg mb):CLam w g 8 lamF:=by
 refine SCLam.un (SCLam.mk (CLam.mono (c:=4) (CLam.of (c:=3) H.B ?_ ?_ ?_) (by decide)))
 · intro fd id h1 h2 h3 v;obtain ⟨_,_,_,_,_,_,_,_,_,_,_,_,_,_,_⟩:=fd;dsimp only at h1 h2 h3;subst h1 h2 h3;match id with
   | 0=>rfl
   | 1=>rfl
   | 2=>rfl
   | 3=>rfl
   | 4=>rfl
   | n+5=>rfl
 · intro id;match id with
   | 0=>exact ⟨by decide +kernel,by decide +kernel,rfl,rfl,rfl⟩
   | 1=>exact ⟨by decide +kernel,by decide +kernel,rfl,rfl,rfl⟩
   | 2=>exact ⟨by decide +kernel,by decide +kernel,rfl,rfl,rfl⟩
   | 3=>exact ⟨by decide +kernel,by decide +kernel,rfl,rfl,rfl⟩
   | 4=>exact ⟨by decide +kernel,by decide +kernel,rfl,rfl,rfl⟩
   | n+5=>rw[ZmZ];exact ⟨by decide +kernel,by decide +kernel,rfl,rfl,rfl⟩
 · intro id cl args hp mv hp' q;unfold lamF at q;split at q
   · rename_i v;refine Qd v rfl (fun cd qu=>?_);split at q
     · split at q
       · rename_i ka kn kw e1 e2 e3;exact (d_lam0 H cl cd qu ka kn kw e1 e2 e3).un _ _ _ _ q
       · exact nn q
     · split at q
       · rename_i ka kn kw e1 e2 e3;exact (d_lam1 H cl cd qu ka kn kw e1 e2 e3).un _ _ _ _ q
       · exact nn q
     · rename_i i _ _;match id with
       | 0=>exact absurd rfl (by assumption)
       | 1=>exact absurd rfl (by assumption)
       | 2=>exact (d_lam2 H cl cd qu).un _ _ _ _ q
       | 3=>exact (d_lam3 H cl cd qu).un _ _ _ _ q
       | 4=>exact (d_lam4 H cl cd qu).un _ _ _ _ q
       | n+5=>rw[ZmZ];exact (d_lam5 H cl cd qu).un _ _ _ _ q
   · exact nn q
end
end
section
section
variable {w:World} {g:Heap} {mg mb:Str→Option Value}
noncomputable def Zph:EF:=(ZB .Mod (ZZ (Zf 1) (Zb (.int 5))) (Zb (.int 4)))
theorem d_gone(H:HeadF w g mg mb)(n:Nat):SDE w g 11 (Zdx n) (match atS (fnp 29).2.1 2 with | .Assign _ (.Subscript _ ix _) _=>ix | _=>.Tuple [] 0 ⟨0,0,0,0⟩) Zph:=
 (Zi (ZK (nm 1) Ze (fun υ υ=>rfl)) Ze)
noncomputable def Znj(T n:Nat):SF:=ZU 5 (Qb (itE (Zf 5)) Qi (replE 0 (n+6) T "") 100)
theorem d_it8(H:HeadF w g mg mb)(n:Nat):SDI w g 11 (Zdx n) (match atS (fnp 29).2.1 8 with | .Assign _ (.ListComp _ [⟨_,it,_,_⟩] _ _) _=>it | _=>.Tuple [] 0 ⟨0,0,0,0⟩) (itE (Zf 5)):=
 (Zy (nm 5))
noncomputable def ZiX:List (Option Nat):=[some 0,none,none,none,none,none,none,none,none,none,none,none,none,none,none,none,none,none,none,none,none,none,none,none,none,none,none,none,none,none,none,none]
noncomputable def ZiY:List (Option Nat):=[none,none,none,none,none,none,none]
noncomputable def ZiW:List Str:=["script","cells","place","number","closing","orders","page","weights","names","ahead","came","back","pair","kept_off","first","last","x","y","z","row","comings","turn","rings","ring","wishes","spots","shares","wish","by_left","shelf","turned","verdicts"]
theorem Zjk(env:Env):∀(a b:List Stmt),execs (a++b) env=(execs a env>>=fun f=>match f with | .next=>execs b env | f=>pure f):=by
 intro r;induction r with
 | nil=>
  intro b;rw[show execs [] env=(pure .next:Sem Flow) from rfl,pure_bind];rfl
 | cons x r ih=>
  intro b;rw[List.cons_append,execs_cons,execs_cons,bind_assoc];congr 1
  funext f
  cases f with
  | next=>exact ih b
  | _=>simp only[pure_bind]
theorem Zjl{w:World}{A:Around}{env:Env}(a b:List Stmt){Q:Flow→Shared→Prop}{Ee:Value→Shared→Prop}{s:Shared}(h:wpAny (model pE w) A (execs a env) (fun f s'=>match f with | .next=>wpAny (model pE w) A (execs b env) Q Ee s' | f=>Q f s') Ee s):wpAny (model pE w) A (execs (a++b) env) Q Ee s:=by
 rw[Zjk];refine wpAny_bind (wpAny_mono h (fun f s' hf=>?_) fun υ υ e=>e);cases f with
 | next=>exact hf
 | _=>exact wpAny_pure hf
theorem ZoH:(fnp 29).2.1=(fnp 29).2.1.take 2++(atS (fnp 29).2.1 2::(((fnp 29).2.1.drop 3).take 5++(atS (fnp 29).2.1 8::(((fnp 29).2.1.drop 9).take 9++(((fnp 29).2.1.drop 18).take 1++(((fnp 29).2.1.drop 19).take 2++(((fnp 29).2.1.drop 21).take 2++(((fnp 29).2.1.drop 23).take 1++(fnp 29).2.1.drop 24)))))))):=by kernel_rfl
noncomputable def TailOK(n:Nat)(ℓ3:Loc)(hp3:Hp):Prop:=
 ∃ℓ4 hp4,Zpe lamF n ℓ3 hp3=some (.norm,ℓ4,hp4)∧∃ℓ5 hp5,Zng lamF n ℓ4 hp4=some (.norm,ℓ5,hp5)∧∃ℓ6 hp6,Znf lamF n ℓ5 hp5=some (.norm,ℓ6,hp6)∧∃ℓ7 hp7,Zne lamF n ℓ6 hp6=some (.norm,ℓ7,hp7)∧
 ∃ℓ8 hp8,ZfU lamF n ℓ7 hp7=some (.norm,ℓ8,hp8)∧∃ℓ9 hp9,Zpd lamF n ℓ8 hp8=some (.ret (.bool true),ℓ9,hp9)∧(∃e,hp9[0]?=some (.tab 196 e))∧∃e,hp9[1]?=some (.tab 208 e)
noncomputable def LawP(l:Addr)(items:List MV):Prop:=
 ∃ℓ1 hp1,Zni lamF l items 2 (ZfH ZiX [.glob (.ref l)]) ([.tab 196 [],.tab 208 []]++ZaH ZiY [.glob (.ref l)])=some (.norm,ℓ1,hp1)∧
 ∃i c u,Zph ℓ1 hp1=some (.int i,hp1)∧(0≤i∧i≤100000)∧(Str.ofString "akmp").cps.toList[i.toNat]?=some c∧hp1[8]?=some (.cell u)∧
 ∀t,t≠0→∃ℓ2 hp2,Znh lamF 2 ℓ1 (hp1.set 8 (.cellk [c] t))=some (.norm,ℓ2,hp2)∧∃ℓ3 hp3,Znj (t+1) 2 ℓ2 hp2=some (.norm,ℓ3,hp3)∧TailOK 2 ℓ3 hp3
noncomputable def TabsOK(hp:Hp):Prop:=(∃e,hp[0]?=some (.tab 196 e))∧∃e,hp[1]?=some (.tab 208 e)
theorem Zhs{c:Nat}{E:EnvD}{b b2:List Stmt}{f:SF}(d:DS w g c E b f){ℓ:Loc}{hp:Hp}{ℓ':Loc}{hp':Hp}(q:f ℓ hp=some (.norm,ℓ',hp')){ρ:List Addr}{env:Env}{s:Shared}{A:Around}{Q:Flow→Shared→Prop}{Ee:Value→Shared→Prop}(S:St w g E ρ hp ℓ env s.heap)(hA:AOK c A)
 (h:∀(h':Heap) (tk:Nat) (ρ':List Addr),PostW w g [env.locals] ρ s.heap ρ' hp' h'→St w g E ρ' hp' ℓ' env h'→wpAny (model pE w) A (execs b2 env) Q Ee {s with heap:=h',toks:=tk}):wpAny (model pE w) A (execs (b++b2) env) Q Ee s:=
 Zjl b b2 (d _ _ _ _ _ q ρ env s A _ Ee S hA fun fl h1 tk1 ρ1 hf P1 S1=>by cases hf;exact h h1 tk1 ρ1 P1 S1)
theorem ds_runT{c T:Nat}{E:EnvD}{b b2:List Stmt}{f:SF}(d:DS w g c E b f){ℓ:Loc}{hp:Hp}{ℓ':Loc}{hp':Hp}(q:f ℓ hp=some (.norm,ℓ',hp')){ρ:List Addr}{env:Env}{s:Shared}{A:Around}{Q:Flow→Shared→Prop}{Ee:Value→Shared→Prop}(S:St w g E ρ hp ℓ env s.heap)(hA:AOK c A)(hT:T≤s.toks)
 (h:∀(h':Heap) (tk:Nat) (ρ':List Addr),PostW w g [env.locals] ρ s.heap ρ' hp' h'→St w g E ρ' hp' ℓ' env h'→T≤tk→wpAny (model pE w) A (execs b2 env) Q Ee {s with heap:=h',toks:=tk}):wpAny (model pE w) A (execs (b++b2) env) Q Ee s:=
 Zjl b b2 (wpAny_with_toks (n:=T) hT (d _ _ _ _ _ q ρ env s A _ _ S hA fun fl h1 tk1 ρ1 hf P1 S1 hT1=>by cases hf;exact h h1 tk1 ρ1 P1 S1 hT1))
theorem stmt8(H:HeadF w g mg mb){T:Nat}{ℓ:Loc}{hp:Hp}{ℓ':Loc}{hp':Hp}(q:Znj T 2 ℓ hp=some (.norm,ℓ',hp')){ρ:List Addr}{env:Env}{s:Shared}{A:Around}{Q:Flow→Shared→Prop}{Ee:Value→Shared→Prop}(S:St w g (Zdx 2) ρ hp ℓ env s.heap)(hA:AOK 11 A)(hT:T≤s.toks)
 (h:∀(f:Flow) (h':Heap) (tk:Nat) (ρ':List Addr),FR ρ' .norm f→PostW w g [env.locals] ρ s.heap ρ' hp' h'→St w g (Zdx 2) ρ' hp' ℓ' env h'→Q f {s with heap:=h',toks:=tk}):wpAny (model pE w) A (exec (atS (fnp 29).2.1 8) env) Q Ee s:=by
 refine Zci 5 (E:=Zdx 2) (c:=11) 100 [(Str.ofString "gone", 8)] (d_it8 H 2).un DTs.nil (DEt.repl (T:=T) (kg:=8) 0 rfl ?_ ?_ ?_ ?_ ?_ ?_ (fun υ=>rfl) ?_) rfl (Zcl ?_) ?_ (Zbl ?_) ?_ (ZcB ?_) (fun υ υ=>rfl) rfl ?_ ?_ ?_ _ _ _ _ _ q ρ env s A Q Ee S hA hT h
 · kernel_rfl
 · kernel_rfl
 · exact .inl (by kernel_rfl)
 · kernel_rfl
 · kernel_rfl
 · kernel_rfl
 · rfl
 · kernel_rfl
 · kernel_rfl
 · kernel_rfl
 · exact ZnZ (by kernel_rfl) (by decide +kernel) trivial
 · kernel_rfl
 · kernel_rfl
 · show List.Nodup ZiW
   decide +kernel
 · exact fun env he=>by obtain ⟨sc⟩:=env;cases he;rfl
theorem law_body(H:HeadF w g mg mb){l:Addr}{items:List MV}{vs:List Value}(hl:g.get? l=some {cls:=.type "list", data:=.seq vs.toArray})(hvs:VRs [] items vs)(hpl:items.all ZO=true)(P:LawP l items)
 {ρ:List Addr} {env:Env} {s:Shared} {A:Around} {Q:Flow→Shared→Prop} {Ee:Value→Shared→Prop} (S:St w g (Zdx 2) ρ ([.tab 196 [],.tab 208 []]++ZaH ZiY [.glob (.ref l)]) (ZfH ZiX [.glob (.ref l)]) env s.heap) (hA:AOK 11 A)
 (h:∀(f:Flow) (h':Heap) (tk:Nat) (ρ':List Addr) (hp':Hp),FR ρ' (.ret (.bool true)) f→TabsOK hp'→PostW w g [env.locals] ρ s.heap ρ' hp' h'→Q f {s with heap:=h',toks:=tk}):wpAny (model pE w) A (execs (fnp 29).2.1 env) Q Ee s:=by
 obtain ⟨ℓ1,hp1,q1,i,c,u,q2,hz,hc,hu,P⟩:=P;rw[ZoH];refine Zhs (d_lawA H ⟨ZjF H⟩ l items vs hl hvs hpl 2).un q1 S hA fun h1 tk1 ρ1 P1 S1=>?_;refine wpAny_execs_cons ?_;refine ZnR (x:=Str.ofString "gone") (k:=8) (d_gone H 2).un (by kernel_rfl) (by kernel_rfl) (fun υ υ=>rfl) (fun env he=>by obtain ⟨sc⟩:=env;cases he;rfl) q2 hz hc hu S1 hA fun h2 tk2 ρ2 t ht0 htk P2 S2=>?_;have P02:=St.transW P1 S1 P2;obtain ⟨ℓ2,hp2,q3,ℓ3,hp3,q4,ℓ4,hp4,q5,ℓ5,hp5,q6,ℓ6,hp6,q7,ℓ7,hp7,q8,ℓ8,hp8,q9,ℓ9,hp9,q10,tabs⟩:=P t ht0;refine ds_runT (T:=t+1) (d_lawB H ⟨ZjF H⟩ 2).un q3 S2 hA htk fun h3 tk3 ρ3 P3 S3 hT3=>?_;have P03:=St.transW P02 S2 P3;refine wpAny_execs_cons (stmt8 H q4 S3 hA hT3 fun f h4 tk4 ρ4 hf P4 S4=>?_);cases hf
 have P04:=St.transW P03 S3 P4;refine Zhs (d_lawC H ⟨ZjF H⟩ 2).un q5 S4 hA fun h5 tk5 ρ5 P5 S5=>?_;have P05:=St.transW P04 S4 P5;refine Zhs (d_lawD H ⟨ZjF H⟩ 2).un q6 S5 hA fun h6 tk6 ρ6 P6 S6=>?_;have P06:=St.transW P05 S5 P6;refine Zhs (d_lawF H ⟨ZjF H⟩ 2).un q7 S6 hA fun h7 tk7 ρ7 P7 S7=>?_;have P07:=St.transW P06 S6 P7;refine Zhs (d_lawG H ⟨ZjF H⟩ 2).un q8 S7 hA fun h8 tk8 ρ8 P8 S8=>?_;have P08:=St.transW P07 S7 P8;refine Zhs (d_lawH H ⟨ZjF H⟩ 2).un q9 S8 hA fun h9 tk9 ρ9 P9 S9=>?_;have P09:=St.transW P08 S8 P9;refine (d_lawI H ⟨ZjF H⟩ 2).un _ _ _ _ _ q10 ρ9 env _ A _ Ee S9 hA fun f h10 tk10 ρ10 hf P10 S10=>?_;exact h f h10 tk10 ρ10 hp9 hf tabs (St.transW P09 S9 P10)
end
end
noncomputable section
noncomputable section
variable {w:World} {g:Heap} {c:Nat} {mg mb:Str→Option Value}
theorem ZnK{fa:Addr}{fd:FuncData}{o:Obj}{body:List Stmt}{names slots cn:List Str}{li ci:List (Option Nat)}(B:Bs w g mg mb)(ho:g.get? fa=some o)(hd:o.data=.func fd)(hbody:fd.body=.stmts body)(hgl:fd.globals=mainGlobals)(hbi:fd.builtins=builtinsNs)(hclo:fd.closure=[])
 (hcode:g.CodeRec fd.code fd.qualname) (hb:∀vs:List Value,vs.length=names.length→bindArgs fd ⟨vs,[]⟩=pure (names.zip vs)) (hkind:∀x∈names,fd.scope.names.lookup x=some .local∨(fd.scope.names.lookup x=some .cell∧x∈cn)) (hnd:names.Nodup)
 (hcn:∀L,(cellsFrom L fd.scope.names []).map (·.1)=cn) (hcnd:cn.Nodup) (hL:okL fd.scope names slots li=true) (hC:okC fd.scope names cn ci=true)
 (hco:fd.scope.isCoroutine=false) (hgen:fd.scope.isGenerator=false) (hk:fd.scope.kind=.function)
 {ρ:List Addr} {hp:Hp} {args:List MV} {vs:List Value} {s:Shared} {A:Around} {RR:Result→Shared→Prop} (R:Rel w g ρ hp s.heap) (hA:AOK (c+1) A) (hvs:VRs ρ args vs) (hlen:args.length=names.length)
 (k:∀(env:Env) (h0:Heap) (tk0:Nat) (ρ0:List Addr) (Ee:Value→Shared→Prop),s.heap.get? env.locals=none→Post w g ρ s.heap ρ0 (hp++ZaH ci args) h0→St w g ⟨fd.scope,slots,Zbk hp.length cn,fd.code,fd.qualname ++ ".<locals>."⟩ ρ0 (hp++ZaH ci args) (ZfH li args) env h0→AOK c (A.deeper env)→
  wpAny (model pE w) (A.deeper env) (execs body env) (fun f s'=>RR (.ok (.ret (match f with | .ret v=>v | _=>.none))) s') Ee {s with heap:=h0,toks:=tk0}):codeAny (model pE w) A (.call (.ref fa) ⟨vs,[]⟩) RR s:=by
 have hvl:vs.length=names.length:=by rw[hvs.len,hlen]
 have hdep:A.depth < recursionLimit:=by have:=hA.dep;have:recursionLimit=1000:=(by decide +kernel);lia
 have hcode':s.heap.CodeRec fd.code fd.qualname:=by
  refine x4_3 hcode fun c' o' vs' t e h1 h2=>?_;exact p4_3 c' o' vs' t e (R.base _ _ h1) h2
 have hcs:=hcn (s.heap.objs.size+1);refine codeAny_call_cells hdep (R.base _ _ ho) hd (B.nolimit.keeps R.base) hcode' hbody (hb vs hvl) hclo (fun x hx=>?_) (fun s₁ X=>?_) hco hgen hk
 · rcases hkind _ (List.of_mem_zip hx).1 with e | ⟨e,e2⟩
   · exact .inl e
   · refine .inr ⟨e,?_⟩;rw[← hcs] at e2;refine ZJ (List.mem_map.mp e2) fun na hm e3=>?_;have:=Zbu (l:=cellsFrom (s.heap.objs.size+1) fd.scope.names []) (x:=na.1) (v:=na.2) (by rw[hcs];exact hcnd) hm;rw[e3] at this;rw[this];rfl
 · refine ZeF X.done fun h₀ tk₀ yq hkeep=>?_;subst yq;revert hcs;refine genh (cellsFrom (s.heap.objs.size+1) fd.scope.names []) fun cs hcsd hcs=>?_;have hcells:(callEnvC fd s.heap.objs.size fa).cells=cs:=hcsd;have hLn:=ZG s.heap;have habove:∀a∈cs.map (·.2),s.heap.objs.size < a:=fun a ha=>by
    refine ZJ (List.mem_map.mp ha) fun yq hm yr=>?_;obtain ⟨n',a'⟩:=yq;subst yr;exact X.above n' a' (by rw[hcells];exact hm)
   have hnone:∀a,s.heap.objs.size≤a→s.heap.get? a=none:=fun a ha=>by
    cases e:s.heap.get? a with
    | none=>rfl
    | some o=>exact absurd (Heap.lt_size e) (Nat.not_lt.mpr ha)
   have hCl:=(ZeO hC).1;have hCg:=(ZeO hC).2;have hkd:∀x,(callEnvC fd s.heap.objs.size fa).kindOf x=fd.scope.names.lookup x:=fun x=>rfl;have P0:Post w g ρ s.heap (ρ++cs.map (·.2)) (hp++ZaH ci args) h₀:=by
    refine R.allocs (by rw[List.length_map,← List.length_map (f:=(·.1)),hcs,hCl];simp[ZaH]) (fun a ha=>hnone a (Nat.le_of_lt (habove a ha))) ?_ hkeep ?_
    · have:=X.apart;rw[hcells] at this;exact List.pairwise_map.mpr this
    · intro i mo a e1 e2;rw[List.getElem?_map] at e2;cases hci:cs[i]? with
      | none=>rw[hci] at e2;cases e2
      | some na=>
       obtain ⟨nm,a'⟩:=na;rw[hci] at e2;cases e2;have hx:cn[i]?=some nm:=by rw[← hcs,List.getElem?_map,hci];rfl
       unfold ZaH at e1;rw[List.getElem?_map] at e1;cases hcii:ci[i]? with
       | none=>rw[hcii] at e1;cases e1
       | some o=>
        rw[hcii] at e1;cases e1;have hg:=hCg i nm o hx hcii;have hlk:cs.lookup nm=some a':=Zbu (by rw[hcs];exact hcnd) (List.mem_of_getElem? hci);have hcell:=X.cell nm a' (by rw[hcells];exact hlk);have hnl:¬(callEnvC fd s.heap.objs.size fa).kindOf nm=some .local:=by rw[hkd,hg.1];decide
        cases o with
        | none=>
         rw[ZcF _ _ _ hg.2] at hcell;exact Qd none hcell trivial
        | some j=>
         have hj:j < args.length:=by rw[hlen];exact (lge hg.2).1
         obtain ⟨v',e3,e4⟩:=hvs.at j args[j] (List.getElem?_eq_getElem hj);rw[Zgj hnl _ _ _ j hnd hg.2 e3] at hcell;refine Qd (some v') hcell ?_;rw[List.getElem?_eq_getElem hj];exact e4.ext _
   have S0:St w g ⟨fd.scope,slots,Zbk hp.length cn,fd.code,fd.qualname ++ ".<locals>."⟩ (ρ++cs.map (·.2)) (hp++ZaH ci args) (ZfH li args) (callEnvC fd s.heap.objs.size fa) h₀:=by
    refine ⟨P0.rel,rfl,hk,hgl,hbi,rfl,rfl,?_,?_,Zak R.base hLn,_,X.toInCall.ns,?_⟩
    · intro x k e;rw[hcells];rw[← hcs] at e;refine ZiK (idx_cs cs _ e) fun i a e1 e2 e3=>?_;refine Qd a ?_ e3;rw[e1,← R.len,List.getElem?_append_right (by lia)];simpa using e2
    · intro hm;rcases List.mem_append.mp hm with hm | hm
      · exact R.notin_none hLn hm
      · exact Nat.lt_irrefl _ (habove _ hm)
    · intro j x v e1 e2;unfold ZfH at e2;rw[List.getElem?_map] at e2;cases hli:li[j]? with
      | none=>rw[hli] at e2;cases e2
      | some o=>
       rw[hli] at e2;cases o with
       | none=>cases e2
       | some i=>
        simp only[Option.map_some,Option.some.injEq] at e2;refine Qe (Zkf hL j x i e1 hli) fun f1 f2=>?_;refine ZJ (hvs.at i v e2) fun v' e3 e4=>?_;exact Qd v' (Zgi (by rw[hkd];exact f2) _ _ _ i hnd f1 e3) (e4.ext _)
   have hA':AOK c (A.deeper (callEnvC fd s.heap.objs.size fa)):=⟨hA.hd,by have:=hA.dep;show A.depth+1+_≤_;lia,by have:=hA.un;show A.units+3+_≤_;lia⟩;exact k _ h₀ tk₀ _ _ hLn P0 S0 hA'
theorem ZoS{P:Params}{h:Heap}:∀{xs:List WData} {vs:List Value},WShape.hasItems [] xs .int=true→WellAll P h vs xs→∃is:List Int,VRs [] (is.map MV.int) vs
 | [],vs,_,hw=>by cases hw;exact ⟨[],.nil⟩
 | x::r,vs,hx,hw=>by
  cases hw with
  | cons h1 h2=>
  simp only[WShape.hasItems,Bool.and_eq_true] at hx;refine ZW (hasW_int hx.1) fun i yq=>?_;subst yq;refine ZW (ZoS hx.2 h2) fun is hr=>?_;cases h1
  exact ⟨i::is,.cons ⟨_,rfl⟩ hr⟩
theorem args_law{args:List WData}(h:rowE.claim.pre args=true):∃xs,args=[.list xs]∧WShape.hasItems [] xs .int=true:=by
 unfold RowW.claim at h;dsimp only at h;rw[Bool.and_eq_true] at h;have h1:WShape.hasAll [] args [.list .int]=true:=h.1;match args,h1 with
 | [],h1=>exact absurd h1 (by simp[WShape.hasAll])
 | d::r,h1=>
  simp only[WShape.hasAll,Bool.and_eq_true] at h1;refine ZJ (hasW_list h1.1) fun xs yq hx=>?_;subst yq;match r,h1.2 with
  | [],_=>exact ⟨xs,rfl,hx⟩
  | _::_,h2=>simp[WShape.hasAll] at h2
theorem ZnS:AOK 12 callerA:=⟨rfl,by decide +kernel,by decide +kernel⟩
theorem walk_E(hP:∀(l:Addr) (is:List Int),LawP l (is.map MV.int)):WalkO qV ZdQ (XL qV []) HK.says rowE dLaw [] (fun f vs=>PySem.call f vs):=by
 intro w s₀ s₁ mg mb G Y a o pm cd doc dV kV ho hd hcd hD hmg hgens args vals as hpre hlay hreads hwell hlow;have hT:=Zof Y;have H:=ZnF Y G.T;have ha:a=211:=by
  have e:=ZcA (n:=Str.ofString "law") H.K H.B.mg (v:=.ref 211) (by kernel_rfl);have e2:mg "law" = some (.ref a):=hmg;rw[e] at e2;exact (by injection e2 with e3;injection e3 with e4;exact e4.symm)
 subst ha;refine ZJ (args_law hpre) fun xs yq hxs=>?_;subst yq;cases hwell with
 | cons hw hn=>
 cases hn
 cases hw with
 | list hl hvs=>
 rename_i l vs;refine ZW (ZoS hxs hvs) fun is hv=>?_;have hlg:(ghostOf s₁.heap tabsE).get? l=some {cls:=.type "list", data:=.seq vs.toArray}:=ghost_get hT hl (fun q=>by cases q);have hpl:(is.map MV.int).all ZO=true:=by
  rw[List.all_map,List.all_eq_true];intro x υ;rfl
 refine wpAny_call (codeAny_mono (kn_post (tabs:=tabsE) (cw:=rowE.claim) (cl:=classAt s₀.heap) (mean:=ExcName.means s₀.heap) (args:=[.list xs]) hT (fun υ υ=>rfl) ?_) fun r s' gd=>?_)
 · have R0:Rel w (ghostOf s₁.heap tabsE) [196,208] [.tab 196 [],.tab 208 []] s₁.heap:=by
    refine ⟨fun b o e=>of_hideAll _ e,rfl,fun k mo a e1 e2=>?_,by decide,fun a ha=>hideAll_none _ (by simpa [tabsE] using ha)⟩;match k with
    | 0=>
     cases e1;cases e2
     exact ⟨rfl,#[],(hT (200,196) (by simp[tabsE])).2,trivial,fun pos=>rfl⟩
    | 1=>
     cases e1;cases e2
     exact ⟨rfl,#[],(hT (210,208) (by simp[tabsE])).2,trivial,fun pos=>rfl⟩
    | k+2=>simp at e1
   refine ZnK (c:=11) (o:=ZhK w.params) (names:=[Str.ofString "script"]) (slots:=ZiW) (cn:=[Str.ofString "want", Str.ofString "other", Str.ofString "one", Str.ofString "said", Str.ofString "name", Str.ofString "ballots", Str.ofString "gone"]) (li:=ZiX) (ci:=ZiY) H.B (hK H) rfl rfl rfl rfl rfl (codeRec_of H.K (by kernel_rfl)) (fun vs hl=>by apply ZoG hl;intros;rfl) (by decide +kernel) (by decide +kernel) (fun υ=>rfl) (by decide +kernel) (by kernel_rfl) (by kernel_rfl) rfl rfl rfl
    R0 ZnS (args:=[.glob (.ref l)]) (.cons rfl .nil) rfl fun env h0 tk0 ρ0 Ee hLn P0 S0 hA=>?_
   refine law_body H hlg hv hpl (hP l is) (s:={s₁ with heap:=h0,toks:=tk0}) S0 hA fun f h' tk ρ' hp' hf tabs PW=>?_;refine ZJ hf fun v yq hv'=>?_;subst yq;cases hv'
   have PP:Post w (ghostOf s₁.heap tabsE) [196,208] s₁.heap ρ' hp' h':=PostW.dead (wr:=[env.locals]) ((P0.toW).trans PW fun a ha=>by rw[lms ha];exact .inr hLn) fun a ha=>by rw[lms ha];exact hLn
   have hρ:∃new,ρ'=[196,208]++new:=PP.ext;refine ZW hρ fun new hρ=>?_;refine ⟨⟨.inl ⟨_,.bool true,[],rfl,fun υ=>rfl,.bool true,(by kernel_rfl),fun υ=>⟨List.nodup_nil,fun a ha=>by cases ha⟩⟩,PP.rel.base,rfl,hgens⟩,?_⟩;obtain ⟨⟨e1,t1⟩,⟨e2,t2⟩⟩:=tabs;obtain ⟨_,ps1,g1,_⟩:=PP.rel.obj 0 _ 196 t1 (by rw[hρ];rfl);obtain ⟨_,ps2,g2,_⟩:=PP.rel.obj 1 _ 208 t2 (by rw[hρ];rfl);exact ZnZ ⟨ps1,g1⟩ ⟨ps2,g2⟩ trivial
 · refine Qe gd fun hc hrest=>?_;rcases hc with ⟨v,d,as,rfl,r2⟩ | ⟨e,ob,x,_,_,_,r4,_⟩
   · exact ⟨.inl ⟨v,d,as,rfl,r2⟩,hrest⟩
   · have:rowE.claim.raises [.list xs] x=false:=rfl;rw[this] at r4;cases r4
end
theorem law_holds_of(hP:∀(l:Addr) (is:List Int),LawP l (is.map MV.int)):PySem.Challenge.rw_uk0019_01.Holds:=holds_E (walk_E hP)
end
set_option tactic.hygienic false
section
theorem sb0{m:Nat}{G:Prop}(h:m < 0):G:=absurd h (Nat.not_lt_zero _)
theorem sbz{m i:Nat}(h:i≤m)(h2:¬i < m):i=m:=Nat.le_antisymm h (Nat.le_of_not_lt h2)
theorem sb1{m i n:Nat}(h:m - i < n+1)(h2:i < m):m - (i+1) < n:=Nat.lt_of_lt_of_le (Nat.sub_lt_sub_left h2 (Nat.lt_succ_self i)) (Nat.le_of_lt_succ h)
theorem sb3{m n k z:Nat}(h:m - k < n+1)(hk:k < m)(hz:1≤z):m - (k+z) < n:=Nat.lt_of_lt_of_le (Nat.sub_lt_sub_left hk (Nat.lt_add_of_pos_right hz)) (Nat.le_of_lt_succ h)
theorem sb4{m a k z:Nat}(h:a≤m - (k+z))(hk:k < m)(hz:1≤z):a+1≤m - k:=Nat.lt_of_le_of_lt h (Nat.sub_lt_sub_left hk (Nat.lt_add_of_pos_right hz))
theorem sb5{α:Type _}{l:List α}{a:α}{k z:Nat}(h:l.length≤k)(hz:1≤z):(l++[a]).length≤k+z:=by rw[List.length_append];exact Nat.add_le_add h hz
theorem md1{a b:Nat}(h:a < b):a≤(a+b) / 2:=(Nat.le_div_iff_mul_le (by decide)).mpr (by rw[Nat.mul_two];exact Nat.add_le_add_left (Nat.le_of_lt h) _)
theorem md2{a b:Nat}(h:a < b):(a+b) / 2 < b:=(Nat.div_lt_iff_lt_mul (by decide)).mpr (by rw[Nat.mul_two];exact Nat.add_lt_add_right h _)
theorem md3{a b n:Nat}(h:a < b)(h2:b - a < n+1):(a+b) / 2 - a < n:=Nat.lt_of_lt_of_le (Nat.sub_lt_sub_right (md1 h) (md2 h)) (Nat.le_of_lt_succ h2)
theorem md4{a b n:Nat}(h:a < b)(h2:b - a < n+1):b - ((a+b) / 2+1) < n:=Nat.lt_of_lt_of_le (Nat.sub_lt_sub_left h (Nat.lt_succ_of_le (md1 h))) (Nat.le_of_lt_succ h2)
theorem ni1{k a:Nat}(h1:k≠a):k∉[a]:=List.not_mem_cons_of_ne_of_not_mem h1 List.not_mem_nil
theorem ni2{k a b:Nat}(h1:k≠a)(h2:k≠b):k∉[a,b]:=List.not_mem_cons_of_ne_of_not_mem h1 (ni1 h2)
theorem ni3{k a b c:Nat}(h1:k≠a)(h2:k≠b)(h3:k≠c):k∉[a,b,c]:=List.not_mem_cons_of_ne_of_not_mem h1 (ni2 h2 h3)
noncomputable def Qr:Option (MV×Hp)→Option MV
 | some (v,_)=>some v
 | none=>none
noncomputable def letters:List Nat:=[97,107,109,112]
noncomputable def namesOf(g:Nat):List Nat:=letters.filter (· != g)
noncomputable def permsOf:List Nat→List (List Nat)
 | [x,y,z]=>[[x,y,z],[x,z,y],[y,x,z],[y,z,x],[z,x,y],[z,y,x]]
 | _=>[]
noncomputable def Qn:List Nat:=[46,46,46]
noncomputable def posIn(o:List Nat)(a:Nat):Int:=Txt.find (mkS o) (mkS [a])
noncomputable def ZY(o:List Nat)(a b:Nat):Bool:=decide (posIn o a < posIn o b)
theorem em_pair:(letters.all fun g=>(permsOf (namesOf g)).all fun o=>(namesOf g).all fun a=>(namesOf g).all fun b=>
 decide (Qr (F__ellipsis_match [.str (Qn++[a]++Qn++[b]++Qn),.str o] [])=some (.bool (ZY o a b))))=true:=by decide +kernel
theorem em_ends:(letters.all fun g=>(permsOf (namesOf g)).all fun o=>(namesOf g).all fun a=>
 decide (Qr (F__ellipsis_match [.str ([a]++Qn),.str o] [])=some (.bool (o[0]?==some a)))&&decide (Qr (F__ellipsis_match [.str (Qn++[a]),.str o] [])=some (.bool (o[2]?==some a))))=true:=by decide +kernel
end
set_option tactic.hygienic true
set_option tactic.hygienic false
noncomputable section
theorem Zk{hp:Hp}{k:Nat}{mo:MO}(h:hp[k]?=some mo)(l:Hp):(hp++l)[k]?=some mo:=by
 rw[List.getElem?_append_left (lge h).1];exact h
theorem Zv(hp:Hp)(mo:MO):(hp++[mo])[hp.length]?=some mo:=by simp
theorem Zom{hp:Hp}{k:Nat}(h:k < hp.length)(l:Hp)(mo:MO):(hp++l).set k mo=hp.set k mo++l:=by
 rw[List.set_append_left _ _ h]
theorem ZbI(hp:Hp)(a b:MO):(hp++[a]).set hp.length b=hp++[b]:=by
 rw[List.set_append_right _ _ (Nat.le_refl _)];simp
theorem Zac{hp:Hp}{k:Nat}{mo:MO}(h:hp[k]?=some mo):k < hp.length:=(lge h).1
theorem ZP{hp:Hp}{k:Nat}{mo:MO}(h:hp[k]?=some mo)(m:MO):(hp.set k m)[k]?=some m:=List.getElem?_set_self (Zac h)
theorem Zo{hp:Hp}{k j:Nat}{mo:MO}(h:hp[k]?=some mo)(hkj:j≠k)(m:MO):(hp.set j m)[k]?=some mo:=by
 rw[List.getElem?_set_ne hkj];exact h
theorem Zlp{hp:Hp}{k:Nat}{m:MO}(h:hp[k]?=some m):hp.set k m=hp:=by
 obtain ⟨hk,rfl⟩:=lge h;exact List.set_getElem_self hk
theorem Zjz{k:Nat}{xs:List MV}{t:TF}{f:EF}{hp:Hp}{p:MV→Bool}{φ:MV→MV}(hk:hp[k]?=some (.list xs))(hlen:xs.length≤1000)
 (h:∀x∈xs,∀ys:List MV,t [some x] (hp++[.list ys])=some (p x,hp++[.list ys])∧(p x=true→f [some x] (hp++[.list ys])=some (φ x,hp++[.list ys]))):
 ∀(n i:Nat) (ys:List MV),i≤xs.length→xs.length - i < n→ys.length≤i→Zgc (.list k) hp.length t f n i (hp++[.list ys])=some (hp++[.list (ys++((xs.drop i).filter p).map φ)]):=by
 intro n;induction n with
 | zero=>
  intro i ys hi hn hy;exact sb0 hn
 | succ n ih=>
  intro i ys hi hn hy;have hk':(hp++[.list ys])[k]?=some (.list xs):=Zk hk _;unfold Zgc;simp only[Src.item,hk'];cases hx:xs[i]? with
  | none=>
   have hle:xs.length≤i:=List.getElem?_eq_none_iff.mp hx;rw[List.drop_eq_nil_of_le hle];simp
  | some x=>
   have hlt:i < xs.length:=(lge hx).1;have hxe:xs[i]=x:=by rw[List.getElem?_eq_getElem hlt] at hx;exact Option.some.inj hx
   have hm:x∈xs:=List.mem_of_getElem? hx;refine Qe (h x hm ys) fun h1 h2=>?_;rw[List.drop_eq_getElem_cons hlt,hxe];simp only[h1];cases hp1:p x with
   | false=>
    simp only[List.filter_cons,hp1,Bool.false_eq_true,if_false];exact ih (i+1) ys hlt (sb1 hn hlt) (Nat.le_succ_of_le hy)
   | true=>
    simp only[h2 hp1,Zas,Zv,List.filter_cons,hp1,if_true,List.map_cons];rw[if_pos (by lia)];simp only[ZbI];rw[ih (i+1) (ys++[φ x]) hlt (sb1 hn hlt) (sb5 hy (Nat.le_refl 1))];simp
theorem ZdV{k N:Nat}{xs:List MV}{it:IF}{t:TF}{f:EF}{ℓ:Loc}{hp:Hp}(p:MV→Bool)(φ:MV→MV)(hit:it ℓ hp=some (.list k,hp))(hk:hp[k]?=some (.list xs))(hN:xs.length < N)(hlen:xs.length≤1000)
 (h:∀x∈xs,∀ys:List MV,t [some x] (hp++[.list ys])=some (p x,hp++[.list ys])∧(p x=true→f [some x] (hp++[.list ys])=some (φ x,hp++[.list ys]))):
 Qb it t f N ℓ hp=some (.ref hp.length,hp++[.list ((xs.filter p).map φ)]):=by
 unfold Qb;rw[hit];dsimp only;rw[Zjz hk hlen h N 0 [] (Nat.zero_le _) (by lia) (Nat.zero_le _)];kernel_rfl
theorem Zdn{k N:Nat}{xs:List MV}{it:IF}{f:EF}{ℓ:Loc}{hp:Hp}(φ:MV→MV)(hit:it ℓ hp=some (.list k,hp))(hk:hp[k]?=some (.list xs))(hN:xs.length < N)(hlen:xs.length≤1000)
 (h:∀x∈xs,∀ys:List MV,f [some x] (hp++[.list ys])=some (φ x,hp++[.list ys])):
 Qb it Qi f N ℓ hp=some (.ref hp.length,hp++[.list (xs.map φ)]):=by
 have:=ZdV (t:=Qi) (fun υ=>true) φ hit hk hN hlen fun x hx ys=>⟨rfl,fun υ=>h x hx ys⟩;rw[this,List.filter_eq_self.mpr fun υ υ=>rfl]
theorem ZnL{k S:Nat}{xs:List MV}{f:EF}{hp:Hp}{φ:MV→MV}{zs0:List MV}(hk:hp[k]?=some (.list xs))(hS:hp[S]?=some (.list zs0))(hkS:S≠k)(hlen:xs.length≤100)
 (h:∀x∈xs,∀us ys:List MV,us.length≤1000→us.all ZO=true→f [some x] (hp.set S (.list us)++[.list ys])=some (φ x,hp.set S (.list (us++[φ x]))++[.list ys])∧ZO (φ x)=true):
 ∀(n i:Nat) (us ys:List MV),i≤xs.length→xs.length - i < n→us.length+xs.length≤900+i→us.all ZO=true→ys.length≤i→Zgc (.list k) hp.length Qi f n i (hp.set S (.list us)++[.list ys])=some (hp.set S (.list (us++(xs.drop i).map φ))++[.list (ys++(xs.drop i).map φ)]):=by
 intro n;induction n with
 | zero=>
  intro i us ys hi hn hu hpl hy;exact sb0 hn
 | succ n ih=>
  intro i us ys hi hn hu hpl hy;have hk':(hp.set S (.list us)++[.list ys])[k]?=some (.list xs):=Zk (Zo hk hkS _) _;unfold Zgc;simp only[Src.item,hk'];cases hx:xs[i]? with
  | none=>
   have hle:xs.length≤i:=List.getElem?_eq_none_iff.mp hx;rw[List.drop_eq_nil_of_le hle];simp
  | some x=>
   have hlt:i < xs.length:=(lge hx).1;have hxe:xs[i]=x:=by rw[List.getElem?_eq_getElem hlt] at hx;exact Option.some.inj hx
   have hm:x∈xs:=List.mem_of_getElem? hx;refine Qe (h x hm us ys (by lia) hpl) fun h1 h2=>?_;have hll:(hp.set S (.list (us++[φ x]))).length=hp.length:=by simp
   rw[List.drop_eq_getElem_cons hlt,hxe];simp only[Qi,h1,Zas];rw[show (hp.set S (.list (us++[φ x]))++[.list ys])[hp.length]?=some (.list ys) by rw[← hll];exact Zv _ _];dsimp only;rw[if_pos (by lia)];dsimp only;rw[show (hp.set S (.list (us++[φ x]))++[MO.list ys]).set hp.length (.list (ys++[φ x]))=hp.set S (.list (us++[φ x]))++[.list (ys++[φ x])] by rw[← hll];exact ZbI _ _ _];rw[ih (i+1) (us++[φ x]) (ys++[φ x]) hlt (sb1 hn hlt) (by simp;lia) (by simp[hpl,h2]) (sb5 hy (Nat.le_refl 1))];simp
theorem Zhw{k S N:Nat}{xs:List MV}{it:IF}{f:EF}{ℓ:Loc}{hp:Hp}{zs:List MV}(φ:MV→MV)(hit:it ℓ hp=some (.list k,hp))(hk:hp[k]?=some (.list xs))(hS:hp[S]?=some (.list zs))(hkS:S≠k)(hN:xs.length < N)(hlen:xs.length≤100)(hz:zs.length≤800)(hzp:zs.all ZO=true)
 (h:∀x∈xs,∀us ys:List MV,us.length≤1000→us.all ZO=true→f [some x] (hp.set S (.list us)++[.list ys])=some (φ x,hp.set S (.list (us++[φ x]))++[.list ys])∧ZO (φ x)=true):
 Qb it Qi f N ℓ hp=some (.ref hp.length,hp.set S (.list (zs++xs.map φ))++[.list (xs.map φ)]):=by
 unfold Qb;rw[hit];dsimp only;have e:hp++[MO.list []]=hp.set S (.list zs)++[.list []]:=by rw[Zlp hS]
 rw[e,ZnL hk hS hkS hlen h N 0 zs [] (Nat.zero_le _) (by lia) (by lia) hzp (Nat.zero_le _)];kernel_rfl
theorem ZaO{F:FF}{args:List MV}{v:MV}(h:Qr (Zgt F args [])=some v)(hp:Hp):Zgt F args hp=some (v,hp):=by
 unfold Zgt at h ⊢;by_cases ha:args.all ZO=true
 · rw[if_pos ha] at h ⊢;cases e:F args [] with
   | none=>rw[e] at h;cases h
   | some r=>
    obtain ⟨mv,hx⟩:=r;rw[e] at h;dsimp only at h ⊢;by_cases hv:ZO mv=true
    · rw[if_pos hv] at h ⊢;refine oi1 h fun yq=>?_;subst yq;rfl
    · rw[if_neg hv] at h;cases h
 · rw[if_neg ha] at h;cases h
theorem pl_b(b:Bool):ZO (.bool b)=true:=rfl
theorem pl_s(x:List Nat):ZO (.str x)=true:=rfl
theorem pl_i(i:Int):ZO (.int i)=true:=rfl
theorem isC_b(a b:Bool):isC (.bool a) (.bool b)=some (a==b):=rfl
theorem ZcG{want o:List Nat}{S:Nat}{zs:List MV}{hp:Hp}{b:Bool}(hem:Qr (F__ellipsis_match [.str want,.str o] [])=some (.bool b))(hS:hp[S]?=some (.list zs))(hz:zs.all ZO=true)(hl:zs.length≤1000):
 Zab [.str want,.str o,.ref S] hp=some (.bool b,hp.set S (.list (zs++[.bool b]))):=by
 have hm:∀hp',F__ellipsis_match [.str want,.str o] hp'=some (.bool b,hp'):=ZaO hem;have hlen:zs.length≤100000:=by lia
 have hz':∀x∈zs,ZO x=true:=lae hz;unfold Zab isoL1;simp[hS,Qw,Zcs,s151,s152,s153,Zn,ZU,Zr,Zd,Zp,Zf,hm,Zgu,ZV,tyOf.eq_def,Zgk.eq_def,Zas,hlen,Qk,ZbG,ZS,ZdE.eq_def,Zb,pl_b,pl_s,isC_b];exact hz'
end
set_option tactic.hygienic true
set_option tactic.hygienic false
section
noncomputable def sel:List Bool→List Int→List Int
 | true::bs,w::ws=>w::sel bs ws
 | false::bs,_::ws=>sel bs ws
 | _,_=>[]
noncomputable def hv(bs:List Bool)(ws:List Int):Int:=(sel bs ws).sum
theorem ZeL:∀(bs:List Bool) (ws:List Int),∀x∈sel bs ws,x∈ws
 | true::bs,w::ws,x,h=>by
  rcases lmc h with rfl | h
  · exact .head _
  · exact .tail _ (ZeL bs ws x h)
 | false::bs,w::ws,x,h=>.tail _ (ZeL bs ws x h)
 | [],ws,x,h=>by simp[sel] at h
 | b::bs,[],x,h=>by cases b<;>simp[sel] at h
theorem ZhG:∀(bs:List Bool) (ws:List Int),(sel bs ws).length≤ws.length
 | true::bs,w::ws=>by simp[sel];exact ZhG bs ws
 | false::bs,w::ws=>by simp[sel];exact Nat.le_succ_of_le (ZhG bs ws)
 | [],ws=>by simp[sel]
 | b::bs,[]=>by cases b<;>simp[sel]
theorem ZcD:∀(is:List Int),Zco (is.map MV.int)=some is:=by
 intro r;induction r with
 | nil=>
  exact rfl
 | cons i r ih=>
  simp[Zco,ih]
theorem ZnE{bl:List Bool}{wl:List Int}(hl:bl.length=wl.length)(hlen:wl.length≤90):∀(n i:Nat) (ys:List MV),i≤wl.length→wl.length - i < n→ys.length≤i→
 ZdU 0 1 2 (Zek (Zf 0)) (Zf 1) n i [.list (bl.map .bool),.list (wl.map .int),.list ys]=some [.list (bl.map .bool),.list (wl.map .int),.list (ys++(sel (bl.drop i) (wl.drop i)).map .int)]:=by
 intro n;induction n with
 | zero=>
  intro i ys hi hn hy;exact sb0 hn
 | succ n ih=>
  intro i ys hi hn hy;unfold ZdU ZhD;simp only[List.getElem?_cons_zero,List.getElem?_cons_succ,List.getElem?_map];by_cases hlt:i < wl.length
  · have hb:i < bl.length:=by lia
    rw[List.getElem?_eq_getElem hlt,List.getElem?_eq_getElem hb];simp only[Option.map_some,Zek,Zf,List.getElem?_cons_zero,truth.eq_def];rw[List.drop_eq_getElem_cons hlt,List.drop_eq_getElem_cons hb];cases hbi:bl[i] with
    | false=>
     simp only[sel];exact ih (i+1) ys hlt (sb1 hn hlt) (Nat.le_succ_of_le hy)
    | true=>
     simp only[sel,List.getElem?_cons_succ,List.getElem?_cons_zero,Zas];rw[if_pos (by lia)];simp only[List.set_cons_succ,List.set_cons_zero];rw[ih (i+1) (ys++[MV.int (wl[i]'hlt)]) hlt (sb1 hn hlt) (sb5 hy (Nat.le_refl 1))];simp
  · have hb:¬i < bl.length:=by lia
    rw[List.getElem?_eq_none (by lia:bl.length≤i),List.drop_eq_nil_of_le (by lia:bl.length≤i),List.drop_eq_nil_of_le (by lia:wl.length≤i)];simp[sel]
theorem ZcH(bl:List Bool):(bl.map MV.bool).all ZO=true:=by simp[pl_b]
theorem ZpA(bl:List Int):(bl.map MV.int).all ZO=true:=by simp[pl_i]
theorem ZdC{i j:Nat}{bl:List Bool}{wl:List Int}{hp:Hp}(hi:hp[i]?=some (.list (bl.map .bool)))(hj:hp[j]?=some (.list (wl.map .int)))(hij:i≠j)(hl:bl.length=wl.length)(hlen:wl.length≤90)(hw:∀x∈wl,0≤x∧x≤1000):
 Zaq [.ref i,.ref j] hp=some (.int (hv bl wl),hp):=by
 have hz:=ZnE hl hlen 100 0 [] (Nat.zero_le _) (by lia) (Nat.zero_le _);have hb:(sel bl wl).all (fun i=>decide (-1000000000≤i∧i≤1000000000))=true:=by
  rw[List.all_eq_true];intro x hx;have:=hw x (ZeL bl wl x hx);simp;lia
 have hsl:=ZhG bl wl;unfold Zaq isoL2;simp only[hi,hj,ZcH,ZpA];rw[if_pos ⟨hij,trivial,trivial⟩];simp only[Qw,Zcr,s155,Zn,Qk,Zr,Zd,Zp,zipE,Zf,List.length_cons,List.length_nil,List.map_cons,List.map_nil,List.replicate_zero,List.append_nil,List.getElem?_cons_zero,List.getElem?_cons_succ,List.cons_append,List.nil_append];simp only[List.drop_zero,List.nil_append] at hz;have h3:(sel bl wl).length≤1000:=by lia
 have hb':(∀x:Int,x∈sel bl wl→-1000000000≤x∧x≤1000000000)=True:=eq_true fun x hx=>by
  have:=hw x (ZeL bl wl x hx);lia
 simp[hz,sumF.eq_def,ZcD,hb',h3,pl_i,hv]
end
set_option tactic.hygienic true
set_option tactic.hygienic false
section
theorem Zif{α β γ:Type}{f:α→Option β}{u:γ→α}{v:γ→β}(h:∀x,f (u x)=some (v x)):∀l:List γ,ZmY f (l.map u)=some (l.map v):=by
 intro r;induction r with
 | nil=>
  exact rfl
 | cons x r ih=>
  simp[ZmY,h,ih]
theorem ZiN{hp:Hp}{i n:Nat}{bl:List Bool}(h:hp[i]?=some (.list (bl.map .bool))):toD (n+2) hp (.ref i)=some (.list (bl.map PyData.bool)):=by
 unfold toD;rw[h];simp only;rw[Zif (f:=toD (n+1) hp) (u:=MV.bool) (v:=PyData.bool) (fun x=>by unfold toD;rfl)]
theorem Zlk{hp:Hp}{i n:Nat}{l:List (List Nat)}(h:hp[i]?=some (.list (l.map .str))):toD (n+2) hp (.ref i)=some (.list (l.map fun s=>PyData.str (mkS s))):=by
 unfold toD;rw[h];simp only;rw[Zif (f:=toD (n+1) hp) (u:=MV.str) (v:=fun s=>PyData.str (mkS s)) (fun x=>by unfold toD;rfl)]
theorem ZfJ:∀bl:List Bool,PyData.canLayAll0 (bl.map PyData.bool)=true:=by
 intro r;induction r with
 | nil=>
  exact rfl
 | cons b r ih=>
  simp[PyData.canLayAll0,PyData.canLay0,ih]
theorem Zex:∀{l:List (List Nat)},(∀s∈l,PyData.strOk (mkS s)=true)→PyData.canLayAll0 (l.map fun s=>PyData.str (mkS s))=true
 | [],_=>rfl
 | s::r,h=>by
  simp only[List.map_cons,PyData.canLayAll0,PyData.canLay0,Bool.and_eq_true];exact ⟨h s (.head _),Zex fun x hx=>h x (.tail _ hx)⟩
theorem ZkT:∀bl:List Bool,PyData.depthAll (bl.map PyData.bool)=0:=by
 intro r;induction r with
 | nil=>
  exact rfl
 | cons b r ih=>
  simp[PyData.depthAll,PyData.depth,ih]
theorem ZnJ:∀l:List (List Nat),PyData.depthAll (l.map fun s=>PyData.str (mkS s))=0:=by
 intro r;induction r with
 | nil=>
  exact rfl
 | cons b r ih=>
  simp[PyData.depthAll,PyData.depth,ih]
theorem ZeA{hp:Hp}{i j:Nat}{d e:PyData}(h1:toD 3 hp (.ref i)=some d)(h2:toD 3 hp (.ref j)=some e)(hd:d.canLay0=true)(he:e.canLay0=true)(hdd:d.depth≤5):eqC hp (.ref i) (.ref j)=some (PyData.eqv d e):=by
 unfold eqC;simp only[h1,h2];rw[if_pos ⟨hd,he,hdd⟩]
theorem Zcu{hp:Hp}{i j:Nat}{bl:List Bool}(h1:hp[i]?=some (.list (bl.map .bool)))(h2:hp[j]?=some (.list (bl.map .bool))):eqC hp (.ref i) (.ref j)=some true:=by
 rw[ZeA (ZiN h1) (ZiN h2) (by simp[PyData.canLay0,ZfJ]) (by simp[PyData.canLay0,ZfJ]) (by simp[PyData.depth,ZkT])];rw[PySem.SeqAt.eqv_refl _ (by simp[PyData.canLay0,ZfJ])]
theorem Znk{hp:Hp}{i j:Nat}{l:List (List Nat)}(hl:∀s∈l,PyData.strOk (mkS s)=true)(h1:hp[i]?=some (.list (l.map .str)))(h2:hp[j]?=some (.list (l.map .str))):eqC hp (.ref i) (.ref j)=some true:=by
 rw[ZeA (Zlk h1) (Zlk h2) (by simp[PyData.canLay0,Zex hl]) (by simp[PyData.canLay0,Zex hl]) (by simp[PyData.depth,ZnJ])];rw[PySem.SeqAt.eqv_refl _ (by simp[PyData.canLay0,Zex hl])]
end
set_option tactic.hygienic true
set_option tactic.hygienic false
noncomputable section
variable {nm:List Nat} {os:List (List Nat)} {ws:List Int} {ℓ:Loc} {hp:Hp} {N:Nat}
noncomputable section
def ZX(S:List Nat)(hp hp':Hp):Prop:=hp.length≤hp'.length∧∀k mo,k∉S→hp[k]?=some mo→hp'[k]?=some mo
theorem ZX.refl(S:List Nat)(hp:Hp):ZX S hp hp:=⟨Nat.le_refl _,fun υ υ υ h=>h⟩
theorem ZX.trans{S:List Nat}{a b c:Hp}(h1:ZX S a b)(h2:ZX S b c):ZX S a c:=⟨Nat.le_trans h1.1 h2.1,fun k mo hk h=>h2.2 k mo hk (h1.2 k mo hk h)⟩
theorem ZX.mono{S T:List Nat}{a b:Hp}(h1:ZX S a b)(h:∀k∈S,k∈T):ZX T a b:=⟨h1.1,fun k mo hk e=>h1.2 k mo (fun hs=>hk (h k hs)) e⟩
theorem ZX.app(S:List Nat)(hp l:Hp):ZX S hp (hp++l):=⟨by simp,fun k mo υ h=>Zk h l⟩
theorem ZX.set{S:List Nat}{k:Nat}(hk:k∈S)(hp:Hp)(m:MO):ZX S hp (hp.set k m):=⟨by simp,fun j mo hj h=>Zo h (fun e=>hj (e▸hk)) m⟩
theorem ZX.g0{a b:Hp}(h:ZX [] a b){k:Nat}{mo:MO}(e:a[k]?=some mo):b[k]?=some mo:=h.2 k mo List.not_mem_nil e
theorem ZX.get{S:List Nat}{a b:Hp}(h:ZX S a b){k:Nat}{mo:MO}(e:a[k]?=some mo)(hk:k∉S):b[k]?=some mo:=h.2 k mo hk e
theorem Zpa{k:Nat}{tg:TgF}{f:SF}{xs:List MV}{I:Nat→Loc→Hp→Prop}(hI:∀i ℓ hp,I i ℓ hp→hp[k]?=some (.list xs))
 (step:∀i v ℓ hp,xs[i]?=some v→I i ℓ hp→∃ℓ1 hp1 ℓ2 hp2,tg v ℓ hp=some (ℓ1,hp1)∧f ℓ1 hp1=some (.norm,ℓ2,hp2)∧I (i+1) ℓ2 hp2):
 ∀n i ℓ hp,I i ℓ hp→i≤xs.length→xs.length - i < n→∃ℓ' hp',Zee (.list k) tg f n i ℓ hp=some (.norm,ℓ',hp')∧I xs.length ℓ' hp':=by
 intro n;induction n with
 | zero=>
  intro i ℓ hp h hi hn;exact sb0 hn
 | succ n ih=>
  intro i ℓ hp h hi hn;unfold Zee;simp only[Src.item,hI i ℓ hp h];cases hx:xs[i]? with
  | none=>
   have:i=xs.length:=by have:=List.getElem?_eq_none_iff.mp hx;lia
   subst this;exact ZeN ℓ hp rfl h
  | some v=>
   refine x4_3 (step i v ℓ hp hx h) fun ℓ1 hp1 ℓ2 hp2 e1 e2 h2=>?_;simp only[e1,e2];have hlt:=(lge hx).1;exact ih (i+1) ℓ2 hp2 h2 hlt (sb1 hn hlt)
theorem Zaw{k N:Nat}{it:IF}{tg:TgF}{f:SF}{xs:List MV}{I:Nat→Loc→Hp→Prop}{hp hp0:Hp}(hit:it ℓ hp0=some (.list k,hp))(hI:∀i ℓ hp,I i ℓ hp→hp[k]?=some (.list xs))
 (step:∀i v ℓ hp,xs[i]?=some v→I i ℓ hp→∃ℓ1 hp1 ℓ2 hp2,tg v ℓ hp=some (ℓ1,hp1)∧f ℓ1 hp1=some (.norm,ℓ2,hp2)∧I (i+1) ℓ2 hp2) (h0:I 0 ℓ hp) (hN:xs.length < N):
 ∃ℓ' hp',Zbr it tg f N ℓ hp0=some (.norm,ℓ',hp')∧I xs.length ℓ' hp':=by
 unfold Zbr;rw[hit];exact Zpa hI step N 0 ℓ hp h0 (Nat.zero_le _) (by lia)
theorem ZfR{a:Int}{m:Nat}{tg:TgF}{f:SF}{I:Nat→Loc→Hp→Prop}
 (step:∀i ℓ hp,i < m→I i ℓ hp→∃ℓ1 hp1 ℓ2 hp2,tg (.int (a+i)) ℓ hp=some (ℓ1,hp1)∧f ℓ1 hp1=some (.norm,ℓ2,hp2)∧I (i+1) ℓ2 hp2):
 ∀n i ℓ hp,I i ℓ hp→i≤m→m - i < n→∃ℓ' hp',Zee (.range a m) tg f n i ℓ hp=some (.norm,ℓ',hp')∧I m ℓ' hp':=by
 intro n;induction n with
 | zero=>
  intro i ℓ hp h hi hn;exact sb0 hn
 | succ n ih=>
  intro i ℓ hp h hi hn;unfold Zee;simp only[Src.item];by_cases hlt:i < m
  · refine x4_3 (step i ℓ hp hlt h) fun ℓ1 hp1 ℓ2 hp2 e1 e2 h2=>?_;simp only[if_pos hlt,e1,e2];exact ih (i+1) ℓ2 hp2 h2 hlt (sb1 hn hlt)
  · have:i=m:=sbz hi hlt;subst this;simp only[if_neg hlt];exact ZeN ℓ hp rfl h
theorem ZoZ{s:List Nat}{tg:TgF}{f:SF}{I:Nat→Loc→Hp→Prop}
 (step:∀i c ℓ hp,s[i]?=some c→I i ℓ hp→∃ℓ1 hp1 ℓ2 hp2,tg (.str [c]) ℓ hp=some (ℓ1,hp1)∧f ℓ1 hp1=some (.norm,ℓ2,hp2)∧I (i+1) ℓ2 hp2):
 ∀n i ℓ hp,I i ℓ hp→i≤s.length→s.length - i < n→∃ℓ' hp',Zee (.str s) tg f n i ℓ hp=some (.norm,ℓ',hp')∧I s.length ℓ' hp':=by
 intro n;induction n with
 | zero=>
  intro i ℓ hp h hi hn;exact sb0 hn
 | succ n ih=>
  intro i ℓ hp h hi hn;unfold Zee;simp only[Src.item];cases hx:s[i]? with
  | none=>
   have:i=s.length:=by have:=List.getElem?_eq_none_iff.mp hx;lia
   subst this;exact ZeN ℓ hp rfl h
  | some v=>
   refine x4_3 (step i v ℓ hp hx h) fun ℓ1 hp1 ℓ2 hp2 e1 e2 h2=>?_;simp only[e1,e2];have hlt:=(lge hx).1;exact ih (i+1) ℓ2 hp2 h2 hlt (sb1 hn hlt)
theorem Zar{op:CmpOp}{f1 f2:EF}{hp hp1 hp2:Hp}{a b:MV}{r:Bool}(h1:f1 ℓ hp=some (a,hp1))(h2:f2 ℓ hp1=some (b,hp2))(h3:ZdE op a b hp2=some r):ZS op f1 f2 ℓ hp=some (r,hp2):=by
 unfold ZS;simp only[h1,h2,h3]
theorem Zdk{t:TF}{f1:SF}{hp hp1:Hp}(h:t ℓ hp=some (false,hp1)):ifS t f1 ZA ℓ hp=some (.norm,ℓ,hp1):=by
 unfold ifS;simp only[h,ZA]
theorem Zgy{t:TF}{f1 f2:SF}{hp hp1:Hp}(h:t ℓ hp=some (true,hp1)):ifS t f1 f2 ℓ hp=f1 ℓ hp1:=by
 unfold ifS;simp only[h]
theorem Zgz{t:TF}{f1 f2:SF}{hp hp1:Hp}(h:t ℓ hp=some (false,hp1)):ifS t f1 f2 ℓ hp=f2 ℓ hp1:=by
 unfold ifS;simp only[h]
theorem Zl{f1 f2:SF}{ℓ ℓ1:Loc}{hp hp1:Hp}(h:f1 ℓ hp=some (.norm,ℓ1,hp1)):Zn f1 f2 ℓ hp=f2 ℓ1 hp1:=by
 unfold Zn;simp only[h]
theorem Zii:(Str.ofString "...").cps.toList=[46,46,46]:=by decide +kernel
def ZcL(a b:Nat):List Nat:=Qn++[a]++Qn++[b]++Qn
def ahd(os:List (List Nat))(a b:Nat):List Bool:=os.map (ZY · a b)
structure PairHp(os:List (List Nat))(ws:List Int)(hp:Hp):Prop where
 c5:hp[5]?=some (.cell (some (.ref 20)))
 c7:hp[7]?=some (.cell (some (.ref 16)))
 lO:hp[13]?=some (.list (os.map .str))
 lB:hp[16]?=some (.list (os.map .str))
 lW:hp[18]?=some (.list (ws.map .int))
theorem PairHp.keep{S:List Nat}{hp hp':Hp}(P:PairHp os ws hp)(K:ZX S hp hp')(hS:5∉S∧7∉S∧13∉S∧16∉S∧18∉S):PairHp os ws hp':=
 ⟨K.get P.c5 hS.1,K.get P.c7 hS.2.1,K.get P.lO hS.2.2.1,K.get P.lB hS.2.2.2.1,K.get P.lW hS.2.2.2.2⟩
structure PairLoc(ℓ:Loc):Prop where
 len:ℓ.length=32
 l5:ℓ[5]?=some (some (.ref 13))
 l7:ℓ[7]?=some (some (.ref 18))
 l8:ℓ[8]?=some (some (.ref 19))
 l9:ℓ[9]?=some (some (.ref 21))
 l10:ℓ[10]?=some (some (.ref 22))
 l11:ℓ[11]?=some (some (.ref 23))
theorem PairLoc.set(L:PairLoc ℓ){k:Nat}(hk:k∉[5,7,8,9,10,11])(v:Option MV):PairLoc (ℓ.set k v):=by
 simp only[List.mem_cons,not_or,List.not_mem_nil,not_false_eq_true,and_true] at hk;refine x0_6 hk fun h5 h7 h8 h9 h10 h11=>?_;exact ⟨by simp[L.len],by rw[List.getElem?_set_ne h5];exact L.l5,by rw[List.getElem?_set_ne h7];exact L.l7,by rw[List.getElem?_set_ne h8];exact L.l8,by rw[List.getElem?_set_ne h9];exact L.l9,by rw[List.getElem?_set_ne h10];exact L.l10,by rw[List.getElem?_set_ne h11];exact L.l11⟩
theorem ZdF{want:EF}{wt:List Nat}{kB kS:EF}{bs:List Bool}{φ:List Nat→Bool}(hB:∀ℓ,kB ℓ hp=some (.ref 16,hp))(lB:hp[16]?=some (.list (os.map .str)))(hS:hp[20]?=some (.list (bs.map .bool)))
 (hw:∀(ℓ:Loc) us ys,want ℓ (hp.set 20 (MO.list us)++[MO.list ys])=some (.str wt,hp.set 20 (MO.list us)++[MO.list ys]))
 (hs:∀(ℓ:Loc) us ys,kS ℓ (hp.set 20 (MO.list us)++[MO.list ys])=some (.ref 20,hp.set 20 (MO.list us)++[MO.list ys]))
 (hbs:bs.length≤800) (hos:os.length≤90) (hem:∀o∈os,Qr (F__ellipsis_match [.str wt,.str o] [])=some (.bool (φ o))):
 Qb (itE kB) Qi (Zr Zab (Zd want (Zd (Zf 0) (Zd kS Zp)))) 100 ℓ hp=some (.ref hp.length,hp.set 20 (MO.list ((bs++os.map φ).map MV.bool))++[MO.list ((os.map φ).map MV.bool)]):=by
 have hc:=Zhw (k:=16) (S:=20) (N:=100) (xs:=os.map .str) (it:=itE kB) (f:=Zr Zab (Zd want (Zd (Zf 0) (Zd kS Zp)))) (ℓ:=ℓ) (hp:=hp) (zs:=bs.map .bool) (fun x=>match x with | .str o=>MV.bool (φ o) | x=>x)
  (by simp[itE,hB,lB]) lB hS (by decide) (by simp;lia) (by simp;lia) (by simp;lia) (ZcH bs) (fun x hx us ys hu hpl=>by
   refine ZJ (List.mem_map.mp hx) fun o ho yq=>?_;subst yq;refine ⟨?_,rfl⟩;have g20:(hp.set 20 (MO.list us)++[MO.list ys])[20]?=some (.list us):=Zk (ZP hS _) _;simp only[Zr,Zd,Zp,Zf,hw,hs,List.getElem?_cons_zero];rw[ZcG (hem o ho) g20 hpl hu];rw[Zom (by simp;exact Zac hS)];simp)
 have e1:bs.map MV.bool++(os.map MV.str).map (fun x=>match x with | .str o=>MV.bool (φ o) | x=>x)=(bs++os.map φ).map MV.bool:=by simp
 have e2:(os.map MV.str).map (fun x=>match x with | .str o=>MV.bool (φ o) | x=>x)=(os.map φ).map MV.bool:=by simp
 rw[e1,e2] at hc;exact hc
theorem st206{a b:Nat}{v:Option MV}(c2:hp[2]?=some (.cell v))(c3:hp[3]?=some (.cell (some (.str [b]))))(c4:hp[4]?=some (.cell (some (.str [a])))):
 s206 lamF 2 ℓ hp=some (.norm,ℓ,hp.set 2 (.cell (some (.str (ZcL a b))))):=by
 simp[s206,asgC,ZB,ZL,c3,c4,Zb,Zix.eq_def,Zlr,c2,Zii,ZcL,Qn]
theorem st207{a b:Nat}{bs:List Bool}{es:List (List Nat×MV)}(P:PairHp os ws hp)(L:PairLoc ℓ)(c2:hp[2]?=some (.cell (some (.str (ZcL a b)))))(c3:hp[3]?=some (.cell (some (.str [b]))))(c4:hp[4]?=some (.cell (some (.str [a]))))
 (hS:hp[20]?=some (.list (bs.map .bool))) (hA:hp[21]?=some (.dict es)) (hbs:bs.length≤800) (hes:es.length≤1000) (hos:os.length≤90)
 (hem:∀o∈os,Qr (F__ellipsis_match [.str (ZcL a b),.str o] [])=some (.bool (ZY o a b))):
 s207 lamF 2 ℓ hp=some (.norm,ℓ,(hp.set 20 (MO.list ((bs++ahd os a b).map MV.bool))++[MO.list ((ahd os a b).map MV.bool)]).set 21 (MO.dict (([a,b],MV.ref hp.length)::es))):=by
 have hc:=ZdF (ℓ:=ℓ) (want:=ZL 2) (kB:=ZL 7) (kS:=ZL 5) (wt:=ZcL a b) (φ:=(ZY · a b)) (fun ℓ=>by simp[ZL,P.c7]) P.lB hS
  (fun ℓ us ys=>by have:=Zk (Zo c2 (by decide:20≠2) (MO.list us)) [MO.list ys];simp[ZL,this])
  (fun ℓ us ys=>by have:=Zk (Zo P.c5 (by decide:20≠5) (MO.list us)) [MO.list ys];simp[ZL,this]) hbs hos hem
 change _=some (MV.ref hp.length,hp.set 20 (MO.list ((bs++ahd os a b).map MV.bool))++[MO.list ((ahd os a b).map MV.bool)]) at hc;revert hc;refine genh (hp.set 20 (MO.list ((bs++ahd os a b).map MV.bool))++[MO.list ((ahd os a b).map MV.bool)]) fun hp1 hh hc=>?_;have g:∀k mo,k≠20→hp[k]?=some mo→hp1[k]?=some mo:=fun k mo hk e=>by rw[← hh];exact Zk (Zo e (Ne.symm hk) _) _
 have g3:=g 3 _ (by decide) c3;have g4:=g 4 _ (by decide) c4;have g21:=g 21 _ (by decide) hA;unfold s207 asgI;rw[hc];simp[Zf,L.l9,ZB,ZL,g3,g4,Zix.eq_def,setI.eq_def,g21,hes]
theorem st208{a b r:Nat}{es:List (List Nat×MV)}(P:PairHp os ws hp)(L:PairLoc ℓ)(c3:hp[3]?=some (.cell (some (.str [b]))))(c4:hp[4]?=some (.cell (some (.str [a]))))
 (hA:hp[21]?=some (.dict es)) (hes:es.lookup [a,b]=some (.ref r)) (hr:hp[r]?=some (.list ((ahd os a b).map .bool))) (hos:os.length≤90):
 s208 lamF 2 ℓ hp=some (.norm,ℓ,hp++[.list ((ahd os a b).map .bool)]):=by
 have hc:=Zdn (k:=13) (N:=100) (xs:=os.map .str) (it:=itE (Zf 5)) (f:=ZbG (ZS .Lt (ZV "str" ZdD (Zf 0) (Zd (ZL 4) Zp)) (ZV "str" ZdD (Zf 0) (Zd (ZL 3) Zp)))) (ℓ:=ℓ) (hp:=hp) (fun x=>match x with | .str o=>MV.bool (ZY o a b) | x=>x)
  (by simp[itE,Zf,L.l5,P.lO]) P.lO (by simp;lia) (by simp;lia) (fun x hx ys=>by
   refine ZJ (List.mem_map.mp hx) fun o ho yq=>?_;subst yq;have g3:=Zk c3 [MO.list ys];have g4:=Zk c4 [MO.list ys];simp[ZbG,ZS,ZV,Zf,ZL,Zd,Zp,g3,g4,tyOf.eq_def,ZdD.eq_def,ZdE.eq_def,ZY,posIn];rfl)
 have e2:(os.map MV.str).map (fun x=>match x with | .str o=>MV.bool (ZY o a b) | x=>x)=(ahd os a b).map MV.bool:=by simp[ahd]
 rw[e2] at hc;have hq:eqC (hp++[MO.list ((ahd os a b).map MV.bool)]) (.ref r) (.ref hp.length)=some true:=Zcu (Zk hr _) (Zv _ _);have h1:ZZ (Zf 9) (ZB .Add (ZL 4) (ZL 3)) ℓ hp=some (.ref r,hp):=by simp[ZZ,Zf,L.l9,ZB,ZL,c3,c4,Zix.eq_def,ZnG.eq_def,hA,hes]
 exact Zdk (Zar h1 hc (by simp[ZdE.eq_def,hq,ZkG]))
theorem st210{a b r:Nat}{es:List (List Nat×MV)}(P:PairHp os ws hp)(L:PairLoc ℓ)(c3:hp[3]?=some (.cell (some (.str [b]))))(c4:hp[4]?=some (.cell (some (.str [a]))))
 (hA:hp[21]?=some (.dict es)) (hes:es.lookup [a,b]=some (.ref r)) (hr:hp[r]?=some (.list ((ahd os a b).map .bool))) (hr18:24≤r) (hl:os.length=ws.length) (hlen:ws.length≤90) (hw:∀x∈ws,0≤x∧x≤1000):
 s210 lamF 2 ℓ hp=some (.norm,ℓ.set 12 (some (.ref hp.length)),hp++[.list [.int (hv (ahd os a b) ws),.str [a,b]]]):=by
 have hh:Zaq [.ref r,.ref 18] hp=some (.int (hv (ahd os a b) ws),hp):=ZdC hr P.lW (by lia) (by simp[ahd,hl]) hlen hw;simp[s210,ZU,ZH,Zd,Zp,Zr,ZZ,ZB,Zf,ZL,L.l9,L.l7,c3,c4,Zix.eq_def,ZnG.eq_def,hA,hes,hh]
structure PInv(N:Nat)(nm:List Nat)(os:List (List Nat))(ws:List Int)(done:List (Nat×Nat))(ℓ:Loc)(hp:Hp):Prop where
 t0:hp[0]?=some (.tab 196 [])
 t1:hp[1]?=some (.tab 208 [])
 P:PairHp os ws hp
 L:PairLoc ℓ
 nm:hp[19]?=some (.list (nm.map fun a=>.str [a]))
 c2:∃v,hp[2]?=some (.cell v)
 c3:∃v,hp[3]?=some (.cell v)
 c4:∃v,hp[4]?=some (.cell v)
 c6:∃v,hp[6]?=some (.cell v)
 said:∃bs:List Bool,hp[20]?=some (.list (bs.map .bool))∧bs.length≤N
 dict:∃es:List (List Nat×MV),hp[21]?=some (.dict es)∧es.length=done.length∧∀ab∈done,∃r,es.lookup [ab.1,ab.2]=some (.ref r)∧24≤r∧hp[r]?=some (.list ((ahd os ab.1 ab.2).map .bool))
 came:∃rs:List Nat,hp[22]?=some (.list (rs.map .ref))∧hp[23]?=some (.list (rs.reverse.map .ref))∧rs.length=done.length∧∀(i r:Nat) (ab:Nat×Nat),rs[i]?=some r→done[i]?=some ab→24≤r∧hp[r]?=some (.list [.int (hv (ahd os ab.1 ab.2) ws),.str [ab.1,ab.2]])
def Zla:SF:=(Zn (s206 lamF 2) (Zn (s207 lamF 2) (Zn (s208 lamF 2) (Zn (s210 lamF 2) (Zn (s211 lamF 2) (Zn (s212 lamF 2) ZA))))))
theorem turn205{done:List (Nat×Nat)}{a b N:Nat}(D:PInv N nm os ws done ℓ hp)(c3:hp[3]?=some (.cell (some (.str [b]))))(c4:hp[4]?=some (.cell (some (.str [a]))))
 (hN:N≤700) (hn:(a,b)∉done) (hd:done.length≤20) (hl:os.length=ws.length) (hlen:ws.length=5) (hw:∀x∈ws,0≤x∧x≤1000) (hem:∀o∈os,Qr (F__ellipsis_match [.str (ZcL a b),.str o] [])=some (.bool (ZY o a b))):
 ∃ℓ' hp',Zla ℓ hp=some (.norm,ℓ',hp')∧PInv (N+5) nm os ws (done++[(a,b)]) ℓ' hp'∧hp'[4]?=some (.cell (some (.str [a]))):=by
 refine ZW D.c2 fun v c2=>?_;refine ZJ D.said fun bs hS hbs=>?_;refine ZgO D.dict fun es hA hes hdict=>?_;refine Zgv D.came fun rs hC hBk hrs hcame=>?_;have e1:=st206 (ℓ:=ℓ) c2 c3 c4;have K1:ZX [2] hp (hp.set 2 (.cell (some (.str (ZcL a b))))):=ZX.set (by simp) _ _;have c2':=ZP c2 (.cell (some (.str (ZcL a b))));revert e1 K1 c2';refine gen (hp.set 2 (.cell (some (.str (ZcL a b))))) fun hp1 e1 K1 c2'=>?_;have P1:=D.P.keep K1 (by decide);have e2:=st207 (ℓ:=ℓ) (bs:=bs) (es:=es) P1 D.L c2' (K1.get c3 (by decide)) (K1.get c4 (by decide)) (K1.get hS (by decide)) (K1.get hA (by decide)) (by lia) (by lia) (by lia) hem;have hS1:=K1.get hS (by decide);have hA1:=K1.get hA (by decide);have hlt1:24≤hp1.length:=Zac (K1.get hBk (by decide));have K2:ZX [20,21] hp1 ((hp1.set 20 (MO.list ((bs++ahd os a b).map MV.bool))++[MO.list ((ahd os a b).map MV.bool)]).set 21 (MO.dict (([a,b],MV.ref hp1.length)::es))):=
  ((ZX.set (by simp) _ _).trans (ZX.app _ _ _)).trans (ZX.set (by simp) _ _)
 have hS2:((hp1.set 20 (MO.list ((bs++ahd os a b).map MV.bool))++[MO.list ((ahd os a b).map MV.bool)]).set 21 (MO.dict (([a,b],MV.ref hp1.length)::es)))[20]?=some (.list ((bs++ahd os a b).map MV.bool)):=Zo (Zk (ZP hS1 _) _) (by decide) _;have hA2:((hp1.set 20 (MO.list ((bs++ahd os a b).map MV.bool))++[MO.list ((ahd os a b).map MV.bool)]).set 21 (MO.dict (([a,b],MV.ref hp1.length)::es)))[21]?=some (.dict (([a,b],MV.ref hp1.length)::es)):=ZP (Zk (Zo hA1 (by decide) _) _) _;have hr2:((hp1.set 20 (MO.list ((bs++ahd os a b).map MV.bool))++[MO.list ((ahd os a b).map MV.bool)]).set 21 (MO.dict (([a,b],MV.ref hp1.length)::es)))[hp1.length]?=some (.list ((ahd os a b).map MV.bool)):=
  Zo (by have:=Zv (hp1.set 20 (MO.list ((bs++ahd os a b).map MV.bool))) (MO.list ((ahd os a b).map MV.bool));simpa using this) (by lia) _
 revert e2 K2 hS2 hA2 hr2;refine gen (((hp1.set 20 (MO.list ((bs++ahd os a b).map MV.bool))++[MO.list ((ahd os a b).map MV.bool)]).set 21 (MO.dict (([a,b],MV.ref hp1.length)::es)))) fun hp2 e2 K2 hS2 hA2 hr2=>?_;have K12:ZX [2,20,21] hp hp2:=(K1.mono (by simp)).trans (K2.mono (by simp));have P2:=D.P.keep K12 (by decide);have lk:(([a,b],MV.ref hp1.length)::es).lookup [a,b]=some (MV.ref hp1.length):=by simp[List.lookup]
 have e3:=st208 (ℓ:=ℓ) P2 D.L (K12.get c3 (by decide)) (K12.get c4 (by decide)) hA2 lk hr2 (by lia);have K3:ZX [] hp2 (hp2++[MO.list ((ahd os a b).map MV.bool)]):=ZX.app _ _ _;revert e3 K3;refine gen (hp2++[MO.list ((ahd os a b).map MV.bool)]) fun hp3 e3 K3=>?_;have K13:ZX [2,20,21] hp hp3:=K12.trans (K3.mono (by simp));have e4:=st210 (ℓ:=ℓ) (D.P.keep K13 (by decide)) D.L (K13.get c3 (by decide)) (K13.get c4 (by decide)) (K3.get hA2 (by decide)) lk (K3.get hr2 (by simp)) hlt1 hl (by lia) hw;have K4:ZX [] hp3 (hp3++[MO.list [.int (hv (ahd os a b) ws),.str [a,b]]]):=ZX.app _ _ _;have hp3l:24≤hp3.length:=Nat.le_trans hlt1 (Nat.le_trans K2.1 K3.1);have hpr:=Zv hp3 (MO.list [.int (hv (ahd os a b) ws),.str [a,b]]);revert e4 K4 hpr;refine gen (hp3++[MO.list [.int (hv (ahd os a b) ws),.str [a,b]]]) fun hp4 e4 K4 hpr=>?_;have K14:ZX [2,20,21] hp hp4:=K13.trans (K4.mono (by simp));have L4:PairLoc (ℓ.set 12 (some (.ref hp3.length))):=D.L.set (by decide) _;have l12:(ℓ.set 12 (some (MV.ref hp3.length)))[12]?=some (some (.ref hp3.length)):=List.getElem?_set_self (by rw[D.L.len];decide);revert e4 L4 l12;refine gen (ℓ.set 12 (some (MV.ref hp3.length))) fun ℓ4 e4 L4 l12=>?_;have hC4:=K14.get hC (by decide);have e5:s211 lamF 2 ℓ4 hp4=some (.norm,ℓ4,hp4.set 22 (.list ((rs++[hp3.length]).map .ref))):=by
  have:rs.length≤100000:=by lia
  simp[s211,Zgu,ZV,Zf,L4.l10,Zd,Zp,l12,tyOf.eq_def,hC4,Zgk.eq_def,Zas,this]
 have hC5:=ZP hC4 (.list ((rs++[hp3.length]).map .ref));have K5:ZX [22] hp4 (hp4.set 22 (.list ((rs++[hp3.length]).map .ref))):=ZX.set (by simp) _ _;revert e5 hC5 K5;refine gen (hp4.set 22 (.list ((rs++[hp3.length]).map .ref))) fun hp5 e5 hC5 K5=>?_;have K15:ZX [2,20,21,22] hp hp5:=(K14.mono (by simp)).trans (K5.mono (by simp));have hB5:=K15.get hBk (by decide);have e6:s212 lamF 2 ℓ4 hp5=some (.norm,ℓ4,hp5.set 23 (.list ((rs++[hp3.length]).reverse.map .ref))):=by
  have:rs.length≤100000:=by lia
  simp[s212,Zgu,ZV,Zf,L4.l11,Zd,Zp,Zb,l12,tyOf.eq_def,hB5,ZfL.eq_def,this]
 have hB6:=ZP hB5 (.list ((rs++[hp3.length]).reverse.map .ref));have K6:ZX [23] hp5 (hp5.set 23 (.list ((rs++[hp3.length]).reverse.map .ref))):=ZX.set (by simp) _ _;revert e6 hB6 K6;refine gen (hp5.set 23 (.list ((rs++[hp3.length]).reverse.map .ref))) fun hp6 e6 hB6 K6=>?_;have K16:ZX [2,20,21,22,23] hp hp6:=(K15.mono (by simp)).trans (K6.mono (by simp));have K26:ZX [22,23] hp2 hp6:=(((K3.mono (by simp)).trans (K4.mono (by simp))).trans (K5.mono (by simp))).trans (K6.mono (by simp));have K46:ZX [22,23] hp4 hp6:=(K5.mono (by simp)).trans (K6.mono (by simp));have K2':ZX [20,21,22,23] hp1 hp6:=(K2.mono (by simp)).trans (K26.mono (by simp));refine p2_3 ℓ4 hp6 ?_ ⟨K16.get D.t0 (by decide),K16.get D.t1 (by decide),D.P.keep K16 (by decide),L4,K16.get D.nm (by decide),⟨_,K26.get (K2.get c2' (by decide)) (by decide)⟩,⟨_,K16.get c3 (by decide)⟩,⟨_,K16.get c4 (by decide)⟩,D.c6.imp fun υ h=>K16.get h (by decide),⟨_,K26.get hS2 (by decide),?_⟩,⟨_,K26.get hA2 (by decide),?_,?_⟩,⟨rs++[hp3.length],K6.get hC5 (by decide),hB6,?_,?_⟩⟩ (K16.get c4 (by decide))
 · unfold Zla;rw[Zl e1,Zl e2,Zl e3,Zl e4,Zl e5,Zl e6];rfl
 · simp[ahd];lia
 · simp[hes]
 · intro ab hab;rcases List.mem_append.mp hab with h | h
   · refine ZgO (hdict ab h) fun r h1 h2 h3=>?_;refine ZnY r ?_ h2 (K16.get h3 (by simp;lia));have:([ab.1,ab.2]==[a,b])=false:=by
      simp;rintro rfl rfl
      exact hn h
     simp[List.lookup,this,h1]
   · rw[List.mem_singleton] at h;subst h;exact ZnY _ lk hlt1 (K26.get hr2 (by simp;lia))
 · simp[hrs]
 · intro i r ab h1 h2;by_cases hi:i < rs.length
   · rw[List.getElem?_append_left hi] at h1;rw[List.getElem?_append_left (by lia)] at h2;refine Qe (hcame i r ab h1 h2) fun h3 h4=>?_;exact ⟨h3,K16.get h4 (by simp;lia)⟩
   · have hi1:i=rs.length:=by
      have:=(lge h1).1;simp at this;lia
     subst hi1;rw[hrs] at h2;rw[← hrs] at h2;simp at h1;rw[hrs] at h2;simp at h2;subst h1 h2;exact ⟨hp3l,K46.get hpr (by simp;lia)⟩
end
end
set_option tactic.hygienic true
set_option tactic.hygienic false
section
variable {nm:List Nat} {os:List (List Nat)} {ws:List Int} {ℓ:Loc} {hp:Hp} {N:Nat}
section
theorem PInv.keepC{done:List (Nat×Nat)}{hp hp':Hp}(D:PInv N nm os ws done ℓ hp)(K:ZX [2,3,4,6] hp hp')(h2:∃v,hp'[2]?=some (.cell v))(h3:∃v,hp'[3]?=some (.cell v))(h4:∃v,hp'[4]?=some (.cell v))(h6:∃v,hp'[6]?=some (.cell v)):PInv N nm os ws done ℓ hp':=by
 refine ZJ D.said fun bs hS hbs=>?_;refine ZgO D.dict fun es hA hes hdict=>?_;refine Zgv D.came fun rs hC hBk hrs hcame=>?_;refine ⟨K.get D.t0 (by decide),K.get D.t1 (by decide),D.P.keep K (by decide),D.L,K.get D.nm (by decide),h2,h3,h4,h6,⟨bs,K.get hS (by decide),hbs⟩,⟨es,K.get hA (by decide),hes,?_⟩,⟨rs,K.get hC (by decide),K.get hBk (by decide),hrs,?_⟩⟩
 · intro ab hab;refine ZgO (hdict ab hab) fun r h1 h2 h3=>?_;exact ZnY r h1 h2 (K.get h3 (by simp;lia))
 · intro i r ab h1 h2;refine Qe (hcame i r ab h1 h2) fun h3 h4=>?_;exact ⟨h3,K.get h4 (by simp;lia)⟩
theorem PInv.set3{done:List (Nat×Nat)}(D:PInv N nm os ws done ℓ hp)(v:Option MV):PInv N nm os ws done ℓ (hp.set 3 (.cell v)):=by
 have K:ZX [3] hp (hp.set 3 (.cell v)):=ZX.set (by simp) _ _;refine ZW D.c3 fun u h3=>?_;exact D.keepC (K.mono (by simp)) (D.c2.imp fun υ h=>K.get h (by decide)) ⟨_,ZP h3 _⟩ (D.c4.imp fun υ h=>K.get h (by decide)) (D.c6.imp fun υ h=>K.get h (by decide))
theorem PInv.set4{done:List (Nat×Nat)}(D:PInv N nm os ws done ℓ hp)(v:Option MV):PInv N nm os ws done ℓ (hp.set 4 (.cell v)):=by
 have K:ZX [4] hp (hp.set 4 (.cell v)):=ZX.set (by simp) _ _;refine ZW D.c4 fun u h3=>?_;exact D.keepC (K.mono (by simp)) (D.c2.imp fun υ h=>K.get h (by decide)) (D.c3.imp fun υ h=>K.get h (by decide)) ⟨_,ZP h3 _⟩ (D.c6.imp fun υ h=>K.get h (by decide))
theorem PInv.set6{done:List (Nat×Nat)}(D:PInv N nm os ws done ℓ hp)(v:Option MV):PInv N nm os ws done ℓ (hp.set 6 (.cell v)):=by
 have K:ZX [6] hp (hp.set 6 (.cell v)):=ZX.set (by simp) _ _;refine ZW D.c6 fun u h3=>?_;exact D.keepC (K.mono (by simp)) (D.c2.imp fun υ h=>K.get h (by decide)) (D.c3.imp fun υ h=>K.get h (by decide)) (D.c4.imp fun υ h=>K.get h (by decide)) ⟨_,ZP h3 _⟩
structure Data(nm:List Nat)(os:List (List Nat))(ws:List Int):Prop where
 g:∃g∈letters,nm=namesOf g
 ho:∀o∈os,o∈permsOf nm
 ol:os.length=5
 wl:ws.length=5
 wr:∀x∈ws,0≤x∧x≤1000
 sm:ws.sum=511
theorem ZkI:(letters.all fun g=>decide ((namesOf g).Nodup∧(namesOf g).length=3))=true:=by decide +kernel
theorem Data.nodup(H:Data nm os ws):nm.Nodup∧nm.length=3:=by
 refine ZJ H.g fun g hg yq=>?_;subst yq;simpa using lae ZkI g hg
theorem Data.em(H:Data nm os ws){a b:Nat}(ha:a∈nm)(hb:b∈nm):∀o∈os,Qr (F__ellipsis_match [.str (ZcL a b),.str o] [])=some (.bool (ZY o a b)):=by
 refine ZJ H.g fun g hg yq=>?_;subst yq;intro o ho;exact of_decide_eq_true (lae (lae (lae (lae em_pair g hg) o (H.ho o ho)) a ha) b hb)
theorem Data.em2(H:Data nm os ws){a:Nat}(ha:a∈nm):∀o∈os,Qr (F__ellipsis_match [.str ([a]++Qn),.str o] [])=some (.bool (o[0]?==some a))∧Qr (F__ellipsis_match [.str (Qn++[a]),.str o] [])=some (.bool (o[2]?==some a)):=by
 refine ZJ H.g fun g hg yq=>?_;subst yq;intro o ho;have:=lae (lae (lae em_ends g hg) o (H.ho o ho)) a ha;rw[Bool.and_eq_true] at this;exact ⟨of_decide_eq_true this.1,of_decide_eq_true this.2⟩
theorem Zid{l:List Nat}(h:l.Nodup){i a:Nat}(hi:l[i]?=some a):a∉l.take i:=by
 intro hm;obtain ⟨j,hj⟩:=List.getElem?_of_mem hm;have hji:j < i:=by have:=(lge hj).1;simp at this;lia
 rw[List.getElem?_take_of_lt hji] at hj;have h1:=(lge hi);have h2:=(lge hj);have:=(List.getElem_inj h).mp (h1.2.trans h2.2.symm);lia
noncomputable def Zdd(nm:List Nat)(as:List Nat):List (Nat×Nat):=as.flatMap fun a=>nm.map fun b=>(a,b)
theorem ZiT(h:nm.length=3):∀as:List Nat,(Zdd nm as).length=as.length * 3:=by
 intro r;induction r with
 | nil=>
  exact rfl
 | cons a r ih=>
  have:=ih;simp only[Zdd,List.flatMap_cons,List.length_append,List.length_map,h,List.length_cons] at this ⊢;lia
theorem Zav{α:Type}{l:List α}{i:Nat}{a:α}(h:l[i]?=some a):l.take (i+1)=l.take i++[a]:=by
 rw[List.take_add_one,h];rfl
theorem row205(H:Data nm os ws){as:List Nat}{a:Nat}(ha:a∈nm)(has:a∉as)(hl:as.length≤2)(D:PInv N nm os ws (Zdd nm as) ℓ hp)(hN:N≤600)(c4:hp[4]?=some (.cell (some (.str [a])))):
 ∃ℓ' hp',s205 lamF 2 ℓ hp=some (.norm,ℓ',hp')∧PInv (N+15) nm os ws (Zdd nm (as++[a])) ℓ' hp':=by
 refine Qe H.nodup fun nd n3=>?_;have:=Zaw (k:=19) (N:=100) (it:=itE (Zf 8)) (tg:=tgC 3) (f:=Zla) (xs:=nm.map fun a=>.str [a]) (ℓ:=ℓ) (hp:=hp) (hp0:=hp)
  (I:=fun i ℓ hp=>PInv (N+5 * i) nm os ws (Zdd nm as++(nm.take i).map fun b=>(a,b)) ℓ hp∧hp[4]?=some (.cell (some (.str [a])))) (by simp[itE,Zf,D.L.l8,D.nm]) (fun i ℓ hp h=>h.1.nm)
  (fun i v ℓ hp hx h=>by
   rw[List.getElem?_map] at hx;cases hb:nm[i]? with
   | none=>rw[hb] at hx;cases hx
   | some b=>
    rw[hb] at hx;refine oi1 hx fun yq=>?_;subst yq;refine ZW h.1.c3 fun u c3=>?_;have hi:i < 3:=by have:=(lge hb).1;lia
    have e1:tgC 3 (MV.str [b]) ℓ hp=some (ℓ,hp.set 3 (.cell (some (.str [b])))):=by simp[tgC,Zlr,c3]
    obtain ⟨ℓ',hp',e2,D2,g4⟩:=turn205 (a:=a) (b:=b) (h.1.set3 (some (.str [b]))) (ZP c3 _) (Zo h.2 (by decide) _) (by lia) (by
     intro hm;rcases List.mem_append.mp hm with hm | hm
     · simp only[Zdd,List.mem_flatMap,List.mem_map,Prod.mk.injEq] at hm;obtain ⟨a',ha',_,_,rfl,_⟩:=hm;exact has ha'
     · simp only[List.mem_map,Prod.mk.injEq,true_and,exists_eq_right] at hm;exact Zid nd hb hm) (by
     have:(Zdd nm as).length=as.length * 3:=ZiT n3 as;simp[this];lia) (by rw[H.ol,H.wl]) H.wl H.wr (H.em ha (List.mem_of_getElem? hb))
    refine p4_4 ℓ _ ℓ' hp' e1 e2 ?_ g4;rw[Zav hb];rw[show N+5 * (i+1)=N+5 * i+5 by lia];simpa using D2) ⟨by simpa using D,c4⟩ (by simp;lia)
 refine ZiK this fun ℓ' hp' e D2 g4=>?_;refine ZeN ℓ' hp' e ?_;simp only[List.length_map,n3] at D2;rw[List.take_of_length_le (by lia)] at D2;simpa [Zdd] using D2
theorem lawD_ok(H:Data nm os ws)(D:PInv N nm os ws [] ℓ hp)(hN:N≤500):
 ∃ℓ' hp',Zng lamF 2 ℓ hp=some (.norm,ℓ',hp')∧PInv (N+45) nm os ws (Zdd nm nm) ℓ' hp':=by
 refine Qe H.nodup fun nd n3=>?_;have:=Zaw (k:=19) (N:=100) (it:=itE (Zf 8)) (tg:=tgC 4) (f:=Zn (s205 lamF 2) ZA) (xs:=nm.map fun a=>.str [a]) (ℓ:=ℓ) (hp:=hp) (hp0:=hp)
  (I:=fun i ℓ hp=>PInv (N+15 * i) nm os ws (Zdd nm (nm.take i)) ℓ hp) (by simp[itE,Zf,D.L.l8,D.nm]) (fun i ℓ hp h=>h.nm)
  (fun i v ℓ hp hx h=>by
   rw[List.getElem?_map] at hx;cases hb:nm[i]? with
   | none=>rw[hb] at hx;cases hx
   | some b=>
    rw[hb] at hx;refine oi1 hx fun yq=>?_;subst yq;refine ZW h.c4 fun u c4=>?_;have hi:i < 3:=by have:=(lge hb).1;lia
    have e1:tgC 4 (MV.str [b]) ℓ hp=some (ℓ,hp.set 4 (.cell (some (.str [b])))):=by simp[tgC,Zlr,c4]
    refine ZeF (row205 H (List.mem_of_getElem? hb) (Zid nd hb) (by simp;lia) (h.set4 (some (.str [b]))) (by lia) (ZP c4 _)) fun ℓ' hp' e2 D2=>?_;refine p4_3 ℓ _ ℓ' hp' e1 ?_ ?_
    · rw[Zl e2];rfl
    · rw[Zav hb];exact D2) (by simpa [Zdd] using D) (by simp;lia)
 refine ZeF this fun ℓ' hp' e D2=>?_;refine ZeN ℓ' hp' ?_ ?_
 · unfold Zng;rw[show s204 lamF 2=Zbr (itE (Zf 8)) (tgC 4) (Zn (s205 lamF 2) ZA) 100 from rfl,Zl e];rfl
 · simp only[List.length_map,n3] at D2;rwa [List.take_of_length_le (by lia)] at D2
end
end
set_option tactic.hygienic true
set_option tactic.hygienic false
section
variable {nm:List Nat} {os:List (List Nat)} {ws:List Int} {ℓ:Loc} {hp:Hp} {N:Nat}
section
theorem PInv.upd{N M:Nat}{done:List (Nat×Nat)}{ℓ ℓ':Loc}{hp hp':Hp}{bs:List Bool}(D:PInv N nm os ws done ℓ hp)(K:ZX [20] hp hp')(hs:hp'[20]?=some (.list (bs.map .bool)))(hl:bs.length≤M)(L:PairLoc ℓ'):PInv M nm os ws done ℓ' hp':=by
 refine ZgO D.dict fun es hA hes hdict=>?_;refine Zgv D.came fun rs hC hBk hrs hcame=>?_;refine ⟨K.get D.t0 (by decide),K.get D.t1 (by decide),D.P.keep K (by decide),L,K.get D.nm (by decide),D.c2.imp fun υ h=>K.get h (by decide),D.c3.imp fun υ h=>K.get h (by decide),D.c4.imp fun υ h=>K.get h (by decide),D.c6.imp fun υ h=>K.get h (by decide),⟨bs,hs,hl⟩,⟨es,K.get hA (by decide),hes,?_⟩,⟨rs,K.get hC (by decide),K.get hBk (by decide),hrs,?_⟩⟩
 · intro ab hab;refine ZgO (hdict ab hab) fun r h1 h2 h3=>?_;exact ZnY r h1 h2 (K.get h3 (by simp;lia))
 · intro i r ab h1 h2;refine Qe (hcame i r ab h1 h2) fun h3 h4=>?_;exact ⟨h3,K.get h4 (by simp;lia)⟩
theorem PInv.keep0{done:List (Nat×Nat)}{ℓ ℓ':Loc}{hp hp':Hp}(D:PInv N nm os ws done ℓ hp)(K:ZX [] hp hp')(L:PairLoc ℓ'):PInv N nm os ws done ℓ' hp':=by
 refine ZJ D.said fun bs hS hl=>?_;exact D.upd (K.mono (by simp)) (K.get hS (by decide)) hl L
noncomputable def Qm(os:List (List Nat))(a:Nat):List Bool:=os.map fun o=>o[0]?==some a
noncomputable def Qq(os:List (List Nat))(a:Nat):List Bool:=os.map fun o=>o[2]?==some a
noncomputable def Zgs(os:List (List Nat))(a:Nat):Bool:=(((Qm os a).count true:Int)==0) || ((((Qq os a).count true:Int)==0) || (5 - ((Qm os a).count true:Int) - ((Qq os a).count true:Int)==0))
theorem ZkZ:∀bl:List Bool,ZbQ (bl.map MV.bool)=some bl:=by
 intro r;induction r with
 | nil=>
  exact rfl
 | cons b r ih=>
  simp[ZbQ,ih]
theorem st215{a:Nat}{bs:List Bool}(P:PairHp os ws hp)(c6:hp[6]?=some (.cell (some (.str [a]))))(hS:hp[20]?=some (.list (bs.map .bool)))(hbs:bs.length≤800)(hos:os.length≤90)
 (hem:∀o∈os,Qr (F__ellipsis_match [.str ([a]++Qn),.str o] [])=some (.bool (o[0]?==some a))):
 s215 lamF 2 ℓ hp=some (.norm,ℓ.set 14 (some (.ref hp.length)),hp.set 20 (MO.list ((bs++Qm os a).map MV.bool))++[MO.list ((Qm os a).map MV.bool)]):=by
 have hc:=ZdF (ℓ:=ℓ) (want:=ZB .Add (ZL 6) (Zb (.str (Str.ofString "...").cps.toList))) (kB:=ZL 7) (kS:=ZL 5) (wt:=[a]++Qn) (φ:=fun o=>o[0]?==some a) (fun ℓ=>by simp[ZL.eq_def,P.c7]) P.lB hS
  (fun ℓ us ys=>by have:=Zk (Zo c6 (by decide:20≠6) (MO.list us)) [MO.list ys];simp[ZB,ZL.eq_def,this,Zb,Zix.eq_def,Zii,Qn])
  (fun ℓ us ys=>by have:=Zk (Zo P.c5 (by decide:20≠5) (MO.list us)) [MO.list ys];simp[ZL.eq_def,this]) hbs hos hem
 unfold s215 ZU;rw[hc];rfl
theorem st216{a:Nat}{bs:List Bool}(P:PairHp os ws hp)(c6:hp[6]?=some (.cell (some (.str [a]))))(hS:hp[20]?=some (.list (bs.map .bool)))(hbs:bs.length≤800)(hos:os.length≤90)
 (hem:∀o∈os,Qr (F__ellipsis_match [.str (Qn++[a]),.str o] [])=some (.bool (o[2]?==some a))):
 s216 lamF 2 ℓ hp=some (.norm,ℓ.set 15 (some (.ref hp.length)),hp.set 20 (MO.list ((bs++Qq os a).map MV.bool))++[MO.list ((Qq os a).map MV.bool)]):=by
 have hc:=ZdF (ℓ:=ℓ) (want:=ZB .Add (Zb (.str (Str.ofString "...").cps.toList)) (ZL 6)) (kB:=ZL 7) (kS:=ZL 5) (wt:=Qn++[a]) (φ:=fun o=>o[2]?==some a) (fun ℓ=>by simp[ZL.eq_def,P.c7]) P.lB hS
  (fun ℓ us ys=>by have:=Zk (Zo c6 (by decide:20≠6) (MO.list us)) [MO.list ys];simp[ZB,ZL.eq_def,this,Zb,Zix.eq_def,Zii,Qn])
  (fun ℓ us ys=>by have:=Zk (Zo P.c5 (by decide:20≠5) (MO.list us)) [MO.list ys];simp[ZL.eq_def,this]) hbs hos hem
 unfold s216 ZU;rw[hc];rfl
theorem Znl{a k:Nat}(hk:k≤2)(h5:ℓ[5]?=some (some (.ref 13)))(lO:hp[13]?=some (.list (os.map .str)))(c6:hp[6]?=some (.cell (some (.str [a]))))(hos:os.length≤90)(h3:∀o∈os,o.length=3):
 Qb (itE (Zf 5)) Qi (ZbG (ZS .Eq (ZZ (Zf 0) (Zb (.int k))) (ZL 6))) 100 ℓ hp=some (.ref hp.length,hp++[MO.list ((os.map fun o=>o[k]?==some a).map MV.bool)]):=by
 have hc:=Zdn (k:=13) (N:=100) (xs:=os.map .str) (it:=itE (Zf 5)) (f:=ZbG (ZS .Eq (ZZ (Zf 0) (Zb (.int k))) (ZL 6))) (ℓ:=ℓ) (hp:=hp) (fun x=>match x with | .str o=>MV.bool (o[k]?==some a) | x=>x)
  (by simp[itE.eq_def,Zf,h5,lO]) lO (by simp;lia) (by simp;lia) (fun x hx ys=>by
   refine ZJ (List.mem_map.mp hx) fun o ho yq=>?_;subst yq;have g6:=Zk c6 [MO.list ys];have hl:=h3 o ho;have hk3:k < o.length:=by lia
   have hk':(k:Int)≤100000:=by lia
   simp[ZbG,ZS,ZZ,Zf,Zb,ZL.eq_def,g6,ZnG.eq_def,hk',List.getElem?_eq_getElem hk3,ZdE.eq_def,eqC.eq_def,BEq.beq];rfl)
 have e2:(os.map MV.str).map (fun x=>match x with | .str o=>MV.bool (o[k]?==some a) | x=>x)=(os.map fun o=>o[k]?==some a).map MV.bool:=by simp
 rw[e2] at hc;exact hc
theorem ZR{i:Nat}{v:MV}(h:ℓ[i]?=some (some v)):Zf i ℓ hp=some (v,hp):=by
 unfold Zf;rw[h]
theorem orT_f{t1 t2:TF}{hp hp1 hp2:Hp}(h1:t1 ℓ hp=some (false,hp1))(h2:t2 ℓ hp1=some (false,hp2)):orT t1 t2 ℓ hp=some (false,hp2):=by
 unfold orT;simp only[h1,h2]
theorem st217{a r1 r2:Nat}(P:PairHp os ws hp)(L:PairLoc ℓ)(c6:hp[6]?=some (.cell (some (.str [a]))))(hos:os.length≤90)(h3:∀o∈os,o.length=3)
 (l14:ℓ[14]?=some (some (.ref r1))) (l15:ℓ[15]?=some (some (.ref r2))) (h1:hp[r1]?=some (.list ((Qm os a).map .bool))) (h2:hp[r2]?=some (.list ((Qq os a).map .bool))):
 s217 lamF 2 ℓ hp=some (.norm,ℓ,(hp++[MO.list ((Qm os a).map MV.bool)])++[MO.list ((Qq os a).map MV.bool)]):=by
 have e1:=Znl (k:=0) (by decide) L.l5 P.lO c6 hos h3;have e2:=Znl (k:=2) (by decide) L.l5 (Zk P.lO [MO.list ((Qm os a).map MV.bool)]) (Zk c6 _) hos h3;have q1:eqC (hp++[MO.list ((Qm os a).map MV.bool)]) (.ref r1) (.ref hp.length)=some true:=Zcu (Zk h1 _) (Zv _ _);have q2:eqC (hp++[MO.list ((Qm os a).map MV.bool)]++[MO.list ((Qq os a).map MV.bool)]) (.ref r2) (.ref (hp++[MO.list ((Qm os a).map MV.bool)]).length)=some true:=Zcu (Zk (Zk h2 _) _) (Zv _ _);exact Zdk (orT_f (Zar (ZR l14) e1 (congrArg ZkG q1)) (Zar (ZR l15) e2 (congrArg ZkG q2)))
theorem st219{a r1 r2:Nat}{b:Bool}
 (l14:ℓ[14]?=some (some (.ref r1))) (l15:ℓ[15]?=some (some (.ref r2))) (h1:hp[r1]?=some (.list ((Qm os a).map .bool))) (h2:hp[r2]?=some (.list ((Qq os a).map .bool))) (l13:ℓ[13]?=some (some (.bool b))):
 ∃x,s219 lamF 2 ℓ hp=some (.norm,(if Zgs os a then ℓ.set 13 (some (.bool true)) else ℓ),hp++[x]):=by
 have hin:inC (hp++[MO.list [.int ((Qm os a).count true),.int ((Qq os a).count true),.int (5 - (Qm os a).count true - (Qq os a).count true)]]) (.int 0) (.ref hp.length)=some (Zgs os a):=by
  have:=Zv hp (MO.list [.int ((Qm os a).count true),.int ((Qq os a).count true),.int (5 - (Qm os a).count true - (Qq os a).count true)]);unfold inC;simp only[this];simp only[toD,this,ZmY,PyData.canLay0,PyData.canLayAll0,PyData.depth,Zgs];rw[if_pos ⟨trivial,rfl,by lia⟩];simp only[List.any_cons,List.any_nil,Bool.or_false,PyData.eqv]
 refine ⟨MO.list [.int ((Qm os a).count true),.int ((Qq os a).count true),.int (5 - (Qm os a).count true - (Qq os a).count true)],?_⟩;have ht:ZS .In (Zb (.int 0)) (ZH (Zd (ZV "list" ZcS (Zf 14) (Zd (Zb (.bool true)) Zp)) (Zd (ZV "list" ZcS (Zf 15) (Zd (Zb (.bool true)) Zp)) (Zd (ZB .Sub (ZB .Sub (Zb (.int 5)) (ZV "list" ZcS (Zf 14) (Zd (Zb (.bool true)) Zp))) (ZV "list" ZcS (Zf 15) (Zd (Zb (.bool true)) Zp))) Zp)))) ℓ hp=some (Zgs os a,hp++[MO.list [.int ((Qm os a).count true),.int ((Qq os a).count true),.int (5 - (Qm os a).count true - (Qq os a).count true)]]):=by
  refine Zar (hp1:=hp) (b:=.ref hp.length) rfl ?_ hin;simp[ZH,Zd,Zp,ZV,Zf,l14,l15,Zb,tyOf.eq_def,h1,h2,ZcS.eq_def,ZkZ,ZB,Zix.eq_def]
 unfold s219;cases hk:Zgs os a with
 | false=>rw[hk] at ht;rw[Zdk ht];simp
 | true=>rw[hk] at ht;rw[Zgy ht];simp[Zn,s220,ZU,Zb,ZA]
noncomputable def Ziv:SF:=(Zn (s215 lamF 2) (Zn (s216 lamF 2) (Zn (s217 lamF 2) (Zn (s219 lamF 2) ZA))))
theorem turn214(H:Data nm os ws)(h3:∀o∈os,o.length=3){done:List (Nat×Nat)}{a:Nat}{b:Bool}(ha:a∈nm)(D:PInv N nm os ws done ℓ hp)(hN:N≤600)(c6:hp[6]?=some (.cell (some (.str [a]))))(l13:ℓ[13]?=some (some (.bool b))):
 ∃ℓ' hp',Ziv ℓ hp=some (.norm,ℓ',hp')∧PInv (N+10) nm os ws done ℓ' hp'∧ℓ'[13]?=some (some (.bool (b || Zgs os a))):=by
 refine ZJ D.said fun bs hS hbs=>?_;have hos:os.length≤90:=by have:=H.ol;lia
 have e1:=st215 (ℓ:=ℓ) D.P c6 hS (by lia) hos (fun o ho=>(H.em2 ha o ho).1);have K1:ZX [20] hp (hp.set 20 (MO.list ((bs++Qm os a).map MV.bool))++[MO.list ((Qm os a).map MV.bool)]):=(ZX.set (by simp) _ _).trans (ZX.app _ _ _);have hS1:(hp.set 20 (MO.list ((bs++Qm os a).map MV.bool))++[MO.list ((Qm os a).map MV.bool)])[20]?=some (MO.list ((bs++Qm os a).map MV.bool)):=Zk (ZP hS _) _;have hr1:(hp.set 20 (MO.list ((bs++Qm os a).map MV.bool))++[MO.list ((Qm os a).map MV.bool)])[hp.length]?=some (MO.list ((Qm os a).map MV.bool)):=by
  have:=Zv (hp.set 20 (MO.list ((bs++Qm os a).map MV.bool))) (MO.list ((Qm os a).map MV.bool));simp
 have hl0:20 < hp.length:=Zac hS;generalize hp.set 20 (MO.list ((bs++Qm os a).map MV.bool))++[MO.list ((Qm os a).map MV.bool)]=hp1 at e1 K1 hS1 hr1;have L1:PairLoc (ℓ.set 14 (some (.ref hp.length))):=D.L.set (by decide) _;have l1:(ℓ.set 14 (some (MV.ref hp.length)))[14]?=some (some (.ref hp.length)):=List.getElem?_set_self (by rw[D.L.len];decide);have l13':(ℓ.set 14 (some (MV.ref hp.length)))[13]?=some (some (.bool b)):=by rw[List.getElem?_set_ne (by decide)];exact l13
 generalize ℓ.set 14 (some (MV.ref hp.length))=ℓ1 at e1 L1 l1 l13';have D1:PInv (N+5) nm os ws done ℓ1 hp1:=D.upd K1 hS1 (by simp[Qm,H.ol];lia) L1;have e2:=st216 (ℓ:=ℓ1) D1.P (K1.get c6 (by decide)) hS1 (by simp[Qm,H.ol];lia) hos (fun o ho=>(H.em2 ha o ho).2);have K2:ZX [20] hp1 (hp1.set 20 (MO.list ((bs++Qm os a++Qq os a).map MV.bool))++[MO.list ((Qq os a).map MV.bool)]):=(ZX.set (by simp) _ _).trans (ZX.app _ _ _);have hS2:(hp1.set 20 (MO.list ((bs++Qm os a++Qq os a).map MV.bool))++[MO.list ((Qq os a).map MV.bool)])[20]?=some (MO.list ((bs++Qm os a++Qq os a).map MV.bool)):=Zk (ZP hS1 _) _;have hr2:(hp1.set 20 (MO.list ((bs++Qm os a++Qq os a).map MV.bool))++[MO.list ((Qq os a).map MV.bool)])[hp1.length]?=some (MO.list ((Qq os a).map MV.bool)):=by
  have:=Zv (hp1.set 20 (MO.list ((bs++Qm os a++Qq os a).map MV.bool))) (MO.list ((Qq os a).map MV.bool));simp
 generalize hp1.set 20 (MO.list ((bs++Qm os a++Qq os a).map MV.bool))++[MO.list ((Qq os a).map MV.bool)]=hp2 at e2 K2 hS2 hr2;have L2:PairLoc (ℓ1.set 15 (some (.ref hp1.length))):=L1.set (by decide) _;have l2:(ℓ1.set 15 (some (MV.ref hp1.length)))[15]?=some (some (.ref hp1.length)):=List.getElem?_set_self (by rw[L1.len];decide);have l2a:(ℓ1.set 15 (some (MV.ref hp1.length)))[14]?=some (some (.ref hp.length)):=by rw[List.getElem?_set_ne (by decide)];exact l1
 have l2b:(ℓ1.set 15 (some (MV.ref hp1.length)))[13]?=some (some (.bool b)):=by rw[List.getElem?_set_ne (by decide)];exact l13'
 generalize ℓ1.set 15 (some (MV.ref hp1.length))=ℓ2 at e2 L2 l2 l2a l2b;have D2:PInv (N+10) nm os ws done ℓ2 hp2:=D1.upd K2 hS2 (by simp[Qm,Qq,H.ol];lia) L2;have g1:=K2.get hr1 (by simp;lia);have e3:=st217 (ℓ:=ℓ2) D2.P L2 (K2.get (K1.get c6 (by decide)) (by decide)) hos h3 l2a l2 g1 hr2;have K3:ZX [] hp2 (hp2++[MO.list ((Qm os a).map MV.bool)]++[MO.list ((Qq os a).map MV.bool)]):=(ZX.app _ _ _).trans (ZX.app _ _ _);generalize hp2++[MO.list ((Qm os a).map MV.bool)]++[MO.list ((Qq os a).map MV.bool)]=hp3 at e3 K3;refine ZW (st219 (hp:=hp3) l2a l2 (K3.get g1 (by simp)) (K3.get hr2 (by simp)) l2b) fun x e4=>?_;have K4:ZX [] hp2 (hp3++[x]):=K3.trans (ZX.app _ _ _);refine p2_3 _ _ ?_ (D2.keep0 K4 (ℓ':=if Zgs os a then ℓ2.set 13 (some (.bool true)) else ℓ2) ?_) ?_
 · unfold Ziv;rw[Zl e1,Zl e2,Zl e3,Zl e4];rfl
 · cases Zgs os a with
   | false=>exact L2
   | true=>exact L2.set (by decide) _
 · cases Zgs os a with
   | false=>simpa using l2b
   | true=>simp only[if_true,Bool.or_true];exact List.getElem?_set_self (by rw[L2.len];decide)
theorem perm3{o:List Nat}(h:o∈permsOf nm):o.length=3:=by
 unfold permsOf at h;split at h
 · simp only[List.mem_cons,List.not_mem_nil,or_false] at h;rcases h with rfl | rfl | rfl | rfl | rfl | rfl<;>rfl
 · cases h
theorem lawF_ok(H:Data nm os ws){done:List (Nat×Nat)}(D:PInv N nm os ws done ℓ hp)(hN:N≤500):
 ∃ℓ' hp',Znf lamF 2 ℓ hp=some (.norm,ℓ',hp')∧PInv (N+30) nm os ws done ℓ' hp'∧ℓ'[13]?=some (some (.bool (nm.any (Zgs os)))):=by
 refine Qe H.nodup fun nd n3=>?_;have L0:PairLoc (ℓ.set 13 (some (.bool false))):=D.L.set (by decide) _;have e0:s213 lamF 2 ℓ hp=some (.norm,ℓ.set 13 (some (.bool false)),hp):=rfl;have l0:(ℓ.set 13 (some (MV.bool false)))[13]?=some (some (.bool false)):=List.getElem?_set_self (by rw[D.L.len];decide);have D0:=D.keep0 (ZX.refl _ _) L0;generalize ℓ.set 13 (some (MV.bool false))=ℓ0 at e0 L0 l0 D0;have:=Zaw (k:=19) (N:=100) (it:=itE (Zf 8)) (tg:=tgC 6) (f:=Ziv) (xs:=nm.map fun a=>.str [a]) (ℓ:=ℓ0) (hp:=hp) (hp0:=hp)
  (I:=fun i ℓ hp=>PInv (N+10 * i) nm os ws done ℓ hp∧ℓ[13]?=some (some (.bool ((nm.take i).any (Zgs os))))) (by simp[itE.eq_def,Zf,L0.l8,D.nm]) (fun i ℓ hp h=>h.1.nm)
  (fun i v ℓ hp hx h=>by
   rw[List.getElem?_map] at hx;cases hb:nm[i]? with
   | none=>rw[hb] at hx;cases hx
   | some b=>
    rw[hb] at hx;refine oi1 hx fun yq=>?_;subst yq;refine ZW h.1.c6 fun u c6=>?_;have hi:i < 3:=by have:=(lge hb).1;lia
    have e1:tgC 6 (MV.str [b]) ℓ hp=some (ℓ,hp.set 6 (.cell (some (.str [b])))):=by simp[tgC,Zlr.eq_def,c6]
    refine ZiK (turn214 H (fun o ho=>perm3 (H.ho o ho)) (List.mem_of_getElem? hb) (h.1.set6 (some (.str [b]))) (by lia) (ZP c6 _) h.2) fun ℓ' hp' e2 D2 g4=>?_;refine p4_4 ℓ _ ℓ' hp' e1 e2 ?_ ?_
    · rw[show N+10 * (i+1)=N+10 * i+10 by lia];exact D2
    · rw[Zav hb,List.any_append];simpa using g4) ⟨by simpa using D0,by simpa using l0⟩ (by simp;lia)
 refine ZiK this fun ℓ' hp' e D2 g=>?_;simp only[List.length_map,n3] at D2 g;rw[List.take_of_length_le (by lia)] at g;refine p2_3 ℓ' hp' ?_ D2 g;unfold Znf;rw[Zl e0,show s214 lamF 2=Zbr (itE (Zf 8)) (tgC 6) Ziv 100 from rfl,Zl e];rfl
end
end
set_option tactic.hygienic true
set_option tactic.hygienic false
section
variable {nm:List Nat} {os:List (List Nat)} {ws:List Int} {ℓ:Loc} {hp:Hp} {N:Nat}
section
noncomputable def emB(o w:List Nat):Bool:=decide (Qr (F__ellipsis_match [.str w,.str o] [])=some (.bool true))
noncomputable def emOk(o w:List Nat):Bool:=decide (Qr (F__ellipsis_match [.str w,.str o] [])=some (.bool (emB o w)))
noncomputable def Zaz(x y z:Nat):List (List Nat):=[[x,y,z],[x,y]++Qn++[z],Qn++[x]++Qn++[y]++Qn++[z]++Qn]
noncomputable def ZaG(x y z:Nat):List (List Nat):=[[x,y],[y,z],[x,z]++Qn,Qn++[x,z],[x,y]++Qn++[y,z],Qn++[x,y]++Qn++[y,z]++Qn,[x]++Qn++[x]++Qn,Qn++[z]++Qn++[z],Qn++[x]++Qn++[z]++Qn++[y]++Qn,Qn++[x,46,z]++Qn]
noncomputable def ZcK:List Bool:=[true,true,true]++List.replicate 10 false
noncomputable def toldB:List Nat→Bool
 | [x,y,z]=>decide ((Zaz x y z++ZaG x y z).map (emB [x,y,z])=ZcK)&&(Zaz x y z++ZaG x y z).all (emOk [x,y,z])&&emB [x,y,z,x,y,z] (Qn++[x]++Qn++[x]++Qn)&&emOk [x,y,z,x,y,z] (Qn++[x]++Qn++[x]++Qn)&&emB [x,10,z] ([x]++Qn++[z])&&emOk [x,10,z] ([x]++Qn++[z])
 | _=>false
theorem told_fin:(letters.all fun g=>(permsOf (namesOf g)).all toldB)=true:=by decide +kernel
theorem dot_eq:(Str.ofString ".").cps.toList=[46]:=by decide +kernel
theorem nl_eq:(Str.ofString "\n").cps.toList=[10]:=by decide +kernel
theorem Znm:(Str.ofString "").cps.toList=[]:=by decide +kernel
theorem ZjA{it:IF}{t:TF}{f:EF}{hp hp1:Hp}{src:Src}(h:it ℓ hp=some (src,hp1)):Qb it t f N ℓ hp=Qb (fun υ h=>some (src,h)) t f N ℓ hp1:=by
 unfold Qb;rw[h]
theorem Zno{want o:List Nat}{S:Nat}{bs:List Bool}(hem:emOk o want=true)(hS:hp[S]?=some (.list (bs.map .bool)))(hl:bs.length≤1000):
 Zab [.str want,.str o,.ref S] hp=some (.bool (emB o want),hp.set S (.list ((bs++[emB o want]).map .bool))):=by
 have:=ZcG (of_decide_eq_true hem) hS (ZcH bs) (by simpa using hl);simpa using this
theorem ZoB{i j:Nat}(bl:List Bool)(h1:hp[i]?=some (.list (bl.map .bool)))(h2:hp[j]?=some (.list (bl.map .bool))):ZdE .NotEq (.ref i) (.ref j) hp=some false:=congrArg ZkG (Zcu h1 h2)
theorem ZgU{f1 f2:SF}{ℓ ℓ1:Loc}{hp hp1:Hp}{v:MV}(h:f1 ℓ hp=some (.ret v,ℓ1,hp1)):Zn f1 f2 ℓ hp=some (.ret v,ℓ1,hp1):=by
 unfold Zn;simp only[h]
theorem ZfW{n:Nat}{li ci:List (Option Nat)}{f:Nat→SF}{args:List MV}{hp hp':Hp}{ℓ':Loc}{v:MV}(hn:args.length=n)(h:f hp.length (ZfH li args) (hp++ZaH ci args)=some (.ret v,ℓ',hp')):Zjq n li ci f args hp=some (v,hp'):=by
 unfold Zjq;rw[if_pos hn,h]
theorem told_run{x y z:Nat}{bs:List Bool}(h:toldB [x,y,z]=true)(hl:bs.length≤700):
 ∃hpm,Zjq 2 [none,none,none,none,none] [some 1,some 0] Zan [.str [x,y,z],.ref 0] [.list (bs.map .bool)]=some (.bool true,hpm)∧hpm[(0:Nat)]?=some (.list ((bs++ZcK++[true]++[true]).map .bool)):=by
 simp only[toldB.eq_def,Bool.and_eq_true,decide_eq_true_eq] at h;refine Qe h fun yq h6=>?_;refine Qe yq fun yq h5=>?_;obtain ⟨⟨⟨h1,h2⟩,h3⟩,h4⟩:=yq;have e1:s157 1 [none,none,none,none,none] [.list (bs.map .bool),.cell (some (.ref 0)),.cell (some (.str [x,y,z]))]=some (.norm,[some (.str [x]),some (.str [y]),some (.str [z]),none,none],[.list (bs.map .bool),.cell (some (.ref 0)),.cell (some (.str [x,y,z]))]):=rfl;have e2:s158 1 [some (.str [x]),some (.str [y]),some (.str [z]),none,none] [.list (bs.map .bool),.cell (some (.ref 0)),.cell (some (.str [x,y,z]))]=some (.norm,[some (.str [x]),some (.str [y]),some (.str [z]),some (.ref 3),none],[.list (bs.map .bool),.cell (some (.ref 0)),.cell (some (.str [x,y,z])),.list ((Zaz x y z).map .str)]):=by
  kernel_rfl
 have e3:s159 1 [some (.str [x]),some (.str [y]),some (.str [z]),some (.ref 3),none] [.list (bs.map .bool),.cell (some (.ref 0)),.cell (some (.str [x,y,z])),.list ((Zaz x y z).map .str)]=some (.norm,[some (.str [x]),some (.str [y]),some (.str [z]),some (.ref 3),some (.ref 4)],[.list (bs.map .bool),.cell (some (.ref 0)),.cell (some (.str [x,y,z])),.list ((Zaz x y z).map .str),.list ((ZaG x y z).map .str)]):=by
  kernel_rfl
 have hc:Qb (itE (ZB .Add (Zf 3) (Zf 4))) Qi (Zr (Zab) (Zd (Zf 0) (Zd (ZL 2) (Zd (ZL 1) Zp)))) 100 [some (.str [x]),some (.str [y]),some (.str [z]),some (.ref 3),some (.ref 4)] [.list (bs.map .bool),.cell (some (.ref 0)),.cell (some (.str [x,y,z])),.list ((Zaz x y z).map .str),.list ((ZaG x y z).map .str)]
  = some (.ref 6,[.list ((bs++ZcK).map .bool),.cell (some (.ref 0)),.cell (some (.str [x,y,z])),.list ((Zaz x y z).map .str),.list ((ZaG x y z).map .str),.list ((Zaz x y z++ZaG x y z).map .str),.list (ZcK.map .bool)]):=by
  rw[ZjA (hp1:=[.list (bs.map .bool),.cell (some (.ref 0)),.cell (some (.str [x,y,z])),.list ((Zaz x y z).map .str),.list ((ZaG x y z).map .str),.list ((Zaz x y z++ZaG x y z).map .str)]) (src:=.list 5) rfl];have hc:=Zhw (k:=5) (S:=0) (N:=100) (xs:=(Zaz x y z++ZaG x y z).map .str) (it:=fun υ h=>some (.list 5,h)) (f:=Zr Zab (Zd (Zf 0) (Zd (ZL 2) (Zd (ZL 1) Zp)))) (ℓ:=[some (.str [x]),some (.str [y]),some (.str [z]),some (.ref 3),some (.ref 4)]) (hp:=[.list (bs.map .bool),.cell (some (.ref 0)),.cell (some (.str [x,y,z])),.list ((Zaz x y z).map .str),.list ((ZaG x y z).map .str),.list ((Zaz x y z++ZaG x y z).map .str)]) (zs:=bs.map .bool) (fun v=>match v with | .str o=>MV.bool (emB [x,y,z] o) | v=>v)
   rfl rfl rfl (by decide) (by simp[Zaz,ZaG]) (by simp[Zaz,ZaG]) (by simp;lia) (ZcH bs) (fun v hx us ys hu hpl=>by
    refine ZJ (List.mem_map.mp hx) fun o ho yq=>?_;subst yq;refine ⟨?_,rfl⟩;have hok:=of_decide_eq_true (lae h2 o ho);simp only[Zr,Zd,Zp,ZL.eq_def,Zf,List.getElem?_cons_zero,List.getElem?_cons_succ,List.set_cons_zero,List.cons_append];rw[ZcG hok rfl hpl hu];simp)
  have e2:((Zaz x y z++ZaG x y z).map MV.str).map (fun v=>match v with | .str o=>MV.bool (emB [x,y,z] o) | v=>v)=ZcK.map MV.bool:=by
   rw[← h1];simp only[List.map_map];rfl
  rw[e2] at hc;rw[hc];simp
 have hd:ZB .Add (ZB .Mult (ZH (Zd (Zb (.bool true)) Zp)) (Zb (.int 3))) (ZB .Mult (ZH (Zd (Zb (.bool false)) Zp)) (Zb (.int 10))) [some (.str [x]),some (.str [y]),some (.str [z]),some (.ref 3),some (.ref 4)] [.list ((bs++ZcK).map .bool),.cell (some (.ref 0)),.cell (some (.str [x,y,z])),.list ((Zaz x y z).map .str),.list ((ZaG x y z).map .str),.list ((Zaz x y z++ZaG x y z).map .str),.list (ZcK.map .bool)]
  = some (.ref 11,[.list ((bs++ZcK).map .bool),.cell (some (.ref 0)),.cell (some (.str [x,y,z])),.list ((Zaz x y z).map .str),.list ((ZaG x y z).map .str),.list ((Zaz x y z++ZaG x y z).map .str),.list (ZcK.map .bool),.list [.bool true],.list [.bool true,.bool true,.bool true],.list [.bool false],.list (List.replicate 10 (.bool false)),.list (ZcK.map .bool)]):=rfl
 have e4:=Zdk (f1:=Zn (s161 1) ZA) (Zar (op:=.NotEq) hc hd (ZoB ZcK rfl rfl));have e5:s162 1 [some (.str [x]),some (.str [y]),some (.str [z]),some (.ref 3),some (.ref 4)] [.list ((bs++ZcK).map .bool),.cell (some (.ref 0)),.cell (some (.str [x,y,z])),.list ((Zaz x y z).map .str),.list ((ZaG x y z).map .str),.list ((Zaz x y z++ZaG x y z).map .str),.list (ZcK.map .bool),.list [.bool true],.list [.bool true,.bool true,.bool true],.list [.bool false],.list (List.replicate 10 (.bool false)),.list (ZcK.map .bool)]
  = some (.ret (.bool true),[some (.str [x]),some (.str [y]),some (.str [z]),some (.ref 3),some (.ref 4)],[.list ((bs++ZcK++[true]++[true]).map .bool),.cell (some (.ref 0)),.cell (some (.str [x,y,z])),.list ((Zaz x y z).map .str),.list ((ZaG x y z).map .str),.list ((Zaz x y z++ZaG x y z).map .str),.list (ZcK.map .bool),.list [.bool true],.list [.bool true,.bool true,.bool true],.list [.bool false],.list (List.replicate 10 (.bool false)),.list (ZcK.map .bool)]):=by
  have ht:ZcK.length=13:=rfl;have a1:=fun (l:Hp)=>Zno (hp:=MO.list ((bs++ZcK).map MV.bool)::l) (S:=0) h4 rfl (by simp[ht];lia);have a2:=fun (l:Hp)=>Zno (hp:=MO.list ((bs++ZcK++[true]).map MV.bool)::l) (S:=0) h6 rfl (by simp[ht];lia);rw[h3] at a1;rw[h5] at a2;simp only[Qn,List.cons_append,List.nil_append] at a1 a2;unfold s162 Qk andE;simp only[Zr,Zd,Zp,ZB,Zb,Zf,ZL.eq_def,List.getElem?_cons_zero,List.getElem?_cons_succ,Zii,nl_eq,Zix.eq_def,List.length_cons,List.length_nil,List.cons_append,List.nil_append,Nat.reduceAdd,Nat.reduceLeDiff,if_true,Int.reduceLE,and_self,Int.reduceToNat,List.replicate_succ,List.replicate_zero,List.flatten_cons,List.flatten_nil];simp only[a1,truth.eq_def,List.set_cons_zero,a2,List.getElem?_cons_zero,List.getElem?_cons_succ]
 have e:=ZgU (f2:=ZA) e5;have e6:Zan 1 [none,none,none,none,none] [.list (bs.map .bool),.cell (some (.ref 0)),.cell (some (.str [x,y,z]))]=_:=(Zl e1).trans ((Zl e2).trans ((Zl e3).trans ((Zl (f1:=s160 1) e4).trans e)));exact Qd _ (ZfW (f:=Zan) (args:=[.str [x,y,z],.ref 0]) rfl e6) rfl
theorem Zoe{x y z k:Nat}{bs:List Bool}(h:toldB [x,y,z]=true)(hk:hp[k]?=some (.list (bs.map .bool)))(hl:bs.length≤700):
 Zao [.str [x,y,z],.ref k] hp=some (.bool true,hp.set k (.list ((bs++ZcK++[true]++[true]).map .bool))):=by
 refine ZJ (told_run h hl) fun hpm e1 e2=>?_;unfold Zao isoL1;simp only[List.getLast?_cons_cons,List.getLast?_singleton,List.dropLast_cons_cons,List.dropLast_singleton,List.all_cons,List.all_nil,pl_s,Bool.and_self,if_true,hk,ZcH,List.cons_append,List.nil_append,e1,pl_b,e2]
end
end
set_option tactic.hygienic true
set_option tactic.hygienic false
section
variable {nm:List Nat} {os:List (List Nat)} {ws:List Int} {ℓ:Loc} {hp:Hp} {N:Nat}
section
theorem lawG_ok{x y z:Nat}(H:Data [x,y,z] os ws){done:List (Nat×Nat)}{b:Bool}(D:PInv N [x,y,z] os ws done ℓ hp)(hN:N≤500)(l13:ℓ[13]?=some (some (.bool b))):
 ∃ℓ' hp',Zne lamF 2 ℓ hp=some (.norm,ℓ',hp')∧PInv (N+15) [x,y,z] os ws done ℓ' hp'∧ℓ'[13]?=some (some (.bool b))∧ℓ'[16]?=some (some (.str [x]))∧ℓ'[17]?=some (some (.str [y]))∧ℓ'[18]?=some (some (.str [z])):=by
 refine ZJ D.said fun bs hS hbs=>?_;have hol:=H.ol;obtain ⟨o,os',rfl⟩:∃o os',os=o::os':=by
  cases os with
  | nil=>cases hol
  | cons o os'=>exact ⟨o,os',rfl⟩
 refine ZJ H.g fun g hg hn=>?_;have ho:=H.ho o (.head _);have ht:toldB o=true:=lae (lae told_fin g hg) o (hn▸ho);refine x3_1 (le3 (perm3 ho)) fun p q r y'=>?_;subst y';have e1:=Zoe ht hS (by lia);have hc:notT (Zek (Zr (Zao) (Zd (ZZ (ZL 7) (Zb (.int 0))) (Zd (ZL 5) Zp)))) ℓ hp=some (false,hp.set 20 (.list ((bs++ZcK++[true]++[true]).map .bool))):=by
  have hB:=D.P.lB;simp only[List.map_cons] at hB;simp[notT,Zek,Zr,Zd,Zp,ZZ,ZL,D.P.c7,D.P.c5,Zb,ZnG.eq_def,hB,e1,truth.eq_def]
 have e2:s221 lamF 2 ℓ hp=_:=Zdk hc;have K:ZX [20] hp (hp.set 20 (MO.list ((bs++ZcK++[true]++[true]).map MV.bool))):=ZX.set (by simp) _ _;have L:PairLoc (((ℓ.set 16 (some (.str [x]))).set 17 (some (.str [y]))).set 18 (some (.str [z]))):=((D.L.set (by decide) _).set (by decide) _).set (by decide) _;have D2:PInv (N+15) [x,y,z] ([p,q,r]::os') ws done _ _:=D.upd K (ZP hS _) (by simp[ZcK];lia) L;have e3:s223 lamF 2 ℓ (hp.set 20 (MO.list ((bs++ZcK++[true]++[true]).map MV.bool)))=some (.norm,(((ℓ.set 16 (some (.str [x]))).set 17 (some (.str [y]))).set 18 (some (.str [z]))),hp.set 20 (MO.list ((bs++ZcK++[true]++[true]).map MV.bool))):=by
  have h8:=D.L.l8;have hn:=D2.nm;simp only[List.map_cons,List.map_nil] at hn;simp only[s223,unlS,Zf,h8,hn,List.length_cons,List.length_nil,if_true,ZeJ,tgL]
 refine p2_6 _ _ ?_ D2 ?_ ?_ ?_ ?_
 · unfold Zne;rw[Zl e2,Zl e3];rfl
 · rw[List.getElem?_set_ne (by decide),List.getElem?_set_ne (by decide),List.getElem?_set_ne (by decide)];exact l13
 · rw[List.getElem?_set_ne (by decide),List.getElem?_set_ne (by decide)];exact List.getElem?_set_self (by rw[D.L.len];decide)
 · rw[List.getElem?_set_ne (by decide)];exact List.getElem?_set_self (by simp[D.L.len])
 · exact List.getElem?_set_self (by simp[D.L.len])
noncomputable def bsr(p:Nat→Bool):Nat→Nat→Nat→Nat
 | 0,lo,_=>lo
 | n+1,lo,hi=>if lo < hi then (if p ((lo+hi) / 2) then bsr p n lo ((lo+hi) / 2) else bsr p n ((lo+hi) / 2+1) hi) else lo
theorem bsr_le{p:Nat→Bool}:∀(n lo hi:Nat),lo≤hi→bsr p n lo hi≤hi:=by
 intro n;induction n with
 | zero=>
  intro lo hi h;exact h
 | succ n ih=>
  intro lo hi h;unfold bsr;split
  · split
    · exact Nat.le_trans (ih _ _ (by lia)) (by lia)
    · exact ih _ _ (by lia)
  · exact h
noncomputable def Zbb(q:Nat)(hp:Hp)(v kv:MV):Prop:=∃id cl kc,hp[q]?=some (.clos id cl kc)∧hp[kc]?=some (.code (Qp id))∧lamF id cl [v] hp=some (kv,hp)
theorem ZeB{f:EF}{a:AF}{q:Nat}{v kv:MV}(h1:f ℓ hp=some (.ref q,hp))(h2:a ℓ hp=some ([v],hp))(h:Zbb q hp v kv):ZgF lamF f a ℓ hp=some (kv,hp):=by
 refine x3_3 h fun id cl kc g1 g2 g3=>?_;unfold ZgF;simp only[h1,g1,h2,g2,if_true,g3]
theorem ZfZ{f:EF}{hp hp1:Hp}{v:MV}(h:f ℓ hp=some (v,hp1)):Zd f Zp ℓ hp=some ([v],hp1):=by
 unfold Zd;rw[h];rfl
theorem Zey{a k:Nat}{xs:List MV}(ha:hp[a]?=some (.list xs))(hk:k < xs.length)(hl:xs.length≤1000):ZnG hp (.ref a) (.int k)=some xs[k]:=by
 have h1:(k:Int)≤100000:=by lia
 simp[ZnG.eq_def,ha,h1,List.getElem?_eq_getElem hk]
theorem ZaM{f1 f2:EF}{hp hp1 hp2:Hp}{o i v:MV}(h1:f1 ℓ hp=some (o,hp1))(h2:f2 ℓ hp1=some (i,hp2))(h3:ZnG hp2 o i=some v):ZZ f1 f2 ℓ hp=some (v,hp2):=by
 unfold ZZ;simp only[h1,h2,h3]
theorem Zjp{n m:Nat}{full:List MV→List MV}{f:SF}{args:List MV}{hp hp':Hp}{ℓ':Loc}{v:MV}(hn:args.length=n)(h:f ((full args).map some++List.replicate m none) hp=some (.ret v,ℓ',hp')):ZgA n m full f args hp=some (v,hp'):=by
 unfold ZgA;rw[if_pos hn,h]
theorem Zht{n m:Nat}{full:List MV→List MV}{f:SF}{args:List MV}{hp hp':Hp}{ℓ':Loc}(hn:args.length=n)(h:f ((full args).map some++List.replicate m none) hp=some (.norm,ℓ',hp')):ZgA n m full f args hp=some (.none,hp'):=by
 unfold ZgA;rw[if_pos hn,h]
theorem ZgJ{a q:Nat}{x:MV}{xs:List MV}{p:Nat→Bool}(ha:hp[a]?=some (.list xs))(hl:xs.length≤1000)(hk:∀i v,xs[i]?=some v→∃kv,Zbb q hp v kv∧ZdE .Lt x kv hp=some (p i)):
 ∀(n lo hi:Nat) (m:Option MV),lo≤hi→hi≤xs.length→hi - lo < n→∃h' m',Zbn (ZS .Lt (Zf 2) (Zf 3)) (Zn (s22 lamF) (Zn (s23 lamF) ZA)) n [some (.ref a),some x,some (.int lo),some (.int hi),some (.ref q),m] hp=some (.norm,[some (.ref a),some x,some (.int (bsr p n lo hi:Nat)),some (.int h'),some (.ref q),m'],hp):=by
 intro n;induction n with
 | zero=>
  intro lo hi m h1 h2 h3;exact sb0 h3
 | succ n ih=>
  intro lo hi m h1 h2 h3;unfold Zbn bsr;by_cases hlt:lo < hi
  · have c1:ZS .Lt (Zf 2) (Zf 3) [some (.ref a),some x,some (.int lo),some (.int hi),some (.ref q),m] hp=some (true,hp):=Zar rfl rfl (by simp[ZdE.eq_def,hlt]);rw[c1];dsimp only;have hm:((lo:Int)+hi) / 2=((lo+hi) / 2:Nat):=by lia
    have e1:s22 lamF [some (.ref a),some x,some (.int lo),some (.int hi),some (.ref q),m] hp=some (.norm,[some (.ref a),some x,some (.int lo),some (.int hi),some (.ref q),some (.int ((lo+hi) / 2:Nat))],hp):=by
     have hb:ZB .FloorDiv (ZB .Add (Zf 2) (Zf 3)) (Zb (.int 2)) [some (.ref a),some x,some (.int lo),some (.int hi),some (.ref q),m] hp=some (.int ((lo+hi) / 2:Nat),hp):=by
      show (if (0:Int) < 2∧(2:Int) < 1000001 then some (MV.int (((lo:Int)+hi) / 2),hp) else none)=_
      rw[if_pos (by decide),hm]
     unfold s22 ZU;rw[hb];rfl
    have hmid:(lo+hi) / 2 < xs.length:=Nat.lt_of_lt_of_le (md2 hlt) h2;obtain ⟨kv,hc,hq⟩:=hk _ _ (List.getElem?_eq_getElem hmid);have c2:ZS .Lt (Zf 1) (ZgF lamF (Zf 4) (Zd (ZZ (Zf 0) (Zf 5)) Zp)) [some (.ref a),some x,some (.int lo),some (.int hi),some (.ref q),some (.int ((lo+hi) / 2:Nat))] hp=some (p ((lo+hi) / 2),hp):=
     Zar rfl (ZeB rfl (ZfZ (ZaM rfl rfl (Zey ha hmid hl))) hc) hq
    rw[Zl e1,if_pos hlt];cases hp2:p ((lo+hi) / 2) with
    | true=>
     rw[hp2] at c2;have e2:s23 lamF [some (.ref a),some x,some (.int lo),some (.int hi),some (.ref q),some (.int ((lo+hi) / 2:Nat))] hp=some (.norm,[some (.ref a),some x,some (.int lo),some (.int ((lo+hi) / 2:Nat)),some (.ref q),some (.int ((lo+hi) / 2:Nat))],hp):=(Zgy c2).trans rfl;rw[Zl e2];exact ih lo _ _ (md1 hlt) (Nat.le_of_lt hmid) (md3 hlt h3)
    | false=>
     rw[hp2] at c2;have e2:s23 lamF [some (.ref a),some x,some (.int lo),some (.int hi),some (.ref q),some (.int ((lo+hi) / 2:Nat))] hp=some (.norm,[some (.ref a),some x,some (.int ((lo+hi) / 2+1:Nat)),some (.int hi),some (.ref q),some (.int ((lo+hi) / 2:Nat))],hp):=(Zgz c2).trans rfl;rw[Zl e2];exact ih _ hi _ (md2 hlt) h2 (md4 hlt h3)
  · have c1:ZS .Lt (Zf 2) (Zf 3) [some (.ref a),some x,some (.int lo),some (.int hi),some (.ref q),m] hp=some (false,hp):=Zar rfl rfl (by simp[ZdE.eq_def];lia);rw[c1,if_neg hlt];exact p2_1 _ _ rfl
theorem Ziw{a q:Nat}{x:MV}{xs:List MV}{p:Nat→Bool}(ha:hp[a]?=some (.list xs))(hl:xs.length≤1000)(hk:∀i v,xs[i]?=some v→∃kv,Zbb q hp v kv∧ZdE .Lt kv x hp=some (!p i)):
 ∀(n lo hi:Nat) (m:Option MV),lo≤hi→hi≤xs.length→hi - lo < n→∃h' m',Zbn (ZS .Lt (Zf 2) (Zf 3)) (Zn (s48 lamF) (Zn (s49 lamF) ZA)) n [some (.ref a),some x,some (.int lo),some (.int hi),some (.ref q),m] hp=some (.norm,[some (.ref a),some x,some (.int (bsr p n lo hi:Nat)),some (.int h'),some (.ref q),m'],hp):=by
 intro n;induction n with
 | zero=>
  intro lo hi m h1 h2 h3;exact sb0 h3
 | succ n ih=>
  intro lo hi m h1 h2 h3;unfold Zbn bsr;by_cases hlt:lo < hi
  · have c1:ZS .Lt (Zf 2) (Zf 3) [some (.ref a),some x,some (.int lo),some (.int hi),some (.ref q),m] hp=some (true,hp):=Zar rfl rfl (by simp[ZdE.eq_def,hlt]);rw[c1];dsimp only;have hm:((lo:Int)+hi) / 2=((lo+hi) / 2:Nat):=by lia
    have e1:s48 lamF [some (.ref a),some x,some (.int lo),some (.int hi),some (.ref q),m] hp=some (.norm,[some (.ref a),some x,some (.int lo),some (.int hi),some (.ref q),some (.int ((lo+hi) / 2:Nat))],hp):=by
     have hb:ZB .FloorDiv (ZB .Add (Zf 2) (Zf 3)) (Zb (.int 2)) [some (.ref a),some x,some (.int lo),some (.int hi),some (.ref q),m] hp=some (.int ((lo+hi) / 2:Nat),hp):=by
      show (if (0:Int) < 2∧(2:Int) < 1000001 then some (MV.int (((lo:Int)+hi) / 2),hp) else none)=_
      rw[if_pos (by decide),hm]
     unfold s48 ZU;rw[hb];rfl
    have hmid:(lo+hi) / 2 < xs.length:=Nat.lt_of_lt_of_le (md2 hlt) h2;obtain ⟨kv,hc,hq⟩:=hk _ _ (List.getElem?_eq_getElem hmid);have c2:ZS .Lt (ZgF lamF (Zf 4) (Zd (ZZ (Zf 0) (Zf 5)) Zp)) (Zf 1) [some (.ref a),some x,some (.int lo),some (.int hi),some (.ref q),some (.int ((lo+hi) / 2:Nat))] hp=some (!p ((lo+hi) / 2),hp):=
     Zar (ZeB rfl (ZfZ (ZaM rfl rfl (Zey ha hmid hl))) hc) rfl hq
    rw[Zl e1,if_pos hlt];cases hp2:p ((lo+hi) / 2) with
    | true=>
     rw[hp2] at c2;have e2:s49 lamF [some (.ref a),some x,some (.int lo),some (.int hi),some (.ref q),some (.int ((lo+hi) / 2:Nat))] hp=some (.norm,[some (.ref a),some x,some (.int lo),some (.int ((lo+hi) / 2:Nat)),some (.ref q),some (.int ((lo+hi) / 2:Nat))],hp):=(Zgz c2).trans rfl;rw[Zl e2];exact ih lo _ _ (md1 hlt) (Nat.le_of_lt hmid) (md3 hlt h3)
    | false=>
     rw[hp2] at c2;have e2:s49 lamF [some (.ref a),some x,some (.int lo),some (.int hi),some (.ref q),some (.int ((lo+hi) / 2:Nat))] hp=some (.norm,[some (.ref a),some x,some (.int ((lo+hi) / 2+1:Nat)),some (.int hi),some (.ref q),some (.int ((lo+hi) / 2:Nat))],hp):=(Zgy c2).trans rfl;rw[Zl e2];exact ih _ hi _ (md2 hlt) h2 (md4 hlt h3)
  · have c1:ZS .Lt (Zf 2) (Zf 3) [some (.ref a),some x,some (.int lo),some (.int hi),some (.ref q),m] hp=some (false,hp):=Zar rfl rfl (by simp[ZdE.eq_def];lia);rw[c1,if_neg hlt];exact p2_1 _ _ rfl
theorem Zpw{a q:Nat}{x:MV}{xs:List MV}{p:Nat→Bool}(ha:hp[a]?=some (.list xs))(hl:xs.length < 100)(hk:∀i v,xs[i]?=some v→∃kv,Zbb q hp v kv∧ZdE .Lt x kv hp=some (p i)):
 ZbS lamF [.ref a,x,.int 0,.none,.ref q] hp=some (.int (bsr p 100 0 xs.length:Nat),hp):=by
 refine x2_1 (ZgJ ha (by lia) hk 100 0 xs.length none (Nat.zero_le _) (Nat.le_refl _) (by lia)) fun h' m' e=>?_;have hl2:xs.length≤100000:=by lia
 have e1:s9 lamF [some (.ref a),some x,some (.int 0),some .none,some (.ref q),none] hp=some (.norm,[some (.ref a),some x,some (.int 0),some .none,some (.ref q),none],hp):=rfl;have e2:s11 lamF [some (.ref a),some x,some (.int 0),some .none,some (.ref q),none] hp=some (.norm,[some (.ref a),some x,some (.int 0),some (.int xs.length),some (.ref q),none],hp):=by
  simp[s11,ifS,ZS,Zf,Zb,ZdE.eq_def,isC.eq_def,Zn,s12,ZU,Zr,Zd,Zp,lenF.eq_def,ha,hl2,ZA]
 have e3:s13 lamF [some (.ref a),some x,some (.int 0),some (.int xs.length),some (.ref q),none] hp=some (.norm,_,hp):=(Zgz (hp1:=hp) rfl).trans ((Zl e).trans rfl);have e4:=(Zl (f2:=Zn (s11 lamF) (Zn (s13 lamF) (Zn (s27 lamF) ZA))) e1).trans ((Zl e2).trans ((Zl e3).trans (ZgU (f1:=s27 lamF) (f2:=ZA) (v:=.int (bsr p 100 0 xs.length:Nat)) rfl)));exact Zjp (f:=ZbN lamF) (full:=id) (args:=[.ref a,x,.int 0,.none,.ref q]) rfl e4
theorem bis_left{a q:Nat}{x:MV}{xs:List MV}{p:Nat→Bool}(ha:hp[a]?=some (.list xs))(hl:xs.length < 100)(hk:∀i v,xs[i]?=some v→∃kv,Zbb q hp v kv∧ZdE .Lt kv x hp=some (!p i)):
 Zcg lamF [.ref a,x,.int 0,.none,.ref q] hp=some (.int (bsr p 100 0 xs.length:Nat),hp):=by
 refine x2_1 (Ziw ha (by lia) hk 100 0 xs.length none (Nat.zero_le _) (Nat.le_refl _) (by lia)) fun h' m' e=>?_;have hl2:xs.length≤100000:=by lia
 have e1:s35 lamF [some (.ref a),some x,some (.int 0),some .none,some (.ref q),none] hp=some (.norm,[some (.ref a),some x,some (.int 0),some .none,some (.ref q),none],hp):=rfl;have e2:s37 lamF [some (.ref a),some x,some (.int 0),some .none,some (.ref q),none] hp=some (.norm,[some (.ref a),some x,some (.int 0),some (.int xs.length),some (.ref q),none],hp):=by
  simp[s37,ifS,ZS,Zf,Zb,ZdE.eq_def,isC.eq_def,Zn,s38,ZU,Zr,Zd,Zp,lenF.eq_def,ha,hl2,ZA]
 have e3:s39 lamF [some (.ref a),some x,some (.int 0),some (.int xs.length),some (.ref q),none] hp=some (.norm,_,hp):=(Zgz (hp1:=hp) rfl).trans ((Zl e).trans rfl);have e4:=(Zl (f2:=Zn (s37 lamF) (Zn (s39 lamF) (Zn (s53 lamF) ZA))) e1).trans ((Zl e2).trans ((Zl e3).trans (ZgU (f1:=s53 lamF) (f2:=ZA) (v:=.int (bsr p 100 0 xs.length:Nat)) rfl)));exact Zjp (f:=Zcc lamF) (full:=id) (args:=[.ref a,x,.int 0,.none,.ref q]) rfl e4
noncomputable def Qg{α:Type}(k:Nat)(x:α)(l:List α):List α:=l.take k++x::l.drop k
theorem ZbV{a q:Nat}{x kx:MV}{xs:List MV}{p:Nat→Bool}(ha:hp[a]?=some (.list xs))(hl:xs.length < 100)(hx:Zbb q hp x kx)(hk:∀i v,xs[i]?=some v→∃kv,Zbb q hp v kv∧ZdE .Lt kx kv hp=some (p i)):
 Zax lamF [.ref a,x,.ref q] hp=some (.none,hp.set a (.list (Qg (bsr p 100 0 xs.length) x xs))):=by
 have hb:=Zpw ha hl hk;have hle:bsr p 100 0 xs.length≤xs.length:=bsr_le _ _ _ (Nat.zero_le _);have e1:s3 lamF [some (.ref a),some x,some (.int 0),some .none,some (.ref q)] hp=some (.norm,[some (.ref a),some x,some (.int (bsr p 100 0 xs.length:Nat)),some .none,some (.ref q)],hp):=by
  refine (Zgz (hp1:=hp) rfl).trans ?_;have hv:ZgF lamF (Zf 4) (Zd (Zf 1) Zp) [some (.ref a),some x,some (.int 0),some .none,some (.ref q)] hp=some (kx,hp):=ZeB rfl rfl hx;simp only[Zn,s6,ZU,ZbX,Zd,Zp,hv,Zf,List.getElem?_cons_zero,List.getElem?_cons_succ,List.cons_append,List.nil_append,hb,ZA,List.set_cons_zero,List.set_cons_succ]
 have e2:s7 lamF [some (.ref a),some x,some (.int (bsr p 100 0 xs.length:Nat)),some .none,some (.ref q)] hp=some (.norm,[some (.ref a),some x,some (.int (bsr p 100 0 xs.length:Nat)),some .none,some (.ref q)],hp.set a (.list (Qg (bsr p 100 0 xs.length) x xs))):=by
  have h1:((bsr p 100 0 xs.length:Nat):Int)≤100000:=by lia
  have h2:xs.length≤100000:=by lia
  have h3:min (bsr p 100 0 xs.length) xs.length=bsr p 100 0 xs.length:=by lia
  simp[s7,Zgu,ZV,Zf,Zd,Zp,tyOf.eq_def,ha,ZfL.eq_def,h1,h2,h3,Qg]
 have e4:=(Zl (f2:=Zn (s7 lamF) ZA) e1).trans ((Zl e2).trans (rfl:ZA _ _=_));exact Zht (f:=ZbM lamF) (full:=fullI) (args:=[.ref a,x,.ref q]) rfl e4
theorem Zch{a q:Nat}{x kx:MV}{xs:List MV}{p:Nat→Bool}(ha:hp[a]?=some (.list xs))(hl:xs.length < 100)(hx:Zbb q hp x kx)(hk:∀i v,xs[i]?=some v→∃kv,Zbb q hp v kv∧ZdE .Lt kv kx hp=some (!p i)):
 ZaD lamF [.ref a,x,.ref q] hp=some (.none,hp.set a (.list (Qg (bsr p 100 0 xs.length) x xs))):=by
 have hb:=bis_left ha hl hk;have hle:bsr p 100 0 xs.length≤xs.length:=bsr_le _ _ _ (Nat.zero_le _);have e1:s29 lamF [some (.ref a),some x,some (.int 0),some .none,some (.ref q)] hp=some (.norm,[some (.ref a),some x,some (.int (bsr p 100 0 xs.length:Nat)),some .none,some (.ref q)],hp):=by
  refine (Zgz (hp1:=hp) rfl).trans ?_;have hv:ZgF lamF (Zf 4) (Zd (Zf 1) Zp) [some (.ref a),some x,some (.int 0),some .none,some (.ref q)] hp=some (kx,hp):=ZeB rfl rfl hx;simp only[Zn,s32,ZU,ZbX,Zd,Zp,hv,Zf,List.getElem?_cons_zero,List.getElem?_cons_succ,List.cons_append,List.nil_append,hb,ZA,List.set_cons_zero,List.set_cons_succ]
 have e2:s33 lamF [some (.ref a),some x,some (.int (bsr p 100 0 xs.length:Nat)),some .none,some (.ref q)] hp=some (.norm,[some (.ref a),some x,some (.int (bsr p 100 0 xs.length:Nat)),some .none,some (.ref q)],hp.set a (.list (Qg (bsr p 100 0 xs.length) x xs))):=by
  have h1:((bsr p 100 0 xs.length:Nat):Int)≤100000:=by lia
  have h2:xs.length≤100000:=by lia
  have h3:min (bsr p 100 0 xs.length) xs.length=bsr p 100 0 xs.length:=by lia
  simp[s33,Zgu,ZV,Zf,Zd,Zp,tyOf.eq_def,ha,ZfL.eq_def,h1,h2,h3,Qg]
 have e4:=(Zl (f2:=Zn (s33 lamF) ZA) e1).trans ((Zl e2).trans (rfl:ZA _ _=_));exact Zht (f:=Zcb lamF) (full:=fullI) (args:=[.ref a,x,.ref q]) rfl e4
noncomputable def Qt(kt:Nat)(P:Addr)(q:Str)(hp:Hp):Prop:=∃es:List ((Nat×Nat)×Nat),hp[kt]?=some (.tab P es)∧∀x kc,es.lookup x=some kc→24≤kc∧hp[kc]?=some (.code q)
theorem Qt.keep{kt:Nat}{P:Addr}{q:Str}{hp hp':Hp}{S:List Nat}(T:Qt kt P q hp)(K:ZX S hp hp')(h:kt∉S)(hS:∀k∈S,k < 24):Qt kt P q hp':=by
 refine ZJ T fun es h1 h2=>?_;exact Qd es (K.get h1 h) (fun x kc e=>⟨(h2 x kc e).1,K.get (h2 x kc e).2 fun hm=>by have:=hS _ hm;have:=(h2 x kc e).1;lia⟩)
theorem Zcm{id kt:Nat}{P:Addr}{pos:Pos}{cl:List (Str×Nat)}(T:Qt kt P (Qp id) hp)(h24:24≤hp.length)(hkt:kt < 24):
 ∃r kc hp',ZkK id kt P pos cl ℓ hp=some (.ref r,hp')∧ZX [kt] hp hp'∧hp'[r]?=some (.clos id cl kc)∧hp'[kc]?=some (.code (Qp id))∧Qt kt P (Qp id) hp'∧hp.length≤r:=by
 refine ZJ T fun es h1 h2=>?_;unfold ZkK;rw[h1];simp only[if_true];cases e:es.lookup (pos.line,pos.col) with
 | some kc=>
  refine p3_6 _ kc _ rfl (ZX.app _ _ _) (Zv _ _) (Zk (h2 _ _ e).2 _) ⟨es,Zk h1 _,fun x kc e=>⟨(h2 x kc e).1,Zk (h2 x kc e).2 _⟩⟩ (Nat.le_refl _)
 | none=>
  have hl:(hp.set kt (.tab P (((pos.line,pos.col),hp.length)::es))).length=hp.length:=by simp
  refine p3_6 _ hp.length _ rfl ((ZX.set (by simp) _ _).trans (ZX.app _ _ _)) ?_ ?_ ?_ (by lia)
  · rw[List.getElem?_append_right (by lia)];simp
  · rw[List.getElem?_append_right (by lia)];simp
  · refine Qd _ (Zk (ZP h1 _) _) (fun x kc e=>?_);by_cases hx:x=(pos.line,pos.col)
    · subst hx;simp[List.lookup] at e;subst e;refine ⟨h24,?_⟩;rw[List.getElem?_append_right (by lia)];simp
    · have:(x==(pos.line,pos.col))=false:=by simpa using hx
      simp only[List.lookup,this] at e;have:=h2 x kc e;exact ⟨this.1,Zk (Zo this.2 (by lia) _) _⟩
end
end
set_option tactic.hygienic true
set_option tactic.hygienic false
section
variable {nm:List Nat} {os:List (List Nat)} {ws:List Int} {ℓ:Loc} {hp:Hp} {N:Nat}
section
theorem Zkb:∀(bl:List Bool) (ws:List Int),bl.length=ws.length→hv bl ws+hv (bl.map (!·)) ws=ws.sum
 | [],[],_=>rfl
 | true::bl,w::ws,h=>by
  have:=Zkb bl ws (by simpa using h);simp only[hv,sel,List.map_cons,Bool.not_true,List.sum_cons] at this ⊢;lia
 | false::bl,w::ws,h=>by
  have:=Zkb bl ws (by simpa using h);simp only[hv,sel,List.map_cons,Bool.not_false,List.sum_cons] at this ⊢;lia
theorem ZiR:∀(bl:List Bool) (ws:List Int),(∀b∈bl,b=false)→hv bl ws=0
 | [],ws,_=>by simp[hv,sel]
 | true::bl,ws,h=>by cases h true (.head _)
 | false::bl,[],h=>by simp[hv,sel]
 | false::bl,w::ws,h=>by
  have:=ZiR bl ws fun b hb=>h b (.tail _ hb);simpa [hv,sel] using this
theorem ZnQ:(letters.all fun g=>(permsOf (namesOf g)).all fun o=>(namesOf g).all fun a=>(namesOf g).all fun b=>(ZY o a b==if a=b then false else !ZY o b a))=true:=by decide +kernel
theorem Data.before(H:Data nm os ws){a b:Nat}(ha:a∈nm)(hb:b∈nm):∀o∈os,ZY o a b=if a=b then false else !ZY o b a:=by
 refine ZJ H.g fun g hg yq=>?_;subst yq;intro o ho;exact eq_of_beq (lae (lae (lae (lae ZnQ g hg) o (H.ho o ho)) a ha) b hb)
theorem Data.compl(H:Data nm os ws){a b:Nat}(ha:a∈nm)(hb:b∈nm)(hab:a≠b):hv (ahd os a b) ws+hv (ahd os b a) ws=511:=by
 have h1:ahd os b a=(ahd os a b).map (!·):=by
  simp only[ahd,List.map_map];apply List.map_congr_left
  intro o ho;rw[H.before hb ha o ho,if_neg (Ne.symm hab)];rfl
 rw[h1,Zkb _ _ (by simp[ahd,H.ol,H.wl]),H.sm]
theorem Data.same(H:Data nm os ws){a:Nat}(ha:a∈nm):hv (ahd os a a) ws=0:=by
 apply ZiR
 intro b hb;simp only[ahd,List.mem_map] at hb;refine ZJ hb fun o ho yq=>?_;subst yq;rw[H.before ha ha o ho,if_pos rfl]
noncomputable def Qh(os:List (List Nat))(ws:List Int)(a b:Nat):Bool:=decide (256≤hv (ahd os a b) ws)
noncomputable def laidT(T:Nat→Nat→Bool)(cs:List Nat):List Nat:=cs.foldl (fun row new=>Qg (bsr (fun i=>T new (row.getD i 0)) 100 0 row.length) new row) []
theorem Zhn(T:Nat→Nat→Bool)(cs:List Nat)(new:Nat):laidT T (cs++[new])=Qg (bsr (fun i=>T new ((laidT T cs).getD i 0)) 100 0 (laidT T cs).length) new (laidT T cs):=by
 simp[laidT,List.foldl_append]
theorem ZfG{α:Type}{k:Nat}{x y:α}{l:List α}(h:y∈Qg k x l):y=x∨y∈l:=by
 unfold Qg at h;rcases List.mem_append.mp h with h | h
 · exact .inr (List.mem_of_mem_take h)
 · rcases lmc h with h | h
   · exact .inl h
   · exact .inr (List.mem_of_mem_drop h)
theorem ZfN{α:Type}{k:Nat}{x:α}{l:List α}:(Qg k x l).length=l.length+1:=by
 unfold Qg;rw[List.length_append,List.length_cons,← Nat.add_assoc,← List.length_append,List.take_append_drop]
theorem ZfM{α β:Type}(f:α→β)(k:Nat)(x:α)(l:List α):(Qg k x l).map f=Qg k (f x) (l.map f):=by
 unfold Qg;simp[List.map_take,List.map_drop]
theorem ZiZ(T:Nat→Nat→Bool)(n:Nat):∀cs:List Nat,cs.length=n→(∀y∈laidT T cs,y∈cs)∧(laidT T cs).length=cs.length:=by
 induction n with
 | zero=>
  intro cs h;obtain rfl:=List.length_eq_zero_iff.mp h;exact ⟨fun y hy=>by simp[laidT] at hy,rfl⟩
 | succ n ih=>
  intro cs h;have hne:cs≠[]:=by rintro rfl;simp at h
  refine Qe (ih cs.dropLast (by simp;lia)) fun h1 h2=>?_;have hc:=List.dropLast_concat_getLast hne;generalize cs.getLast hne=z at hc;rw[← hc,Zhn];refine ⟨fun y hy=>?_,?_⟩
  · rcases ZfG hy with rfl | hy
    · simp
    · exact List.mem_append_left _ (h1 y hy)
  · rw[ZfN,h2];simp
structure Ahead(kw:Nat)(nm:List Nat)(os:List (List Nat))(ws:List Int)(hp:Hp):Prop where
 d:∃es:List (List Nat×MV),hp[21]?=some (.dict es)∧∀a∈nm,∀b∈nm,∃r,es.lookup [a,b]=some (.ref r)∧r≠kw∧24≤r∧hp[r]?=some (.list ((ahd os a b).map .bool))
 w:hp[kw]?=some (.list (ws.map .int))
theorem Ahead.keepL{kw:Nat}{hp hp':Hp}{S:List Nat}(A:Ahead kw nm os ws hp)(K:ZX S hp hp')(hS:∀k∈S,k=0∨hp.length≤k)(hk:kw≠0):Ahead kw nm os ws hp':=by
 have hg:∀k mo,k≠0→hp[k]?=some mo→hp'[k]?=some mo:=fun k mo h0 e=>K.get e fun hm=>by
  have:=Zac e;rcases hS k hm with h | h<;>lia
 refine ZJ A.d fun es h1 h2=>?_;exact ⟨⟨es,hg _ _ (by decide) h1,fun a ha b hb=>by
  refine Zgv (h2 a ha b hb) fun r e1 e2 e3 e4=>?_;exact ⟨r,e1,e2,e3,hg _ _ (by lia) e4⟩⟩,hg _ _ hk A.w⟩
theorem istT(i:Int)(hp:Hp):Zau [.int i] hp=some (.bool (decide (i < 256)),hp):=ZaO (by kernel_rfl) hp
theorem istN(i:Int)(hp:Hp):Zaj [.int i] hp=some (.bool (decide (256≤i)),hp):=ZaO (by kernel_rfl) hp
noncomputable def clL(n:Nat):List (Str×Nat):=[((Str.ofString "ahead"),(n+2)),((Str.ofString "new"),n),((Str.ofString "weights"),(n+1))]
theorem clL_a(n:Nat):(clL n).lookup (Str.ofString "ahead")=some (n+2):=by kernel_rfl
theorem clL_n(n:Nat):(clL n).lookup (Str.ofString "new")=some n:=by kernel_rfl
theorem clL_w(n:Nat):(clL n).lookup (Str.ofString "weights")=some (n+1):=by kernel_rfl
theorem ZoL{kw n:Nat}{new old:Nat}(H:Data nm os ws)(A:Ahead kw nm os ws hp)(hn:new∈nm)(ho:old∈nm)(c0:hp[n]?=some (.cell (some (.str [new]))))(c1:hp[n+1]?=some (.cell (some (.ref kw))))(c2:hp[n+2]?=some (.cell (some (.ref 21)))):
 lamF 0 (clL n) [.str [old]] hp=some (.bool (decide (hv (ahd os old new) ws < 256)),hp):=by
 refine ZJ A.d fun es h1 h2=>?_;refine Zgv (h2 old ho new hn) fun r e1 e2 e3 e4=>?_;have hh:Zaq [.ref r,.ref kw] hp=some (.int (hv (ahd os old new) ws),hp):=ZdC e4 A.w e2 (by simp[ahd,H.ol,H.wl]) (by rw[H.wl];decide) H.wr;unfold lamF;simp only[clL_a,clL_n,clL_w];simp[Zpg,Zr,Zd,Zp,ZZ,ZL,ZB,Zf,c0,c1,c2,Zix.eq_def,ZnG.eq_def,h1,e1,hh,istT]
theorem ZoK{kw n:Nat}{new old:Nat}(H:Data nm os ws)(A:Ahead kw nm os ws hp)(hn:new∈nm)(ho:old∈nm)(c0:hp[n]?=some (.cell (some (.str [new]))))(c1:hp[n+1]?=some (.cell (some (.ref kw))))(c2:hp[n+2]?=some (.cell (some (.ref 21)))):
 lamF 1 (clL n) [.str [old]] hp=some (.bool (decide (256≤hv (ahd os new old) ws)),hp):=by
 refine ZJ A.d fun es h1 h2=>?_;refine Zgv (h2 new hn old ho) fun r e1 e2 e3 e4=>?_;have hh:Zaq [.ref r,.ref kw] hp=some (.int (hv (ahd os new old) ws),hp):=ZdC e4 A.w e2 (by simp[ahd,H.ol,H.wl]) (by rw[H.wl];decide) H.wr;unfold lamF;simp only[clL_a,clL_n,clL_w];simp[Zpf,Zr,Zd,Zp,ZZ,ZL,ZB,Zf,c0,c1,c2,Zix.eq_def,ZnG.eq_def,h1,e1,hh,istN]
theorem Qt.set{kt a:Nat}{P:Addr}{q:Str}{mo:MO}(T:Qt kt P q hp)(ha:hp[a]?=some mo)(h1:∀q,mo≠.code q)(h2:a≠kt)(m:MO):Qt kt P q (hp.set a m):=by
 refine ZJ T fun es e1 e2=>?_;refine Qd es (Zo e1 h2 _) (fun x kc e=>⟨(e2 x kc e).1,Zo (e2 x kc e).2 ?_ _⟩);rintro rfl
 rw[(e2 x _ e).2] at ha;exact h1 q (Option.some.inj ha).symm
theorem Qt.app{kt:Nat}{P:Addr}{q:Str}(T:Qt kt P q hp)(l:Hp):Qt kt P q (hp++l):=by
 refine ZJ T fun es e1 e2=>?_;exact Qd es (Zk e1 l) (fun x kc e=>⟨(e2 x kc e).1,Zk (e2 x kc e).2 l⟩)
theorem ZoM{kw n c:Nat}{bl:Bool}{h:Hp}{row:List Nat}{new:Nat}{d:Option MV}(H:Data nm os ws)(A:Ahead kw nm os ws h)(hn:new∈nm)(hr:∀y∈row,y∈nm∧y≠new)(hl:row.length≤50)(hkw:kw≠0∧kw < n)
 (T:Qt 0 196 (Qp 0) h) (h24:24≤n) (hlen:n+4≤h.length) (c0:h[n]?=some (.cell (some (.str [new])))) (c1:h[n+1]?=some (.cell (some (.ref kw)))) (c2:h[n+2]?=some (.cell (some (.ref 21)))) (c3:h[n+3]?=some (.list (row.map fun a=>.str [a]))):
 ∃h',Zn (s166 lamF n) (Zn (s170 lamF n) ZA) [some (.ref c),some (.bool bl),some (.ref (n+3)),d] h=some (.norm,[some (.ref c),some (.bool bl),some (.ref (n+3)),some .none],h')∧ZX [0,n,n+3] h h'∧Qt 0 196 (Qp 0) h'∧h'[n]?=some (.cell (some (.str [new])))∧
  h'[n+3]?=some (.list ((Qg (bsr (fun i=>Qh os ws new (row.getD i 0)) 100 0 row.length) new row).map fun a=>.str [a])):=by
 have hrow:∀i v,(row.map fun a=>MV.str [a])[i]?=some v→∃old,old∈nm∧old≠new∧v=.str [old]∧row.getD i 0=old:=by
  intro i v hv;rw[List.getElem?_map] at hv;cases e:row[i]? with
  | none=>rw[e] at hv;cases hv
  | some old=>
   rw[e] at hv;refine oi1 hv fun yq=>?_;subst yq;have:=hr old (List.mem_of_getElem? e);exact p1_4 old this.1 this.2 rfl (by simp[e])
 have fin:∀(id:Nat) (pos:Pos) (F:FF),Qp id=Qp 0→(∀(q:Nat) (h1:Hp) (kc:Nat),ZX [0] h h1→h1[q]?=some (.clos id (clL n) kc)→h1[kc]?=some (.code (Qp id))→F [.ref (n+3),.str [new],.ref q] h1=some (.none,h1.set (n+3) (.list (Qg (bsr (fun i=>Qh os ws new (row.getD i 0)) 100 0 row.length) (.str [new]) (row.map fun a=>.str [a])))))→
  ∃h',ZU 3 (ZbX F (Zd (Zf 2) (Zd (ZL n) Zp)) (ZkK id 0 196 pos (clL n))) [some (.ref c),some (.bool bl),some (.ref (n+3)),d] h=some (.norm,[some (.ref c),some (.bool bl),some (.ref (n+3)),some .none],h')∧ZX [0,n,n+3] h h'∧Qt 0 196 (Qp 0) h'∧h'[n]?=some (.cell (some (.str [new])))∧
  h'[n+3]?=some (.list ((Qg (bsr (fun i=>Qh os ws new (row.getD i 0)) 100 0 row.length) new row).map fun a=>.str [a])):=by
  intro id pos F hid hF;rw[← hid] at T;refine x3_6 (Zcm (id:=id) (pos:=pos) (cl:=clL n) (ℓ:=[some (.ref c),some (.bool bl),some (.ref (n+3)),d]) T (by lia) (by decide)) fun q kc h1 e1 K1 g1 g2 T1 hq=>?_;have e2:=hF q h1 kc K1 g1 g2;have g3:=K1.get c3 (by simp);refine p1_5 (h1.set (n+3) (.list (Qg (bsr (fun i=>Qh os ws new (row.getD i 0)) 100 0 row.length) (.str [new]) (row.map fun a=>.str [a])))) ?_ ((K1.mono (by simp)).trans (ZX.set (k:=n+3) (by simp) _ _)) ?_ ?_ ?_;rotate_left 3
  · rw[ZfM];exact ZP g3 _
  · unfold ZU ZbX;simp only[Zd,Zp,Zf,ZL,c0,List.getElem?_cons_zero,List.getElem?_cons_succ,e1,List.cons_append,List.nil_append,e2,List.set_cons_zero,List.set_cons_succ]
  · rw[← hid];exact T1.set g3 (by simp) (by lia) _
  · exact Zo (K1.get c0 (by simp;lia)) (by lia) _
 have hA:∀{h1:Hp},ZX [0] h h1→Ahead kw nm os ws h1:=fun K=>A.keepL K (by simp) hkw.1;have key:∃h',s166 lamF n [some (.ref c),some (.bool bl),some (.ref (n+3)),d] h=some (.norm,[some (.ref c),some (.bool bl),some (.ref (n+3)),some .none],h')∧ZX [0,n,n+3] h h'∧Qt 0 196 (Qp 0) h'∧h'[n]?=some (.cell (some (.str [new])))∧
  h'[n+3]?=some (.list ((Qg (bsr (fun i=>Qh os ws new (row.getD i 0)) 100 0 row.length) new row).map fun a=>.str [a])):=by
  cases bl with
  | true=>
   obtain ⟨h',e,r⟩:=fin 0 ⟨167,45,167,106⟩ (ZaD lamF) rfl (fun q h1 kc K1 g1 g2=>by
    have g:∀old,old∈nm→Zbb q h1 (.str [old]) (.bool (decide (hv (ahd os old new) ws < 256))):=fun old ho=>⟨0,clL n,kc,g1,g2,ZoL H (hA K1) hn ho (K1.get c0 (by simp;lia)) (K1.get c1 (by simp)) (K1.get c2 (by simp))⟩;have gx:=g new hn;rw[H.same hn] at gx;have:=Zch (p:=fun i=>Qh os ws new (row.getD i 0)) (K1.get c3 (by simp)) (by simp;lia) gx (fun i v hv'=>by
     refine Zgv (hrow i v hv') fun old ho hne yq hgd=>?_;subst yq;refine Qd _ (g old ho) ?_;have:=H.compl ho hn hne;rw[hgd];by_cases hh:hv (ahd os old new) ws < 256
     · have:256≤hv (ahd os new old) ws:=by lia
       simp[ZdE.eq_def,Qh,hh,this,b2]
     · have:¬256≤hv (ahd os new old) ws:=by lia
       simp[ZdE.eq_def,Qh,hh,this,b2])
    simpa using this)
   exact Qd h' ((Zgy (hp1:=h) rfl).trans ((Zl e).trans rfl)) r
  | false=>
   obtain ⟨h',e,r⟩:=fin 1 ⟨169,46,169,110⟩ (Zax lamF) rfl (fun q h1 kc K1 g1 g2=>by
    have g:∀old,old∈nm→Zbb q h1 (.str [old]) (.bool (decide (256≤hv (ahd os new old) ws))):=fun old ho=>⟨1,clL n,kc,g1,g2,ZoK H (hA K1) hn ho (K1.get c0 (by simp;lia)) (K1.get c1 (by simp)) (K1.get c2 (by simp))⟩;have gx:=g new hn;rw[H.same hn] at gx;have:=ZbV (p:=fun i=>Qh os ws new (row.getD i 0)) (K1.get c3 (by simp)) (by simp;lia) gx (fun i v hv'=>by
     refine Zgv (hrow i v hv') fun old ho hne yq hgd=>?_;subst yq;refine Qd _ (g old ho) ?_;rw[hgd];by_cases hh:256≤hv (ahd os new old) ws
     · simp[ZdE.eq_def,Qh,hh,b2]
     · simp[ZdE.eq_def,Qh,hh,b2])
    simpa using this)
   exact Qd h' ((Zgz (hp1:=h) rfl).trans ((Zl e).trans rfl)) r
 refine ZJ key fun h' e r=>?_;exact Qd h' ((Zl e).trans rfl) r
theorem ZoN{kw c:Nat}{bl:Bool}{cs:List Nat}(H:Data nm os ws)(A:Ahead kw nm os ws hp)(hc:hp[c]?=some (.list (cs.map fun a=>.str [a])))(hc0:c≠0)(hkw:kw≠0)(hm:∀y∈cs,y∈nm)(nd:cs.Nodup)(hl:cs.length≤50)
 (T:Qt 0 196 (Qp 0) hp) (h24:24≤hp.length):
 ∃r hp',ZbF lamF [.ref c,.ref 21,.ref kw,.bool bl] hp=some (.ref r,hp')∧ZX [0] hp hp'∧Qt 0 196 (Qp 0) hp'∧hp'[r]?=some (.list ((laidT (Qh os ws) cs).map fun a=>.str [a]))∧hp.length≤r:=by
 have hkl:=Zac A.w;have hcl:=Zac hc;have K0:ZX [] hp (hp++[.cell none,.cell (some (.ref kw)),.cell (some (.ref 21)),.list []]):=ZX.app _ _ _;have gn:∀k,(hp++[MO.cell none,.cell (some (.ref kw)),.cell (some (.ref 21)),.list []])[hp.length+k]?=[MO.cell none,.cell (some (.ref kw)),.cell (some (.ref 21)),.list []][k]?:=fun k=>by rw[List.getElem?_append_right (by lia)];simp
 have h0len:(hp++[MO.cell none,.cell (some (.ref kw)),.cell (some (.ref 21)),.list []]).length=hp.length+4:=by simp
 have T0:=T.app [.cell none,.cell (some (.ref kw)),.cell (some (.ref 21)),.list []];have e1:s164 lamF hp.length [some (.ref c),some (.bool bl),none,none] (hp++[.cell none,.cell (some (.ref kw)),.cell (some (.ref 21))])=some (.norm,[some (.ref c),some (.bool bl),some (.ref (hp.length+3)),none],hp++[.cell none,.cell (some (.ref kw)),.cell (some (.ref 21)),.list []]):=by
  simp[s164,ZU,ZH,Zp]
 generalize hp++[.cell none,.cell (some (.ref kw)),.cell (some (.ref 21)),.list []]=h0 at e1 K0 gn h0len T0;have:=Zaw (k:=c) (N:=100) (it:=itE (Zf 0)) (tg:=tgC hp.length) (f:=Zn (s166 lamF hp.length) (Zn (s170 lamF hp.length) ZA)) (xs:=cs.map fun a=>.str [a]) (ℓ:=[some (.ref c),some (.bool bl),some (.ref (hp.length+3)),none]) (hp:=h0) (hp0:=h0)
  (I:=fun i ℓ h=>(∃d,ℓ=[some (.ref c),some (.bool bl),some (.ref (hp.length+3)),d])∧ZX [0,hp.length,hp.length+3] h0 h∧Qt 0 196 (Qp 0) h∧(∃v,h[hp.length]?=some (.cell v))∧h[hp.length+3]?=some (.list ((laidT (Qh os ws) (cs.take i)).map fun a=>.str [a])))
  (by simp[itE,Zf,K0.get hc (by simp)]) (fun i ℓ h I=>I.2.1.get (K0.get hc (by simp)) (by simp;lia))
  (fun i v ℓ h hx I=>by
   refine x0_5 I fun yq K T yr c3=>?_;obtain ⟨d,rfl⟩:=yq;obtain ⟨u,c0⟩:=yr;rw[List.getElem?_map] at hx;cases hb:cs[i]? with
   | none=>rw[hb] at hx;cases hx
   | some new=>
    rw[hb] at hx;refine oi1 hx fun yq=>?_;subst yq;have hnm:=hm new (List.mem_of_getElem? hb);have e2:tgC hp.length (MV.str [new]) [some (.ref c),some (.bool bl),some (.ref (hp.length+3)),d] h=some ([some (.ref c),some (.bool bl),some (.ref (hp.length+3)),d],h.set hp.length (.cell (some (.str [new])))):=by simp[tgC,Zlr,c0]
    have K1:ZX [0,hp.length,hp.length+3] h (h.set hp.length (.cell (some (.str [new])))):=ZX.set (by simp) _ _;have K01:ZX [0,hp.length,hp.length+3] hp (h.set hp.length (.cell (some (.str [new])))):=((K0.mono (by simp)).trans K).trans K1;have A1:Ahead kw nm os ws (h.set hp.length (.cell (some (.str [new])))):=A.keepL K01 (by simp) hkw;have T1:=T.set c0 (by simp) (by lia) (.cell (some (.str [new])));have g0:=ZP c0 (.cell (some (.str [new])));have g1:=K1.get (K.get (gn 1) (by simp)) (by simp);have g2:=K1.get (K.get (gn 2) (by simp)) (by simp);have g3:=Zo c3 (by lia:hp.length≠hp.length+3) (.cell (some (.str [new])));have hlen:=K1.1;have hlen0:=K.1;generalize h.set hp.length (.cell (some (.str [new])))=h1 at e2 K1 K01 A1 T1 g0 g1 g2 g3 hlen;have ht:=ZiZ (Qh os ws) _ (cs.take i) rfl;refine x1_5 (ZoM (c:=c) (bl:=bl) (d:=d) H A1 hnm (fun y hy=>⟨hm y (List.mem_of_mem_take (ht.1 y hy)),fun e=>Zid nd hb (e▸ht.1 y hy)⟩) (by rw[ht.2];simp;lia) ⟨hkw,hkl⟩ T1 h24 (by lia) g0 g1 g2 g3) fun h2 e3 K2 T2 g5 g6=>?_;refine p4_7 _ h1 _ h2 e2 e3 ⟨_,rfl⟩ ((K.trans K1).trans K2) T2 ⟨_,g5⟩ ?_;rw[Zav hb,Zhn];exact g6) ⟨⟨_,rfl⟩,ZX.refl _ _,T0,⟨_,gn 0⟩,by simpa [laidT] using gn 3⟩ (by simp;lia)
 refine x2_6 this fun ℓ' h' e2 yq K T' yr c3=>?_;obtain ⟨d,rfl⟩:=yq;obtain ⟨u,c0⟩:=yr;rw[List.length_map,List.take_length] at c3;refine p2_5 (hp.length+3) h' ?_ ?_ T' c3 (by lia)
 · have e4:=(Zl (f2:=Zn (s165 lamF hp.length) (Zn (s172 lamF hp.length) ZA)) e1).trans ((Zl (f1:=s165 lamF hp.length) e2).trans (ZgU (f1:=s172 lamF hp.length) (f2:=ZA) (v:=.ref (hp.length+3)) rfl));exact ZfW (f:=ZcX lamF) (args:=[.ref c,.ref 21,.ref kw,.bool bl]) rfl e4
 · refine ⟨by have:=K.1;lia,fun k mo hk e=>?_⟩;have:=Zac e;exact K.get (K0.get e (by simp)) (by simp at hk ⊢;lia)
end
end
set_option tactic.hygienic true
set_option tactic.hygienic false
section
variable {nm:List Nat} {os:List (List Nat)} {ws:List Int} {ℓ:Loc} {hp:Hp} {N:Nat}
section
theorem Zdq(p:Nat→Bool)(n lo hi:Nat):bsr p (n+1) lo hi=if lo < hi then (if p ((lo+hi) / 2) then bsr p n lo ((lo+hi) / 2) else bsr p n ((lo+hi) / 2+1) hi) else lo:=by
 rw[bsr]
theorem bsr_0(p:Nat→Bool):bsr p 100 0 0=0:=by
 rw[show (100:Nat)=99+1 from rfl,Zdq];simp
theorem bsr_1(p:Nat→Bool):bsr p 100 0 1=if p 0 then 0 else 1:=by
 rw[show (100:Nat)=98+1+1 from rfl,Zdq];cases h:p 0<;>simp[Zdq,h]
theorem bsr_2(p:Nat→Bool):bsr p 100 0 2=if p 1 then (if p 0 then 0 else 1) else 2:=by
 rw[show (100:Nat)=97+1+1+1 from rfl,Zdq];cases h:p 0<;>cases h1:p 1<;>simp[Zdq,h,h1]
theorem laidT3(T:Nat→Nat→Bool)(p q r:Nat):laidT T [p,q,r]=if T q p then (if T r p then (if T r q then [r,q,p] else [q,r,p]) else [q,p,r]) else (if T r q then (if T r p then [r,p,q] else [p,r,q]) else [p,q,r]):=by
 simp only[laidT,List.foldl_cons,List.foldl_nil,List.length_nil,bsr_0];have h1:Qg 0 p ([]:List Nat)=[p]:=rfl;rw[h1];simp only[List.length_cons,List.length_nil,Nat.zero_add,bsr_1,List.getD_cons_zero];have h2:Qg (if T q p=true then 0 else 1) q [p]=if T q p then [q,p] else [p,q]:=by cases T q p<;>rfl
 rw[h2];cases T q p with
 | true=>
  simp only[if_true,List.length_cons,List.length_nil,Nat.zero_add,Nat.reduceAdd,bsr_2,List.getD_cons_zero,List.getD_cons_succ];cases T r p<;>cases T r q<;>rfl
 | false=>
  simp only[Bool.false_eq_true,if_false,List.length_cons,List.length_nil,Nat.zero_add,Nat.reduceAdd,bsr_2,List.getD_cons_zero,List.getD_cons_succ];cases T r p<;>cases T r q<;>rfl
noncomputable def Zgw(T:Nat→Nat→Bool)(nm:List Nat)(a:Nat):Nat:=(nm.filter (T a)).length
noncomputable def ZcJ(T:Nat→Nat→Bool)(nm:List Nat):List Nat:=[2,1,0].flatMap fun c=>nm.filter fun a=>Zgw T nm a==c
noncomputable def pk3(a b c i:Nat):Nat:=match i with
 | 0=>a
 | 1=>b
 | _=>c
noncomputable def ZkL(a b c:Bool):List Nat:=if a then (if b then (if c then [2,1,0] else [1,2,0]) else [1,0,2]) else (if c then (if b then [2,0,1] else [0,2,1]) else [0,1,2])
noncomputable def ZjX(a b c:Bool):List Nat:=[2,1,0].flatMap fun n=>([(0,a.toNat+b.toNat),(1,(!a).toNat+c.toNat),(2,(!b).toNat+(!c).toNat)].filter fun p=>p.2==n).map (·.1)
noncomputable def pkI(a b c i:Nat):Nat:=if i=0 then a else if i=1 then b else c
theorem ZdB(T:Nat→Nat→Bool)(p q r:Nat):laidT T [p,q,r]=(ZkL (T q p) (T r p) (T r q)).map (pk3 p q r):=by
 rw[laidT3];cases T q p<;>cases T r p<;>cases T r q<;>rfl
theorem ZcC{I W:List Nat}{f g s:Nat→Nat}(k:I.map s=W)(h:∀i,f i=g (s i)):I.map f=W.map g:=by
 rw[← k,List.map_map];exact List.map_congr_left fun i υ=>h i
theorem laid_key:∀a b c:Bool,(a&&c&&!b)=false→(b&&!c&&!a)=false→(ZkL (!a) (!b) (!c)).map (pkI 0 1 2)=ZjX a b c∧(ZkL c b a).map (pkI 2 1 0)=ZjX a b c∧(ZkL (!c) a b).map (pkI 1 2 0)=ZjX a b c∧(ZkL a (!c) (!b)).map (pkI 1 0 2)=ZjX a b c∧(ZkL b c (!a)).map (pkI 2 0 1)=ZjX a b c∧(ZkL (!b) (!a) c).map (pkI 0 2 1)=ZjX a b c:=by decide
theorem winsL3{T:Nat→Nat→Bool}{x y z:Nat}(hx:T x x=false)(hy:T y y=false)(hz:T z z=false)(h1:T y x=!T x y)(h2:T z x=!T x z)(h3:T z y=!T y z):ZcJ T [x,y,z]=(ZjX (T x y) (T x z) (T y z)).map (pk3 x y z):=by
 simp only[h1,h2,h3,ZcJ,Zgw,List.flatMap_cons,List.flatMap_nil,List.filter_cons,List.filter_nil,hx,hy,hz];cases T x y<;>cases T x z<;>cases T y z<;>rfl
theorem Zoc(T:Nat→Nat→Bool)(x y z:Nat)(hx:T x x=false)(hy:T y y=false)(hz:T z z=false)(h1:T y x=!T x y)(h2:T z x=!T x z)(h3:T z y=!T y z)
 (c1:¬(T x y=true∧T y z=true∧T z x=true)) (c2:¬(T x z=true∧T z y=true∧T y x=true)):∀c∈[[x,y,z],[z,y,x],[y,z,x],[y,x,z],[z,x,y],[x,z,y]],laidT T c=ZcJ T [x,y,z]:=by
 intro c hc;have w:=winsL3 hx hy hz h1 h2 h3;rw[h1,h3] at c2;rw[h2] at c1;refine x0_6 (laid_key (T x y) (T x z) (T y z) (by revert c1;cases T x y<;>cases T x z<;>cases T y z<;>simp) (by revert c2;cases T x y<;>cases T x z<;>cases T y z<;>simp)) fun k1 k2 k3 k4 k5 k6=>?_;have s:∀{p q r:Nat} {a b c:Nat},pk3 x y z a=p→pk3 x y z b=q→pk3 x y z c=r→∀i,pk3 p q r i=pk3 x y z (pkI a b c i):=fun ha hb hc i=>match i with
  | 0=>ha.symm
  | 1=>hb.symm
  | _+2=>hc.symm
 rw[w];rcases lmc hc with rfl | hc
 · rw[ZdB,h1,h2,h3];exact ZcC k1 (s rfl rfl rfl)
 rcases lmc hc with rfl | hc
 · rw[ZdB];exact ZcC k2 (s rfl rfl rfl)
 rcases lmc hc with rfl | hc
 · rw[ZdB,h3];exact ZcC k3 (s rfl rfl rfl)
 rcases lmc hc with rfl | hc
 · rw[ZdB,h3,h2];exact ZcC k4 (s rfl rfl rfl)
 rcases lmc hc with rfl | hc
 · rw[ZdB,h1];exact ZcC k5 (s rfl rfl rfl)
 rw[lms hc,ZdB,h2,h1];exact ZcC k6 (s rfl rfl rfl)
theorem Zos(T:Nat→Nat→Bool)(x y z:Nat)(h1:T y x=false)(h2:T z y=false)(h3:T x z=false):∀c∈[[x,y,z],[y,z,x],[z,x,y]],laidT T c=c:=by
 intro c hc;simp only[List.mem_cons,List.not_mem_nil,or_false] at hc;rcases hc with rfl | rfl | rfl<;>rw[laidT3]<;>simp[h1,h2,h3]
theorem ZoU:∀(A B:List Bool) (ws:List Int),A.length=B.length→(∀i:Nat,A[i]?=some true→B[i]?=some true)→(∀x∈ws,0≤x)→hv A ws≤hv B ws
 | [],[],ws,_,_,_=>Int.le_refl _
 | a::A,b::B,[],_,_,_=>by cases a<;>cases b<;>simp[hv,sel]
 | a::A,b::B,w::ws,hl,h,hw=>by
  have ih:=ZoU A B ws (by simpa using hl) (fun i hi=>h (i+1) hi) fun x hx=>hw x (.tail _ hx);have h0:=h 0;have hw0:=hw w (.head _);cases a<;>cases b<;>simp[hv,sel] at h0 ih ⊢<;>lia
theorem Data.mono(H:Data nm os ws){a b c d:Nat}(h:∀o∈os,Internal.ZY o a b=true→Internal.ZY o c d=true):hv (ahd os a b) ws≤hv (ahd os c d) ws:=by
 refine ZoU _ _ _ (by simp[ahd]) (fun i hi=>?_) fun x hx=>(H.wr x hx).1;simp only[ahd,List.getElem?_map,Option.map_eq_some_iff] at hi ⊢;refine ZJ hi fun o ho hb=>?_;exact Qd o ho (h o (List.mem_of_getElem? ho) hb)
theorem sen_fin:(letters.all fun g=>(permsOf (namesOf g)).all fun o=>(namesOf g).all fun v=>(namesOf g).all fun u=>(namesOf g).all fun w=>(v==u) || (v==w) || (u==w) ||
 (((o[0]?==some v) || !ZY o v u || ZY o w u)&&((o[2]?==some v) || !ZY o w v || ZY o w u)&&(!(o[0]?==some v || o[2]?==some v) || !ZY o v u || ZY o v w)&&!(o[0]?==some v&&o[2]?==some v)))=true:=by decide +kernel
theorem Zpo(f l:List Nat→Bool):∀(os:List (List Nat)),(∀o∈os,¬(f o=true∧l o=true))→(os.map f).count true+(os.map l).count true≤os.length∧((os.map f).count true+(os.map l).count true=os.length→∀o∈os,f o=true∨l o=true):=by
 intro os;induction os with
 | nil=>
  intro υ;exact ⟨Nat.le_refl _,fun υ o h=>by cases h⟩
 | cons o os ih=>
  intro h;refine Qe (ih fun x hx=>h x (.tail _ hx)) fun h1 h2=>?_;have h0:=h o (.head _);cases hf:f o with
  | true=>
   cases hl:l o with
   | true=>exact absurd ⟨hf,hl⟩ h0
   | false=>
    simp only[List.map_cons,hf,hl,List.count_cons_self,List.length_cons,List.count_cons_of_ne (by decide:false≠true)];exact ⟨by lia,fun e x hx=>by
     rcases lmc hx with rfl | hx
     · exact .inl hf
     · exact h2 (by lia) x hx⟩
  | false=>
   cases hl:l o with
   | true=>
    simp only[List.map_cons,hf,hl,List.count_cons_self,List.length_cons,List.count_cons_of_ne (by decide:false≠true)];exact ⟨by lia,fun e x hx=>by
     rcases lmc hx with rfl | hx
     · exact .inr hl
     · exact h2 (by lia) x hx⟩
   | false=>
    simp only[List.map_cons,hf,hl,List.length_cons,List.count_cons_of_ne (by decide:false≠true)];exact ⟨by lia,fun e x hx=>by lia⟩
theorem Data.sen(H:Data nm os ws){v u w:Nat}(hv':v∈nm)(hu:u∈nm)(hw:w∈nm)(h1:v≠u)(h2:v≠w)(h3:u≠w)(hk:Zgs os v=true):
 ¬(Qh os ws v u=true∧Qh os ws u w=true∧Qh os ws w v=true):=by
 have hfin:∀o∈os,(((o[0]?==some v) || !Internal.ZY o v u || Internal.ZY o w u)&&((o[2]?==some v) || !Internal.ZY o w v || Internal.ZY o w u)&&(!(o[0]?==some v || o[2]?==some v) || !Internal.ZY o v u || Internal.ZY o v w)&&!(o[0]?==some v&&o[2]?==some v))=true:=by
  refine ZJ H.g fun g hg yq=>?_;subst yq;intro o ho;have:=lae (lae (lae (lae (lae sen_fin g hg) o (H.ho o ho)) v hv') u hu) w hw;simpa [h1,h2,h3] using this
 intro z'1;refine ZjW z'1 fun t1 t2 t3=>?_;simp only[Qh,decide_eq_true_eq] at t1 t2 t3;have k1:=H.compl hu hw h3;have k2:=H.compl hv' hw h2;have hc:=Zpo (fun o=>o[0]?==some v) (fun o=>o[2]?==some v) os fun o ho=>by
  have:=hfin o ho;simp only[Bool.and_eq_true,Bool.not_eq_true',Bool.and_eq_false_iff] at this;intro z'1;refine Qe z'1 fun e1 e2=>?_;simp[e1,e2] at this
 simp only[Zgs,Bool.or_eq_true,beq_iff_eq] at hk;rcases hk with hk | hk | hk
 · have hn:∀o∈os,(o[0]?==some v)=false:=fun o ho=>by
    cases e:(o[0]?==some v) with
    | false=>rfl
    | true=>
     have:true∈Qm os v:=List.mem_map.mpr ⟨o,ho,e⟩;have:=List.count_pos_iff.mpr this;lia
   have:=H.mono (a:=v) (b:=u) (c:=w) (d:=u) fun o ho hb=>by
    have:=hfin o ho;simp only[hn o ho,hb,Bool.false_or,Bool.not_true,Bool.and_eq_true] at this;exact this.1.1.1
   lia
 · have hn:∀o∈os,(o[2]?==some v)=false:=fun o ho=>by
    cases e:(o[2]?==some v) with
    | false=>rfl
    | true=>
     have:true∈Qq os v:=List.mem_map.mpr ⟨o,ho,e⟩;have:=List.count_pos_iff.mpr this;lia
   have:=H.mono (a:=w) (b:=v) (c:=w) (d:=u) fun o ho hb=>by
    have:=hfin o ho;simp only[hn o ho,hb,Bool.false_or,Bool.not_true,Bool.and_eq_true] at this;exact this.1.1.2
   lia
 · have hol:=H.ol;have he:=hc.2 (by
    have:((Qm os v).count true:Int)+((Qq os v).count true:Int)=5:=by lia
    rw[hol];have h5:(Qm os v).count true+(Qq os v).count true=5:=by lia
    exact h5)
   have:=H.mono (a:=v) (b:=u) (c:=v) (d:=w) fun o ho hb=>by
    have h1:=hfin o ho;have h2:(o[0]?==some v || o[2]?==some v)=true:=by simpa using he o ho
    simp only[h2,hb,Bool.not_true,Bool.false_or,Bool.and_eq_true] at h1;exact h1.1.2
   lia
theorem Data.calm(H:Data nm os ws)(hk:nm.any (Zgs os)=true){x y z:Nat}(hn:nm=[x,y,z]){a b c:Nat}(hp:[a,b,c]∈[[x,y,z],[x,z,y]]):¬(Qh os ws a b=true∧Qh os ws b c=true∧Qh os ws c a=true):=by
 have nd:=H.nodup.1;rw[hn] at nd hk;subst hn;simp only[List.nodup_cons,List.mem_cons,List.not_mem_nil,or_false,not_or,not_false_eq_true,List.nodup_nil,and_true] at nd;refine Qe nd fun yq n3=>?_;refine Qe yq fun n1 n2=>?_;simp only[List.any_cons,List.any_nil,Bool.or_false,Bool.or_eq_true] at hk;have mx:x∈[x,y,z]:=by simp
 have my:y∈[x,y,z]:=by simp
 have mz:z∈[x,y,z]:=by simp
 simp only[List.mem_cons,List.not_mem_nil,or_false,List.cons.injEq,and_true] at hp;rcases hp with ⟨rfl,rfl,rfl⟩ | ⟨rfl,rfl,rfl⟩
 · intro z'1;refine ZjW z'1 fun t1 t2 t3=>?_;rcases hk with hk | hk | hk
   · exact H.sen mx my mz n1 n2 n3 hk ⟨t1,t2,t3⟩
   · exact H.sen my mz mx n3 (Ne.symm n1) (Ne.symm n2) hk ⟨t2,t3,t1⟩
   · exact H.sen mz mx my (Ne.symm n2) (Ne.symm n3) n1 hk ⟨t3,t1,t2⟩
 · intro z'1;refine ZjW z'1 fun t1 t2 t3=>?_;rcases hk with hk | hk | hk
   · exact H.sen mx mz my n2 n1 (Ne.symm n3) hk ⟨t1,t2,t3⟩
   · exact H.sen my mx mz (Ne.symm n1) n3 n2 hk ⟨t3,t1,t2⟩
   · exact H.sen mz my mx (Ne.symm n3) (Ne.symm n2) (Ne.symm n1) hk ⟨t2,t3,t1⟩
theorem Data.tourC(H:Data nm os ws){a b:Nat}(ha:a∈nm)(hb:b∈nm)(hab:a≠b):Qh os ws b a=!Qh os ws a b:=by
 have:=H.compl ha hb hab;unfold Qh;by_cases h:256≤hv (ahd os a b) ws
 · have:¬256≤hv (ahd os b a) ws:=by lia
   simp[h,this]
 · have:256≤hv (ahd os b a) ws:=by lia
   simp[h,this]
theorem Data.tourS(H:Data nm os ws){a:Nat}(ha:a∈nm):Qh os ws a a=false:=by
 simp[Qh,H.same ha]
theorem Data.rows(H:Data nm os ws)(hk:nm.any (Zgs os)=true){x y z:Nat}(hn:nm=[x,y,z]):∀c∈[[x,y,z],[z,y,x],[y,z,x],[y,x,z],[z,x,y],[x,z,y]],laidT (Qh os ws) c=ZcJ (Qh os ws) nm:=by
 have nd:=H.nodup.1;subst hn;simp only[List.nodup_cons,List.mem_cons,List.not_mem_nil,or_false,not_or,not_false_eq_true,List.nodup_nil,and_true] at nd;refine Qe nd fun yq n3=>?_;refine Qe yq fun n1 n2=>?_;have mx:x∈[x,y,z]:=by simp
 have my:y∈[x,y,z]:=by simp
 have mz:z∈[x,y,z]:=by simp
 exact Zoc _ x y z (H.tourS mx) (H.tourS my) (H.tourS mz) (H.tourC mx my n1) (H.tourC mx mz n2) (H.tourC my mz n3) (H.calm hk rfl (by simp)) (H.calm hk rfl (by simp))
end
end
set_option tactic.hygienic true
set_option tactic.hygienic false
section
variable {nm:List Nat} {os:List (List Nat)} {ws:List Int} {ℓ:Loc} {hp:Hp} {N:Nat}
section
theorem zip_loop{k1 k2:Nat}{wl:List Int}{t:TF}{φ:List Nat→Bool}(h1:hp[k1]?=some (.list (os.map .str)))(h2:hp[k2]?=some (.list (wl.map .int)))(hl:os.length=wl.length)(hlen:wl.length≤90)
 (ht:∀o w ys,o∈os→t [some (.str o),some (.int w)] (hp++[MO.list ys])=some (φ o,hp++[MO.list ys])):∀(n i:Nat) (ys:List MV),i≤wl.length→wl.length - i < n→ys.length≤i→
 ZdU k1 k2 hp.length t (Zf 1) n i (hp++[.list ys])=some (hp++[.list (ys++(sel ((os.map φ).drop i) (wl.drop i)).map .int)]):=by
 intro n;induction n with
 | zero=>
  intro i ys hi hn hy;lia
 | succ n ih=>
  intro i ys hi hn hy;unfold ZdU ZhD;simp only[Zk h1 _,Zk h2 _,List.getElem?_map];by_cases hlt:i < wl.length
  · have hb:i < os.length:=by lia
    have hb':i < (os.map φ).length:=by simpa using hb
    rw[List.getElem?_eq_getElem hlt,List.getElem?_eq_getElem hb];simp only[Option.map_some];rw[ht _ _ ys (List.getElem_mem hb)];rw[List.drop_eq_getElem_cons hlt,List.drop_eq_getElem_cons hb',List.getElem_map];cases hbi:φ os[i] with
    | false=>
     simp only[sel];exact ih (i+1) ys hlt (sb1 hn hlt) (Nat.le_succ_of_le hy)
    | true=>
     simp only[sel,Zf,List.getElem?_cons_succ,List.getElem?_cons_zero,Zas,Zv];rw[if_pos (by lia)];simp only[ZbI];rw[ih (i+1) (ys++[MV.int (wl[i]'hlt)]) hlt (by lia) (by simp;lia)];simp
  · have hb:¬i < os.length:=by lia
    rw[List.getElem?_eq_none (by lia:os.length≤i),List.drop_eq_nil_of_le (by simp;lia:(os.map φ).length≤i),List.drop_eq_nil_of_le (by lia:wl.length≤i)];simp[sel]
theorem ZkP{k:Nat}{xs:List MV}{mx:MV}{t:TF}{f:EF}{p:MV→Bool}{φ:MV→MV}(hk:hp[k]?=some (.list xs))(hlen:xs.length≤1000)
 (h:∀x∈xs,∀ys:List MV,t [some mx,some x] (hp++[.list ys])=some (p x,hp++[.list ys])∧(p x=true→f [some mx,some x] (hp++[.list ys])=some (φ x,hp++[.list ys]))):
 ∀(n i:Nat) (ys:List MV),i≤xs.length→xs.length - i < n→ys.length≤1000+i→in2F (.list k) hp.length mx t f n i (hp++[.list ys])=some (hp++[.list (ys++((xs.drop i).filter p).map φ)]):=by
 intro n;induction n with
 | zero=>
  intro i ys hi hn hy;lia
 | succ n ih=>
  intro i ys hi hn hy;have hk':(hp++[.list ys])[k]?=some (.list xs):=Zk hk _;unfold in2F;simp only[Src.item,hk'];cases hx:xs[i]? with
  | none=>
   have hle:xs.length≤i:=List.getElem?_eq_none_iff.mp hx;rw[List.drop_eq_nil_of_le hle];simp
  | some x=>
   have hlt:i < xs.length:=(lge hx).1;have hxe:xs[i]=x:=by rw[List.getElem?_eq_getElem hlt] at hx;exact Option.some.inj hx
   have hm:x∈xs:=List.mem_of_getElem? hx;refine Qe (h x hm ys) fun h1 h2=>?_;rw[List.drop_eq_getElem_cons hlt,hxe];simp only[h1];cases hp1:p x with
   | false=>
    simp only[List.filter_cons,hp1,Bool.false_eq_true,if_false];exact ih (i+1) ys hlt (sb1 hn hlt) (Nat.le_succ_of_le hy)
   | true=>
    simp only[h2 hp1,Zas,Zv,List.filter_cons,hp1,if_true,List.map_cons];rw[if_pos (by lia)];simp only[ZbI];rw[ih (i+1) (ys++[φ x]) hlt (by lia) (by simp;lia)];simp
theorem ZiU{k N:Nat}{xs:List MV}{it2:IF}{t:TF}{f:EF}{κ:MV→Nat}{zs:MV→List MV}{p:MV→MV→Bool}{φ:MV→MV→MV}(hk:hp[k]?=some (.list xs))(hlen:xs.length≤20)(hN:40 < N)
 (h0:∀u∈xs,hp[κ u]?=some (.list (zs u))∧(zs u).length≤20∧∀ys:List MV,it2 [some u,none] (hp++[.list ys])=some (.list (κ u),hp++[.list ys]))
 (h:∀u∈xs,∀x∈zs u,∀ys:List MV,t [some u,some x] (hp++[.list ys])=some (p u x,hp++[.list ys])∧(p u x=true→f [some u,some x] (hp++[.list ys])=some (φ u x,hp++[.list ys]))):
 ∀(n i:Nat) (ys:List MV),i≤xs.length→xs.length - i < n→ys.length≤20 * i→Zou (.list k) hp.length it2 t f N n i (hp++[.list ys])=some (hp++[.list (ys++(xs.drop i).flatMap fun u=>((zs u).filter (p u)).map (φ u))]):=by
 intro n;induction n with
 | zero=>
  intro i ys hi hn hy;lia
 | succ n ih=>
  intro i ys hi hn hy;have hk':(hp++[.list ys])[k]?=some (.list xs):=Zk hk _;unfold Zou;simp only[Src.item,hk'];cases hx:xs[i]? with
  | none=>
   have hle:xs.length≤i:=List.getElem?_eq_none_iff.mp hx;rw[List.drop_eq_nil_of_le hle];simp
  | some x=>
   have hlt:i < xs.length:=(lge hx).1;have hxe:xs[i]=x:=by rw[List.getElem?_eq_getElem hlt] at hx;exact Option.some.inj hx
   have hm:x∈xs:=List.mem_of_getElem? hx;refine ZjW (h0 x hm) fun g1 g2 g3=>?_;rw[List.drop_eq_getElem_cons hlt,hxe];simp only[g3];rw[ZkP g1 (by lia) (h x hm) N 0 ys (Nat.zero_le _) (by lia) (by lia)];dsimp only[List.drop_zero];have:((zs x).filter (p x)).length≤(zs x).length:=List.length_filter_le _ _;rw[ih (i+1) _ hlt (by lia) (by simp;lia)];simp
theorem Zdo{k N:Nat}{xs:List MV}{it it2:IF}{t:TF}{f:EF}{hp hp0:Hp}(κ:MV→Nat)(zs:MV→List MV)(p:MV→MV→Bool)(φ:MV→MV→MV)(hit:it ℓ hp0=some (.list k,hp))(hk:hp[k]?=some (.list xs))(hlen:xs.length≤20)(hN:40 < N)
 (h0:∀u∈xs,hp[κ u]?=some (.list (zs u))∧(zs u).length≤20∧∀ys:List MV,it2 [some u,none] (hp++[.list ys])=some (.list (κ u),hp++[.list ys]))
 (h:∀u∈xs,∀x∈zs u,∀ys:List MV,t [some u,some x] (hp++[.list ys])=some (p u x,hp++[.list ys])∧(p u x=true→f [some u,some x] (hp++[.list ys])=some (φ u x,hp++[.list ys]))):
 ZdW it it2 t f N ℓ hp0=some (.ref hp.length,hp++[.list (xs.flatMap fun u=>((zs u).filter (p u)).map (φ u))]):=by
 unfold ZdW;rw[hit];dsimp only;rw[ZiU hk hlen hN h0 h N 0 [] (Nat.zero_le _) (by lia) (Nat.zero_le _)];kernel_rfl
structure WinsI(nm:List Nat)(os:List (List Nat))(ws:List Int)(M:Nat)(es:List (List Nat×MV))(h:Hp):Prop where
 g0:h[0]?=some (.list (nm.map fun a=>.str [a]))
 g1:h[1]?=some (.list (os.map .str))
 g2:h[2]?=some (.list (ws.map .int))
 g3:∃v,h[3]?=some (.cell v)
 g4:∃v,h[4]?=some (.cell v)
 g5:h[5]?=some (.cell (some (.ref 7)))
 g6:h[6]?=some (.cell (some (.ref 0)))
 g7:h[7]?=some (.dict es)
 gl:es.length≤M
theorem WinsI.keep{M:Nat}{es:List (List Nat×MV)}{h h':Hp}(W:WinsI nm os ws M es h)(K:ZX [3,4] h h')(g3:∃v,h'[3]?=some (.cell v))(g4:∃v,h'[4]?=some (.cell v)):WinsI nm os ws M es h':=
 ⟨K.get W.g0 (by decide),K.get W.g1 (by decide),K.get W.g2 (by decide),g3,g4,K.get W.g5 (by decide),K.get W.g6 (by decide),K.get W.g7 (by decide),W.gl⟩
theorem WinsI.setD{M M':Nat}{es es':List (List Nat×MV)}{h:Hp}(W:WinsI nm os ws M es h)(hl:es'.length≤M'):WinsI nm os ws M' es' (h.set 7 (.dict es')):=
 ⟨Zo W.g0 (by decide) _,Zo W.g1 (by decide) _,Zo W.g2 (by decide) _,W.g3.imp fun υ e=>Zo e (by decide) _,W.g4.imp fun υ e=>Zo e (by decide) _,Zo W.g5 (by decide) _,Zo W.g6 (by decide) _,ZP W.g7 _,hl⟩
theorem Zoa{M:Nat}{es:List (List Nat×MV)}{h:Hp}(H:Data nm os ws)(W:WinsI nm os ws M es h){a b:Nat}{c:Int}{d:Option MV}(hM:M≤900)(c3:h[3]?=some (.cell (some (.str [b]))))(c4:h[4]?=some (.cell (some (.str [a]))))(hc:es.lookup [a]=some (.int c)):
 ∃d' h',Zn (s178 3) (Zn (s179 3) ZA) [some (.ref 1),some (.ref 2),d] h=some (.norm,[some (.ref 1),some (.ref 2),d'],h')∧WinsI nm os ws (M+1) (if Qh os ws a b then ([a],.int (c+1))::es else es) h'∧h'[4]?=some (.cell (some (.str [a]))):=by
 have hz:=zip_loop (t:=ZS .Lt (ZV "str" ZdD (Zf 0) (Zd (ZL 4) Zp)) (ZV "str" ZdD (Zf 0) (Zd (ZL 3) Zp))) (φ:=fun o=>ZY o a b) W.g1 W.g2 (by rw[H.ol,H.wl]) (by rw[H.wl];decide) (fun o w ys ho=>by
  have g3:=Zk c3 [MO.list ys];have g4:=Zk c4 [MO.list ys];simp[ZS,ZV,Zf,ZL,Zd,Zp,g3,g4,tyOf.eq_def,ZdD.eq_def,ZdE.eq_def,ZY,posIn];rfl) 100 0 [] (Nat.zero_le _) (by rw[H.wl];decide) (Nat.zero_le _)
 simp only[List.drop_zero,List.nil_append] at hz;have hz':zipE (Zd (Zf 0) (Zd (Zf 1) Zp)) (ZS .Lt (ZV "str" ZdD (Zf 0) (Zd (ZL 4) Zp)) (ZV "str" ZdD (Zf 0) (Zd (ZL 3) Zp))) (Zf 1) 100 [some (.ref 1),some (.ref 2),d] h=some (.ref h.length,h++[.list ((sel (ahd os a b) ws).map .int)]):=by
  unfold zipE;simp only[Zd,Zp,Zf,List.getElem?_cons_zero,List.getElem?_cons_succ,W.g1,W.g2];rw[hz];rfl
 have hb:(∀x:Int,x∈sel (ahd os a b) ws→-1000000000≤x∧x≤1000000000):=fun x hx=>by
  have:=H.wr x (ZeL _ _ x hx);lia
 have hs:(sel (ahd os a b) ws).length≤1000:=by have:=ZhG (ahd os a b) ws;rw[H.wl] at this;lia
 have e1:s178 3 [some (.ref 1),some (.ref 2),d] h=some (.norm,[some (.ref 1),some (.ref 2),some (.int (hv (ahd os a b) ws))],h++[.list ((sel (ahd os a b) ws).map .int)]):=by
  unfold s178 ZU Zr;rw[ZfZ hz'];simp only[sumF.eq_def,Zv,ZcD];rw[if_pos ⟨hs,by rw[List.all_eq_true];intro x hx;simpa using hb x hx⟩];rfl
 have K:ZX [] h (h++[.list ((sel (ahd os a b) ws).map .int)]):=ZX.app _ _ _;have W1:=W.keep (K.mono (by simp)) (W.g3.imp fun υ e=>K.get e (by simp)) (W.g4.imp fun υ e=>K.get e (by simp));have c4':=K.get c4 (by simp);generalize h++[MO.list ((sel (ahd os a b) ws).map .int)]=h1 at e1 K W1 c4';have e2:∃h',s179 3 [some (.ref 1),some (.ref 2),some (.int (hv (ahd os a b) ws))] h1=some (.norm,[some (.ref 1),some (.ref 2),some (.int (hv (ahd os a b) ws))],h')∧WinsI nm os ws (M+1) (if Qh os ws a b then ([a],.int (c+1))::es else es) h'∧h'[4]?=some (.cell (some (.str [a]))):=by
  have ht:ZS .Gt (Zf 2) (Zb (.int 255)) [some (.ref 1),some (.ref 2),some (.int (hv (ahd os a b) ws))] h1=some (Qh os ws a b,h1):=by
   refine Zar rfl rfl ?_;simp only[ZdE.eq_def,Qh];exact congrArg some (decide_eq_decide.mpr (by lia))
  cases htt:Qh os ws a b with
  | false=>rw[htt] at ht;exact ⟨h1,Zdk ht,by simpa using ⟨W1.g0,W1.g1,W1.g2,W1.g3,W1.g4,W1.g5,W1.g6,W1.g7,by have:=W1.gl;lia⟩,c4'⟩
  | true=>
   rw[htt] at ht;refine ZnY (h1.set 7 (.dict (([a],.int (c+1))::es))) ((Zgy ht).trans ?_) (W1.setD (by simp;exact W1.gl)) (Zo c4' (by decide) _);have hl:es.length≤1000:=by have:=W1.gl;lia
   simp[Zn,s180,augI,ZL,W1.g5,c4',ZnG.eq_def,W1.g7,hc,Zb,iop.eq_def,setI.eq_def,hl,ZA]
 refine ZgO e2 fun h' e2 W2 g=>?_;exact p2_3 _ h' ((Zl e1).trans ((Zl e2).trans rfl)) W2 g
theorem wins_row{M:Nat}{es:List (List Nat×MV)}{h:Hp}(H:Data nm os ws)(W:WinsI nm os ws M es h){a:Nat}{d:Option MV}(hM:M≤700)(c4:h[4]?=some (.cell (some (.str [a])))):
 ∃d' h' es',Zn (s176 3) (Zn (s177 3) ZA) [some (.ref 1),some (.ref 2),d] h=some (.norm,[some (.ref 1),some (.ref 2),d'],h')∧WinsI nm os ws (M+4) es' h'∧es'.lookup [a]=some (.int (Zgw (Qh os ws) nm a))∧∀s,s≠[a]→es'.lookup s=es.lookup s:=by
 refine Qe H.nodup fun nd n3=>?_;have hl:es.length≤1000:=by have:=W.gl;lia
 have e1:s176 3 [some (.ref 1),some (.ref 2),d] h=some (.norm,[some (.ref 1),some (.ref 2),d],h.set 7 (.dict (([a],.int 0)::es))):=by
  simp[s176,asgI,Zb,ZL,W.g5,c4,setI.eq_def,W.g7,hl]
 have W1:WinsI nm os ws (M+1) (([a],.int 0)::es) (h.set 7 (.dict (([a],.int 0)::es))):=W.setD (by simp;exact W.gl);have c41:=Zo c4 (by decide:7≠4) (.dict (([a],.int 0)::es));generalize h.set 7 (.dict (([a],.int 0)::es))=h1 at e1 W1 c41;have:=Zaw (k:=0) (N:=100) (it:=itE (ZL 6)) (tg:=tgC 3) (f:=Zn (s178 3) (Zn (s179 3) ZA)) (xs:=nm.map fun a=>.str [a]) (ℓ:=[some (.ref 1),some (.ref 2),d]) (hp:=h1) (hp0:=h1)
  (I:=fun i ℓ h=>∃d es',ℓ=[some (.ref 1),some (.ref 2),d]∧WinsI nm os ws (M+1+i) es' h∧h[4]?=some (.cell (some (.str [a])))∧es'.lookup [a]=some (.int (((nm.take i).filter (Qh os ws a)).length:Nat))∧∀s,s≠[a]→es'.lookup s=es.lookup s)
  (by simp[itE,ZL,W1.g6,W1.g0]) (fun i ℓ h I=>by obtain ⟨_,_,_,W,_⟩:=I;exact W.g0)
  (fun i v ℓ h hx I=>by
   refine x2_5 I fun d es' yq W c4 hla hls=>?_;subst yq;rw[List.getElem?_map] at hx;cases hb:nm[i]? with
   | none=>rw[hb] at hx;cases hx
   | some b=>
    rw[hb] at hx;refine oi1 hx fun yq=>?_;subst yq;have hi:i < 3:=by have:=(lge hb).1;lia
    refine ZW W.g3 fun u c3=>?_;have K:ZX [3] h (h.set 3 (.cell (some (.str [b])))):=ZX.set (by simp) _ _;have W2:=W.keep (K.mono (by simp)) ⟨_,ZP c3 _⟩ (W.g4.imp fun υ e=>K.get e (by decide));refine ZiK (Zoa (d:=d) H W2 (b:=b) (by lia) (ZP c3 _) (K.get c4 (by decide)) hla) fun d' h' e W3 c4'=>?_;refine ⟨_,h.set 3 (.cell (some (.str [b]))),_,h',by simp[tgC,Zlr,c3],e,d',_,rfl,W3,c4',?_,?_⟩
    · rw[Zav hb,List.filter_append,List.length_append];cases ht:Qh os ws a b<;>simp[ht,hla]
    · intro s hs;have:(s==[a])=false:=by simpa using hs
      cases Qh os ws a b<;>simp[List.lookup,this,hls s hs]) ⟨d,_,rfl,W1,c41,by simp[List.lookup],fun s hs=>by
       have:(s==[a])=false:=by simpa using hs
       simp[List.lookup,this]⟩ (by simp;lia)
 obtain ⟨ℓ',h',e2,d',es',rfl,W2,c42,hla,hls⟩:=this;simp only[List.length_map,n3] at W2 hla;rw[List.take_of_length_le (by lia)] at hla;exact p3_4 d' h' es' ((Zl e1).trans ((Zl (f1:=s177 3) e2).trans rfl)) W2 hla hls
theorem Zob(H:Data nm os ws){i j k:Nat}(hi:hp[i]?=some (.list (nm.map fun a=>.str [a])))(hj:hp[j]?=some (.list (os.map .str)))(hk:hp[k]?=some (.list (ws.map .int)))(hne:i≠j∧i≠k∧j≠k):
 Zbd [.ref i,.ref j,.ref k] hp=some (.ref hp.length,hp++[.list ((ZcJ (Qh os ws) nm).map fun a=>.str [a])]):=by
 refine Qe H.nodup fun nd n3=>?_;have W0:WinsI nm os ws 0 [] [.list (nm.map fun a=>.str [a]),.list (os.map .str),.list (ws.map .int),.cell none,.cell none,.cell (some (.ref 7)),.cell (some (.ref 0)),.dict []]:=⟨rfl,rfl,rfl,⟨_,rfl⟩,⟨_,rfl⟩,rfl,rfl,rfl,Nat.le_refl _⟩;have e0:s174 3 [some (.ref 1),some (.ref 2),none] [.list (nm.map fun a=>.str [a]),.list (os.map .str),.list (ws.map .int),.cell none,.cell none,.cell none,.cell (some (.ref 0))]=some (.norm,[some (.ref 1),some (.ref 2),none],[.list (nm.map fun a=>.str [a]),.list (os.map .str),.list (ws.map .int),.cell none,.cell none,.cell (some (.ref 7)),.cell (some (.ref 0)),.dict []]):=rfl;generalize hh:([.list (nm.map fun a=>.str [a]),.list (os.map .str),.list (ws.map .int),.cell none,.cell none,.cell (some (.ref 7)),.cell (some (.ref 0)),.dict []]:Hp)=h0 at W0 e0;have:=Zaw (k:=0) (N:=100) (it:=itE (ZL 6)) (tg:=tgC 4) (f:=Zn (s176 3) (Zn (s177 3) ZA)) (xs:=nm.map fun a=>.str [a]) (ℓ:=[some (.ref 1),some (.ref 2),none]) (hp:=h0) (hp0:=h0)
  (I:=fun i ℓ h=>∃d es',ℓ=[some (.ref 1),some (.ref 2),d]∧WinsI nm os ws (4 * i) es' h∧∀a∈nm.take i,es'.lookup [a]=some (.int (Zgw (Qh os ws) nm a)))
  (by simp[itE,ZL,W0.g6,W0.g0]) (fun i ℓ h I=>by obtain ⟨_,_,_,W,_⟩:=I;exact W.g0)
  (fun i v ℓ h hx I=>by
   refine ZiK I fun d es' yq W hla=>?_;subst yq;rw[List.getElem?_map] at hx;cases hb:nm[i]? with
   | none=>rw[hb] at hx;cases hx
   | some b=>
    rw[hb] at hx;refine oi1 hx fun yq=>?_;subst yq;have hi:i < 3:=by have:=(lge hb).1;lia
    refine ZW W.g4 fun u c4=>?_;have K:ZX [4] h (h.set 4 (.cell (some (.str [b])))):=ZX.set (by simp) _ _;have W2:=W.keep (K.mono (by simp)) (W.g3.imp fun υ e=>K.get e (by decide)) ⟨_,ZP c4 _⟩;refine x3_4 (wins_row (d:=d) H W2 (a:=b) (by lia) (ZP c4 _)) fun d' h' es2 e W3 hl1 hl2=>?_;refine ⟨_,h.set 4 (.cell (some (.str [b]))),_,h',by simp[tgC,Zlr,c4],e,d',es2,rfl,W3,?_⟩;intro a ha;rw[Zav hb] at ha;rcases List.mem_append.mp ha with hm | hm
    · rw[hl2 [a] (by
       intro e;have:a=b:=by simpa using e
       subst this;exact Zid nd hb hm)]
      exact hla a hm
    · rw[List.mem_singleton] at hm;subst hm;exact hl1) ⟨none,[],rfl,W0,fun a ha=>by simp at ha⟩ (by simp;lia)
 obtain ⟨ℓ',h',e2,d',es',rfl,W2,hla⟩:=this;simp only[List.length_map,n3] at W2 hla;rw[List.take_of_length_le (by lia)] at hla;have hl7:7 < h'.length:=Zac W2.g7;have hc:ZdW (itE (ZH (Zd (Zb (.int 2)) (Zd (Zb (.int 1)) (Zd (Zb (.int 0)) Zp))))) (itE (ZL 6)) (ZS .Eq (ZZ (ZL 5) (Zf 1)) (Zf 0)) (Zf 1) 100 [some (.ref 1),some (.ref 2),d'] h'=some (.ref (h'.length+1),(h'++[.list [.int 2,.int 1,.int 0]])++[.list ((ZcJ (Qh os ws) nm).map fun a=>.str [a])]):=by
  have:=Zdo (k:=h'.length) (N:=100) (xs:=[.int 2,.int 1,.int 0]) (it:=itE (ZH (Zd (Zb (.int 2)) (Zd (Zb (.int 1)) (Zd (Zb (.int 0)) Zp))))) (it2:=itE (ZL 6)) (t:=ZS .Eq (ZZ (ZL 5) (Zf 1)) (Zf 0)) (f:=Zf 1) (ℓ:=[some (.ref 1),some (.ref 2),d']) (hp:=h'++[.list [.int 2,.int 1,.int 0]]) (hp0:=h')
   (fun υ=>0) (fun υ=>nm.map fun a=>.str [a]) (fun u v=>match u,v with | .int c,.str [a]=>decide ((Zgw (Qh os ws) nm a:Int)=c) | _,_=>false) (fun υ v=>v)
   (by simp[itE,ZH,Zd,Zp,Zb]) (Zv _ _) (by decide) (by decide)
   (fun u hu=>⟨Zk W2.g0 _,by simp;lia,fun ys=>by have g6:=Zk (Zk W2.g6 [MO.list [.int 2,.int 1,.int 0]]) [MO.list ys];have g0:=Zk (Zk W2.g0 [MO.list [.int 2,.int 1,.int 0]]) [MO.list ys];simp only[itE,ZL,g6,g0]⟩)
   (fun u hu x hx ys=>by
    refine ZJ (List.mem_map.mp hx) fun a ha yq=>?_;subst yq;have g5:=Zk (Zk W2.g5 [MO.list [.int 2,.int 1,.int 0]]) [MO.list ys];have g7:=Zk (Zk W2.g7 [MO.list [.int 2,.int 1,.int 0]]) [MO.list ys];obtain ⟨c,rfl⟩:∃c,u=.int c:=by
     simp only[List.mem_cons,List.not_mem_nil,or_false] at hu;rcases hu with rfl | rfl | rfl<;>exact ⟨_,rfl⟩
    refine ⟨?_,fun υ=>rfl⟩;exact Zar (ZaM (o:=.ref 7) (i:=.str [a]) (v:=.int (Zgw (Qh os ws) nm a)) (by simp only[ZL,g5]) rfl (by simp only[ZnG.eq_def,g7];exact hla a ha)) rfl rfl)
  rw[this];have h1:∀c:Nat,((nm.map fun a=>MV.str [a]).filter (fun v=>match MV.int c,v with | .int c,.str [a]=>decide ((Zgw (Qh os ws) nm a:Int)=c) | _,_=>false)).map (fun v=>v)=(nm.filter fun a=>Zgw (Qh os ws) nm a==c).map fun a=>MV.str [a]:=by
   intro c;rw[List.map_id',List.filter_map];congr 1
   apply List.filter_congr
   intro a ha;simp only[Function.comp];by_cases h:Zgw (Qh os ws) nm a=c
   · simp[h]
   · have:¬((Zgw (Qh os ws) nm a:Int)=c):=by lia
     simp[h,this]
  have h2:=h1 2;have h3:=h1 1;have h4:=h1 0;simp only[ZcJ,List.flatMap_cons,List.flatMap_nil,List.append_nil,List.map_append,List.length_append,List.length_cons,List.length_nil];rw[← h2,← h3,← h4];rfl
 have e3:s181 3 [some (.ref 1),some (.ref 2),d'] h'=some (.ret (.ref (h'.length+1)),[some (.ref 1),some (.ref 2),d'],(h'++[.list [.int 2,.int 1,.int 0]])++[.list ((ZcJ (Qh os ws) nm).map fun a=>.str [a])]):=by
  unfold s181 Qk;rw[hc]
 have e4:=(Zl (f2:=Zn (s175 3) (Zn (s181 3) ZA)) e0).trans ((Zl (f1:=s175 3) e2).trans (ZgU (f2:=ZA) e3));have e5:=ZfW (n:=3) (li:=[some 1,some 2,none]) (ci:=[none,none,none,some 0]) (f:=ZbO) (args:=[.ref 0,.ref 1,.ref 2]) (hp:=[.list (nm.map fun a=>.str [a]),.list (os.map .str),.list (ws.map .int)]) rfl e4;unfold Zbd isoR3;have p1:(nm.map fun a=>MV.str [a]).all ZO=true:=by simp[pl_s]
 have p2:(os.map MV.str).all ZO=true:=by simp[pl_s]
 have p3:((ZcJ (Qh os ws) nm).map fun a=>MV.str [a]).all ZO=true:=by simp[pl_s]
 have gl:((h'++[MO.list [.int 2,.int 1,.int 0]])++[MO.list ((ZcJ (Qh os ws) nm).map fun a=>.str [a])])[h'.length+1]?=some (MO.list ((ZcJ (Qh os ws) nm).map fun a=>.str [a])):=by simp
 simp only[hi,hj,hk,p1,p2,ZpA,e5,Zk (Zk W2.g0 _) _,Zk (Zk W2.g1 _) _,Zk (Zk W2.g2 _) _,gl,p3];rw[if_pos ⟨hne,trivial,trivial,trivial⟩,if_pos ⟨⟨trivial,trivial,trivial⟩,by lia,trivial⟩]
end
end
set_option tactic.hygienic true
set_option tactic.hygienic false
section
variable {nm:List Nat} {os:List (List Nat)} {ws:List Int} {ℓ:Loc} {hp:Hp} {N:Nat}
section
structure QInv(N:Nat)(nm:List Nat)(os:List (List Nat))(ws:List Int)(ℓ:Loc)(hp:Hp):Prop where
 t0:Qt 0 196 (Qp 0) hp
 t1:Qt 1 208 (Qp 2) hp
 P:PairHp os ws hp
 L:PairLoc ℓ
 hn:hp[19]?=some (.list (nm.map fun a=>.str [a]))
 said:∃bs:List Bool,hp[20]?=some (.list (bs.map .bool))∧bs.length≤N
 A:Ahead 18 nm os ws hp
 came:∃rs:List Nat,hp[22]?=some (.list (rs.map .ref))∧hp[23]?=some (.list (rs.reverse.map .ref))∧rs.length=9∧∀(i r:Nat) (ab:Nat×Nat),rs[i]?=some r→(Zdd nm nm)[i]?=some ab→24≤r∧hp[r]?=some (.list [.int (hv (ahd os ab.1 ab.2) ws),.str [ab.1,ab.2]])
theorem PInv.toQ(D:PInv N nm os ws (Zdd nm nm) ℓ hp)(n3:nm.length=3):QInv N nm os ws ℓ hp:=by
 refine ZgO D.dict fun es hA hes hdict=>?_;refine Zgv D.came fun rs hC hBk hrs hcame=>?_;refine ⟨⟨[],D.t0,fun x kc e=>by cases e⟩,⟨[],D.t1,fun x kc e=>by cases e⟩,D.P,D.L,D.nm,D.said,⟨⟨es,hA,fun a ha b hb=>?_⟩,D.P.lW⟩,⟨rs,hC,hBk,by rw[hrs,ZiT n3,n3],hcame⟩⟩;refine ZgO (hdict (a,b) (List.mem_flatMap.mpr ⟨a,ha,List.mem_map.mpr ⟨b,hb,rfl⟩⟩)) fun r h1 h2 h3=>?_;exact p1_4 r h1 (by lia) h2 h3
theorem QInv.keep{N M:Nat}{ℓ ℓ':Loc}{hp hp':Hp}{bs:List Bool}(Q:QInv N nm os ws ℓ hp)(K:ZX [0,20] hp hp')(T:Qt 0 196 (Qp 0) hp')(hs:hp'[20]?=some (.list (bs.map .bool)))(hl:bs.length≤M)(L:PairLoc ℓ'):QInv M nm os ws ℓ' hp':=by
 refine Zgv Q.came fun rs hC hBk hrs hcame=>?_;refine ZJ Q.A.d fun es h1 h2=>?_;refine ⟨T,?_,Q.P.keep K (by decide),L,K.get Q.hn (by decide),⟨bs,hs,hl⟩,⟨⟨es,K.get h1 (by decide),fun a ha b hb=>?_⟩,K.get Q.A.w (by decide)⟩,⟨rs,K.get hC (by decide),K.get hBk (by decide),hrs,?_⟩⟩
 · exact Q.t1.keep K (by decide) (by simp)
 · refine Zgv (h2 a ha b hb) fun r e1 e2 e3 e4=>?_;exact p1_4 r e1 e2 e3 (K.get e4 (by simp;lia))
 · intro i r ab h1 h2;refine Qe (hcame i r ab h1 h2) fun h3 h4=>?_;exact ⟨h3,K.get h4 (by simp;lia)⟩
theorem QInv.keep0{ℓ ℓ':Loc}{hp hp':Hp}(Q:QInv N nm os ws ℓ hp)(K:ZX [0] hp hp')(T:Qt 0 196 (Qp 0) hp')(L:PairLoc ℓ'):QInv N nm os ws ℓ' hp':=by
 refine ZJ Q.said fun bs h1 h2=>?_;exact Q.keep (K.mono (by simp)) T (K.get h1 (by decide)) h2 L
theorem QInv.app(Q:QInv N nm os ws ℓ hp)(l:Hp):QInv N nm os ws ℓ (hp++l):=Q.keep0 (ZX.app _ _ _) (Q.t0.app l) Q.L
theorem QInv.loc{ℓ ℓ':Loc}(Q:QInv N nm os ws ℓ hp)(L:PairLoc ℓ'):QInv N nm os ws ℓ' hp:=Q.keep0 (ZX.refl _ _) Q.t0 L
theorem QInv.h24(Q:QInv N nm os ws ℓ hp):24≤hp.length:=by
 refine ZgO Q.came fun rs υ h υ=>?_;exact Zac h
theorem ZnA:(letters.all fun a=>PyData.strOk (mkS [a]))=true:=by decide +kernel
theorem Zie:(letters.all fun g=>(namesOf g).all fun a=>letters.contains a)=true:=by decide +kernel
theorem Data.ok(H:Data nm os ws){a:Nat}(ha:a∈nm):PyData.strOk (mkS [a])=true:=by
 refine ZJ H.g fun g hg yq=>?_;subst yq;exact lae ZnA a (by simpa using lae (lae Zie g hg) a ha)
theorem ZoA(H:Data nm os ws){i j:Nat}{l:List Nat}(hl:∀a∈l,a∈nm)(h1:hp[i]?=some (.list (l.map fun a=>.str [a])))(h2:hp[j]?=some (.list (l.map fun a=>.str [a]))):ZdE .NotEq (.ref i) (.ref j) hp=some false:=by
 have e:(l.map fun a=>MV.str [a])=(l.map fun a=>[a]).map MV.str:=by simp
 rw[e] at h1 h2;refine congrArg ZkG (Znk (fun s hs=>?_) h1 h2);refine ZJ (List.mem_map.mp hs) fun a ha yq=>?_;subst yq;exact H.ok (hl a ha)
theorem Zhm{kw c:Nat}{bl:Bool}{ws wk:List Int}{hp h1:Hp}{cs us:List Nat}{fc fa fw fb fr:EF}(H:Data nm os ws)(Hk:Data nm os wk)(Q:QInv N nm os ws ℓ hp)(A:Ahead kw nm os wk h1)(K1:ZX [] hp h1)(hc:h1[c]?=some (.list (cs.map fun a=>.str [a])))(hc0:c≠0)(hkw:kw≠0)(hm:∀y∈cs,y∈nm)(nd:cs.Nodup)(hl:cs.length≤50)
 (ha:Zd fc (Zd fa (Zd fw (Zd fb Zp))) ℓ hp=some ([.ref c,.ref 21,.ref kw,.bool bl],h1)) (hu:laidT (Qh os wk) cs=us) (hr:∀h2,ZX [0] h1 h2→Qt 0 196 (Qp 0) h2→∃rw h3,ZX [] h2 h3∧Qt 0 196 (Qp 0) h3∧fr ℓ h2=some (.ref rw,h3)∧h3[rw]?=some (.list (us.map fun a=>.str [a]))):
 ∃h',ZS .NotEq (Zr (ZbF lamF) (Zd fc (Zd fa (Zd fw (Zd fb Zp))))) fr ℓ hp=some (false,h')∧ZX [0] hp h'∧Qt 0 196 (Qp 0) h':=by
 have T1:=Q.t0.keep K1 (by simp) (by simp);have h24:=Q.h24;refine x2_5 (ZoN (c:=c) (bl:=bl) Hk A hc hc0 hkw hm nd hl T1 (Nat.le_trans h24 K1.1)) fun r h2 e1 K2 T2 g2 hr2=>?_;refine Qs (hr h2 K2 T2) fun rw h3 K3 T3 e3 g3=>?_;rw[hu] at g2;refine ZnY h3 (Zar (a:=.ref r) (hp1:=h2) ?_ e3 (ZoA H (fun a ha=>hm a ?_) (K3.get g2 (by simp)) g3)) (((K1.mono (by simp)).trans K2).trans (K3.mono (by simp))) T3
 · unfold Zr;rw[ha];exact e1
 · exact (ZiZ _ _ cs rfl).1 a (hu▸ha)
theorem Zlq(h:PairLoc ℓ){k:Nat}(hk:k < 32)(v:MV):(ℓ.set k (some v))[k]?=some (some v):=List.getElem?_set_self (by rw[h.len];exact hk)
theorem ZT{k j:Nat}(hk:j≠k)(v:MV){u:Option (Option MV)}(h:ℓ[k]?=u):(ℓ.set j (some v))[k]?=u:=by rw[List.getElem?_set_ne hk];exact h
theorem perm6{x y z:Nat}{c:List Nat}(h:c∈[[x,y,z],[z,y,x],[y,z,x],[y,x,z],[z,x,y],[x,z,y]]):c.Perm [x,y,z]:=by
 rcases lmc h with rfl | h
 · exact .refl _
 rcases lmc h with rfl | h
 · exact List.reverse_perm [x,y,z]
 rcases lmc h with rfl | h
 · exact List.perm_append_comm (l₁:=[y,z]) (l₂:=[x])
 rcases lmc h with rfl | h
 · exact List.Perm.swap x y [z]
 rcases lmc h with rfl | h
 · exact List.perm_append_comm (l₁:=[z]) (l₂:=[x,y])
 rw[lms h];exact (List.Perm.swap y z []).cons x
theorem perm3r{x y z:Nat}{c:List Nat}(h:c∈[[x,y,z],[y,z,x],[z,x,y]]):c.Perm [x,y,z]:=by
 rcases lmc h with rfl | h
 · exact .refl _
 rcases lmc h with rfl | h
 · exact List.perm_append_comm (l₁:=[y,z]) (l₂:=[x])
 rw[lms h];exact List.perm_append_comm (l₁:=[z]) (l₂:=[x,y])
theorem ZoJ{x y z:Nat}(H:Data [x,y,z] os ws)(Q:QInv N [x,y,z] os ws ℓ hp)(l13:ℓ[13]?=some (some (.bool true)))(hk:[x,y,z].any (Zgs os)=true)(l16:ℓ[16]?=some (some (.str [x])))(l17:ℓ[17]?=some (some (.str [y])))(l18:ℓ[18]?=some (some (.str [z]))):
 ∃ℓ' hp',ZfU lamF 2 ℓ hp=some (.norm,ℓ',hp')∧QInv N [x,y,z] os ws ℓ' hp':=by
 have e0:Zek (Zf 13) ℓ hp=some (true,hp):=by simp[Zek,Zf,l13,truth.eq_def]
 have ew:=Zob H Q.hn Q.P.lO Q.P.lW (by decide);have e1:s225 lamF 2 ℓ hp=some (.norm,ℓ.set 19 (some (.ref hp.length)),hp++[.list ((ZcJ (Qh os ws) [x,y,z]).map fun a=>.str [a])]):=by
  simp[s225,ZU,Zr,Zd,Zp,Zf,Q.L.l8,Q.L.l5,Q.L.l7,ew]
 have Q1:=(Q.app [.list ((ZcJ (Qh os ws) [x,y,z]).map fun a=>.str [a])]).loc (Q.L.set (k:=19) (by decide) (some (.ref hp.length)));have g19:=Zlq Q.L (k:=19) (by decide) (.ref hp.length);have h16:=ZT (j:=19) (by decide) (.ref hp.length) l16;have h17:=ZT (j:=19) (by decide) (.ref hp.length) l17;have h18:=ZT (j:=19) (by decide) (.ref hp.length) l18;have grw:=Zv hp (.list ((ZcJ (Qh os ws) [x,y,z]).map fun a=>.str [a]));have hrw0:hp.length≠0:=by have:=Q.h24;lia
 revert e1 Q1 g19 h16 h17 h18;refine gen (ℓ.set 19 (some (MV.ref hp.length))) fun ℓ1 e1 Q1 g19 h16 h17 h18=>?_;revert grw hrw0 e1 g19;refine gen (hp.length) fun rw0 grw hrw0 e1 g19=>?_;revert Q1 grw e1;refine gen (hp++[MO.list ((ZcJ (Qh os ws) [x,y,z]).map fun a=>.str [a])]) fun h1 Q1 grw e1=>?_;have e2:s226 lamF 2 ℓ1 h1=some (.norm,ℓ1.set 20 (some (.ref (h1.length+6))),h1++[.list [.str [x],.str [y],.str [z]],.list [.str [z],.str [y],.str [x]],.list [.str [y],.str [z],.str [x]],.list [.str [y],.str [x],.str [z]],.list [.str [z],.str [x],.str [y]],.list [.str [x],.str [z],.str [y]],.list [.ref h1.length,.ref (h1.length+1),.ref (h1.length+2),.ref (h1.length+3),.ref (h1.length+4),.ref (h1.length+5)]]):=by
  simp[s226,ZU,ZH,Zd,Zp,Zf,h16,h17,h18]
 have Q2:=(Q1.app [.list [.str [x],.str [y],.str [z]],.list [.str [z],.str [y],.str [x]],.list [.str [y],.str [z],.str [x]],.list [.str [y],.str [x],.str [z]],.list [.str [z],.str [x],.str [y]],.list [.str [x],.str [z],.str [y]],.list [.ref h1.length,.ref (h1.length+1),.ref (h1.length+2),.ref (h1.length+3),.ref (h1.length+4),.ref (h1.length+5)]]).loc (Q1.L.set (k:=20) (by decide) (some (.ref (h1.length+6))));have gn:∀k,(h1++[MO.list [.str [x],.str [y],.str [z]],.list [.str [z],.str [y],.str [x]],.list [.str [y],.str [z],.str [x]],.list [.str [y],.str [x],.str [z]],.list [.str [z],.str [x],.str [y]],.list [.str [x],.str [z],.str [y]],.list [.ref h1.length,.ref (h1.length+1),.ref (h1.length+2),.ref (h1.length+3),.ref (h1.length+4),.ref (h1.length+5)]])[h1.length+k]?=[MO.list [.str [x],.str [y],.str [z]],.list [.str [z],.str [y],.str [x]],.list [.str [y],.str [z],.str [x]],.list [.str [y],.str [x],.str [z]],.list [.str [z],.str [x],.str [y]],.list [.str [x],.str [z],.str [y]],.list [.ref h1.length,.ref (h1.length+1),.ref (h1.length+2),.ref (h1.length+3),.ref (h1.length+4),.ref (h1.length+5)]][k]?:=fun k=>by rw[List.getElem?_append_right (by lia)];simp
 have grw2:=Zk grw [MO.list [.str [x],.str [y],.str [z]],.list [.str [z],.str [y],.str [x]],.list [.str [y],.str [z],.str [x]],.list [.str [y],.str [x],.str [z]],.list [.str [z],.str [x],.str [y]],.list [.str [x],.str [z],.str [y]],.list [.ref h1.length,.ref (h1.length+1),.ref (h1.length+2),.ref (h1.length+3),.ref (h1.length+4),.ref (h1.length+5)]];have g20:=Zlq Q1.L (k:=20) (by decide) (.ref (h1.length+6));have g19:=ZT (j:=20) (by decide) (.ref (h1.length+6)) g19;have hm24:=Q1.h24;revert e2 Q2 g20 g19;refine gen (ℓ1.set 20 (some (MV.ref (h1.length+6)))) fun ℓ2 e2 Q2 g20 g19=>?_;revert gn grw2 e2 Q2;refine gen (h1++[MO.list [.str [x],.str [y],.str [z]],.list [.str [z],.str [y],.str [x]],.list [.str [y],.str [z],.str [x]],.list [.str [y],.str [x],.str [z]],.list [.str [z],.str [x],.str [y]],.list [.str [x],.str [z],.str [y]],.list [.ref h1.length,.ref (h1.length+1),.ref (h1.length+2),.ref (h1.length+3),.ref (h1.length+4),.ref (h1.length+5)]]) fun h2 gn grw2 e2 Q2=>?_;revert hm24 g20 gn e2;refine gen (h1.length) fun m hm24 g20 gn e2=>?_;have step:=ZfR (a:=0) (m:=6) (tg:=tgL 21) (f:=Zn (s228 lamF 2) ZA) (I:=fun i ℓ h=>QInv N [x,y,z] os ws ℓ h∧ZX [0] h2 h∧ℓ[19]?=some (some (.ref rw0))∧ℓ[20]?=some (some (.ref (m+6))))
  (fun i ℓ h hi I=>by
   refine x0_4 I fun Q K l19 l20=>?_;have QL:=Q.loc (Q.L.set (k:=21) (by decide) (some (.int ((0:Int)+i))));have k19:=ZT (j:=21) (by decide) (.int ((0:Int)+i)) l19;have k20:=ZT (j:=21) (by decide) (.int ((0:Int)+i)) l20;have k21:=Zlq Q.L (k:=21) (by decide) (.int ((0:Int)+i));have et:tgL 21 (.int ((0:Int)+i)) ℓ h=some (ℓ.set 21 (some (MV.int ((0:Int)+i))),h):=rfl;revert QL k19 k20 k21 et;refine gen (ℓ.set 21 (some (MV.int ((0:Int)+i)))) fun ℓ3 QL k19 k20 k21 et=>?_;obtain ⟨c,hc,hcs⟩:∃c,c∈[[x,y,z],[z,y,x],[y,z,x],[y,x,z],[z,x,y],[x,z,y]]∧h2[m+i]?=some (MO.list (c.map fun a=>.str [a])):=by
    rw[gn i];apply lt6 hi
    · exact Qd [x,y,z] (by simp) rfl
    · exact Qd [z,y,x] (by simp) rfl
    · exact Qd [y,z,x] (by simp) rfl
    · exact Qd [y,x,z] (by simp) rfl
    · exact Qd [z,x,y] (by simp) rfl
    · exact Qd [x,z,y] (by simp) rfl
   have hpm:=perm6 hc;have hsub:∀a∈c,a∈[x,y,z]:=fun a ha=>hpm.mem_iff.mp ha;have hnd:c.Nodup:=hpm.nodup_iff.mpr H.nodup.1;have hcl:c.length≤50:=by rw[hpm.length_eq];exact Nat.le_of_ble_eq_true rfl
   obtain ⟨bl,hbl⟩:∃bl,ZbG (ZS .Eq (ZB .Mod (Zf 21) (Zb (.int 2))) (Zb (.int 1))) ℓ3 h=some (.bool bl,h):=by
    refine ⟨decide (((0:Int)+i) % 2=1),?_⟩;simp[ZbG,ZS,ZB,Zf,k21,Zb,Zix.eq_def,ZdE.eq_def,eqC.eq_def]
   have harg:Zd (ZZ (Zf 20) (Zf 21)) (Zd (Zf 9) (Zd (Zf 7) (Zd (ZbG (ZS .Eq (ZB .Mod (Zf 21) (Zb (.int 2))) (Zb (.int 1)))) Zp))) ℓ3 h=some ([.ref (m+i),.ref 21,.ref 18,.bool bl],h):=by
    have h6:=K.get (gn 6) (by simp);have hg:ZZ (Zf 20) (Zf 21) ℓ3 h=some (.ref (m+i),h):=by
     refine ZaM (ZR k20) (ZR k21) ?_;rw[Int.zero_add,Zey h6 (by simpa using hi) (by simp)];revert hi;intro hi;exact lt6 (P:=fun i=>∀h:i < [MV.ref m,MV.ref (m+1),MV.ref (m+2),MV.ref (m+3),MV.ref (m+4),MV.ref (m+5)].length,some ([MV.ref m,MV.ref (m+1),MV.ref (m+2),MV.ref (m+3),MV.ref (m+4),MV.ref (m+5)][i])=some (MV.ref (m+i))) hi (fun υ=>rfl) (fun υ=>rfl) (fun υ=>rfl) (fun υ=>rfl) (fun υ=>rfl) (fun υ=>rfl) hi
    simp only[Zd,Zp,hg,ZR QL.L.l9,ZR QL.L.l7,hbl]
   refine ZgO (Zhm (us:=ZcJ (Qh os ws) [x,y,z]) (fr:=Zf 19) H H QL QL.A (ZX.refl _ _) (K.get hcs (by simp;lia)) (by lia) (by decide) hsub hnd hcl harg (H.rows hk rfl c hc) (fun h3 K3 T3=>⟨rw0,h3,ZX.refl _ _,T3,ZR k19,K3.get (K.get grw2 (by simpa using hrw0)) (by simpa using hrw0)⟩)) fun h' e K' T'=>?_;exact ⟨ℓ3,h,ℓ3,h',et,(Zl (f1:=s228 lamF 2) (Zdk e)).trans rfl,QL.keep0 K' T' QL.L,K.trans K',k19,k20⟩) 100 0 ℓ2 h2 ⟨Q2,ZX.refl _ _,g19,g20⟩ (by decide) (by decide)
 refine ZiK step fun ℓ' h' e3 Q3 υ=>?_;refine ZeN ℓ' h' ?_ Q3;have e4:s227 lamF 2 ℓ2 h2=some (.norm,ℓ',h'):=e3;unfold ZfU;rw[Zl (show s224 lamF 2 ℓ hp=some (.norm,ℓ',h') from (Zgy e0).trans ((Zl e1).trans ((Zl e2).trans ((Zl e4).trans rfl))))];rfl
end
end
set_option tactic.hygienic true
set_option tactic.hygienic false
section
variable {nm:List Nat} {os:List (List Nat)} {ws:List Int} {ℓ:Loc} {hp:Hp} {N:Nat}
section
noncomputable def rots:List Nat→List (List Nat)
 | [a,b,c]=>[[a,b,c],[b,c,a],[c,a,b]]
 | _=>[]
noncomputable def Zal(os:List (List Nat))(w:List Nat):List Nat:=(List.range 5).filter fun k=>os[k]?==some w
noncomputable def full(os:List (List Nat))(r:List Nat):Bool:=!((rots r).map (Zal os)).any (·.isEmpty)
theorem same_fin:(letters.all fun g=>(permsOf (namesOf g)).all fun o=>(permsOf (namesOf g)).all fun w=>
 decide (Qr (F__ellipsis_match [.str w,.str o] [])=some (.bool (o==w))))=true:=by decide +kernel
theorem Data.same_em(H:Data nm os ws){w:List Nat}(hw:w∈permsOf nm):∀o∈os,Qr (F__ellipsis_match [.str w,.str o] [])=some (.bool (o==w)):=by
 refine ZJ H.g fun g hg yq=>?_;subst yq;intro o ho;exact of_decide_eq_true (lae (lae (lae same_fin g hg) o (H.ho o ho)) w hw)
theorem ring_fin:(letters.all fun g=>match namesOf g with
 | [x,y,z]=>(rots [x,y,z]).all fun p=>(rots [x,z,y]).all fun q=>(namesOf g).any fun v=>
  ((permsOf (namesOf g)).all fun o=>o==p || o==q || !(o[0]?==some v)) || ((permsOf (namesOf g)).all fun o=>o==p || o==q || !(o[2]?==some v)) || ((permsOf (namesOf g)).all fun o=>o==p || o==q || ((o[0]?==some v || o[2]?==some v)&&!(o[0]?==some v&&o[2]?==some v)))
 | _=>false)=true:=by decide +kernel
theorem Zpp(f l:List Nat→Bool):∀(os:List (List Nat)),(∀o∈os,(f o=true∨l o=true)∧¬(f o=true∧l o=true))→(os.map f).count true+(os.map l).count true=os.length:=by
 intro os;induction os with
 | nil=>
  intro υ;exact rfl
 | cons o os ih=>
  intro h;have ih:=ih fun x hx=>h x (.tail _ hx);have h0:=h o (.head _);cases hf:f o<;>cases hl:l o<;>simp[hf,hl] at h0 ih ⊢<;>lia
theorem ZmW{r:List Nat}(h:full os r=false)(hl:os.length=5):∃p∈rots r,∀o∈os,o≠p:=by
 simp only[full,Bool.not_eq_false',List.any_map,List.any_eq_true,Function.comp] at h;refine ZJ h fun p hp he=>?_;refine Qd p hp (fun o ho e=>?_);subst e;obtain ⟨k,hk⟩:=List.getElem?_of_mem ho;have hk5:k < 5:=by have:=(lge hk).1;lia
 have:k∈Zal os o:=by
  unfold Zal;rw[List.mem_filter];exact ⟨by simpa using hk5,by simp[hk]⟩
 rw[List.isEmpty_iff] at he;rw[he] at this;cases this
theorem Data.some_ring{x y z:Nat}(H:Data [x,y,z] os ws)(hk:[x,y,z].any (Zgs os)=false):full os [x,y,z]=true∨full os [x,z,y]=true:=by
 cases h1:full os [x,y,z] with
 | true=>exact .inl rfl
 | false=>
  cases h2:full os [x,z,y] with
  | true=>exact .inr rfl
  | false=>
   exfalso
   refine ZJ (ZmW h1 H.ol) fun p hp hp'=>?_;refine ZJ (ZmW h2 H.ol) fun q hq hq'=>?_;refine ZJ H.g fun g hg hn=>?_;have hf:=lae ring_fin g hg;rw[← hn] at hf;dsimp only at hf;have hf:=lae (lae hf p hp) q hq;refine ZJ (List.any_eq_true.mp hf) fun v hv' hf=>?_;have hkv:Zgs os v=false:=by
    have:=List.any_eq_false.mp hk v hv';simpa using this
   have hx:∀o∈os,(o==p)=false∧(o==q)=false:=fun o ho=>⟨by simpa using hp' o ho,by simpa using hq' o ho⟩;have hol:=H.ol;have:Zgs os v=true:=by
    simp only[Zgs,Bool.or_eq_true,beq_iff_eq];simp only[Bool.or_eq_true] at hf;rcases hf with (hf | hf) | hf
    · left
      have:(Qm os v).count true=0:=by
       rw[List.count_eq_zero];intro hm;refine ZJ (List.mem_map.mp hm) fun o ho he=>?_;have:=lae hf o (H.ho o ho);simp[(hx o ho).1,(hx o ho).2] at this;exact this (by simpa using he)
      lia
    · right;left
      have:(Qq os v).count true=0:=by
       rw[List.count_eq_zero];intro hm;refine ZJ (List.mem_map.mp hm) fun o ho he=>?_;have:=lae hf o (H.ho o ho);simp[(hx o ho).1,(hx o ho).2] at this;exact this (by simpa using he)
      lia
    · right;right
      have:(Qm os v).count true+(Qq os v).count true=os.length:=Zpp (fun o=>o[0]?==some v) (fun o=>o[2]?==some v) os fun o ho=>by
       have:=lae hf o (H.ho o ho);rw[(hx o ho).1,(hx o ho).2] at this;simp only[Bool.false_or,Bool.and_eq_true,Bool.or_eq_true,Bool.not_eq_true',Bool.and_eq_false_iff] at this;refine ⟨this.1,fun h=>?_⟩;rcases this.2 with h' | h'
       · rw[h'] at h;exact absurd h.1 (by simp)
       · rw[h'] at h;exact absurd h.2 (by simp)
      lia
   rw[hkv] at this;cases this
noncomputable def ZaY(k0 k1 k2:Nat):List Int:=((([0,0,0,0,0].set k0 170).set k1 170).set k2 170).set k0 171
theorem Zny:∀k0 k1 k2:Fin 5,k0≠k1→k0≠k2→k1≠k2→(ZaY k0 k1 k2).sum=511∧(ZaY k0 k1 k2).length=5∧((ZaY k0 k1 k2).all fun x=>decide (0≤x∧x≤1000))=true∧
 ∀b0 b1 b2 b3 b4:Bool,(([b0,b1,b2,b3,b4]:List Bool)[k0.val]?==some true&&[b0,b1,b2,b3,b4][k1.val]?==some true) || ([b0,b1,b2,b3,b4][k0.val]?==some true&&[b0,b1,b2,b3,b4][k2.val]?==some true) || ([b0,b1,b2,b3,b4][k1.val]?==some true&&[b0,b1,b2,b3,b4][k2.val]?==some true) || decide (hv [b0,b1,b2,b3,b4] (ZaY k0 k1 k2) < 256)=true:=by decide +kernel
theorem turn_fin:(letters.all fun g=>(permsOf (namesOf g)).all fun o=>match o with
 | [a,b,c]=>ZY [a,b,c] b a==false&&ZY [a,b,c] c b==false&&ZY [b,c,a] c b==false&&ZY [b,c,a] a c==false&&ZY [c,a,b] b a==false&&ZY [c,a,b] a c==false
 | _=>false)=true:=by decide +kernel
theorem Data.shares(H:Data nm os ws){a b c k0 k1 k2:Nat}(hr:[a,b,c]∈permsOf nm)(hne:[a,b,c]≠[b,c,a]∧[a,b,c]≠[c,a,b]∧[b,c,a]≠[c,a,b])(h0:os[k0]?=some [a,b,c])(h1:os[k1]?=some [b,c,a])(h2:os[k2]?=some [c,a,b]):
 Data nm os (ZaY k0 k1 k2)∧∀w∈rots [a,b,c],laidT (Qh os (ZaY k0 k1 k2)) w=w:=by
 have hol:=H.ol;have l0:k0 < 5:=by have:=(lge h0).1;lia
 have l1:k1 < 5:=by have:=(lge h1).1;lia
 have l2:k2 < 5:=by have:=(lge h2).1;lia
 have d1:k0≠k1:=by rintro rfl;rw[h0] at h1;exact hne.1 (Option.some.inj h1)
 have d2:k0≠k2:=by rintro rfl;rw[h0] at h2;exact hne.2.1 (Option.some.inj h2)
 have d3:k1≠k2:=by rintro rfl;rw[h1] at h2;exact hne.2.2 (Option.some.inj h2)
 refine x0_4 (Zny ⟨k0,l0⟩ ⟨k1,l1⟩ ⟨k2,l2⟩ (by simpa using d1) (by simpa using d2) (by simpa using d3)) fun f1 f2 f3 f4=>?_;dsimp only at f1 f2 f3 f4;have HS:Data nm os (ZaY k0 k1 k2):=⟨H.g,H.ho,H.ol,f2,fun x hx=>by simpa using lae f3 x hx,f1⟩;refine ⟨HS,?_⟩;refine ZJ H.g fun g hg yq=>?_;subst yq;have tf:=lae (lae turn_fin g hg) _ hr;dsimp only at tf;simp only[Bool.and_eq_true,beq_iff_eq] at tf;refine Qe tf fun yq t6=>?_;refine Qe yq fun yq t5=>?_;obtain ⟨⟨⟨t1,t2⟩,t3⟩,t4⟩:=yq;have key:∀u v,((Internal.ZY [a,b,c] u v=false∧Internal.ZY [b,c,a] u v=false)∨(Internal.ZY [a,b,c] u v=false∧Internal.ZY [c,a,b] u v=false)∨(Internal.ZY [b,c,a] u v=false∧Internal.ZY [c,a,b] u v=false))→Qh os (ZaY k0 k1 k2) u v=false:=by
  intro u v huv;have e0:(ahd os u v)[k0]?=some (Internal.ZY [a,b,c] u v):=by simp[ahd,h0]
  have e1:(ahd os u v)[k1]?=some (Internal.ZY [b,c,a] u v):=by simp[ahd,h1]
  have e2:(ahd os u v)[k2]?=some (Internal.ZY [c,a,b] u v):=by simp[ahd,h2]
  have hl:(ahd os u v).length=5:=by simp[ahd,H.ol]
  unfold Qh;generalize ahd os u v=A at e0 e1 e2 hl ⊢;refine x5_1 (le5 hl) fun b0 b1 b2 b3 b4 y'=>?_;subst y';have:=f4 b0 b1 b2 b3 b4;rw[e0,e1,e2] at this;have hlt:hv [b0,b1,b2,b3,b4] (ZaY k0 k1 k2) < 256:=by
   rcases huv with ⟨h,h'⟩ | ⟨h,h'⟩ | ⟨h,h'⟩<;>simpa [h,h'] using this
  exact decide_eq_false (by lia)
 have k1':=key b a (.inr (.inl ⟨t1,t5⟩));have k2':=key c b (.inl ⟨t2,t3⟩);have k3':=key a c (.inr (.inr ⟨t4,t6⟩));exact Zos _ a b c k1' k2' k3'
end
end
set_option tactic.hygienic true
set_option tactic.hygienic false
section
variable {nm:List Nat} {os:List (List Nat)} {ws:List Int} {ℓ:Loc} {hp:Hp} {N:Nat}
section
theorem ZfP{k:Nat}{v:MV}(h:hp[k]?=some (.cell (some v))):ZL k ℓ hp=some (v,hp):=by
 unfold ZL;rw[h]
theorem Zjy{src:Src}{k m:Nat}{t:TF}{f:EF}{I:Nat→Hp→Prop}(stop:∀hp,I m hp→src.item m hp=some none)
 (step:∀i hp,i < m→I i hp→∃v b hp2,src.item i hp=some (some v)∧t [some v] hp=some (b,hp2)∧(b=false→I (i+1) hp2)∧(b=true→∃x hp3 hp4,f [some v] hp2=some (x,hp3)∧Zas k x hp3=some hp4∧I (i+1) hp4)):
 ∀n i hp,I i hp→i≤m→m - i < n→∃hp',Zgc src k t f n i hp=some hp'∧I m hp':=by
 intro n;induction n with
 | zero=>
  intro i hp h hi hn;exact sb0 hn
 | succ n ih=>
  intro i hp h hi hn;unfold Zgc;by_cases hlt:i < m
  · refine x3_4 (step i hp hlt h) fun v b hp2 e1 e2 h0 h1=>?_;simp only[e1,e2];cases b with
    | false=>exact ih (i+1) hp2 (h0 rfl) hlt (sb1 hn hlt)
    | true=>
     refine x3_3 (h1 rfl) fun x hp3 hp4 e3 e4 h5=>?_;simp only[e3,e4];exact ih (i+1) hp4 h5 hlt (sb1 hn hlt)
  · obtain rfl:i=m:=sbz hi hlt;simp only[stop hp h];exact Qd hp rfl h
theorem ZnM{src:Src}{k kx m:Nat}{f:EF}{I:Nat→Hp→Prop}(stop:∀hp,I m hp→src.item m hp=some none)
 (step:∀i hp,i < m→I i hp→∃v hp2 x hp3 hp4,src.item i hp=some (some v)∧Zlr kx v hp=some hp2∧f [] hp2=some (x,hp3)∧Zas k x hp3=some hp4∧I (i+1) hp4):
 ∀n i hp,I i hp→i≤m→m - i < n→∃hp',ZjB src k kx f n i hp=some hp'∧I m hp':=by
 intro n;induction n with
 | zero=>
  intro i hp h hi hn;exact sb0 hn
 | succ n ih=>
  intro i hp h hi hn;unfold ZjB;by_cases hlt:i < m
  · refine x5_5 (step i hp hlt h) fun v hp2 x hp3 hp4 e1 e2 e3 e4 h5=>?_;simp only[e1,e2,e3,e4];exact ih (i+1) hp4 h5 hlt (sb1 hn hlt)
  · obtain rfl:i=m:=sbz hi hlt;simp only[stop hp h];exact Qd hp rfl h
noncomputable def Zaf(os:List (List Nat))(w:List Nat)(i:Nat):List Nat:=(List.range i).filter fun k=>os[k]?==some w
noncomputable def Qo(l:List Nat):List MV:=l.map fun (k:Nat)=>MV.int (k:Int)
theorem natM_len(l:List Nat):(Qo l).length=l.length:=by simp[Qo]
theorem ZcN(os:List (List Nat))(w:List Nat)(i:Nat):Zaf os w (i+1)=Zaf os w i++(if os[i]?==some w then [i] else []):=by
 unfold Zaf;rw[List.range_succ,List.filter_append];congr 1
 cases h:(os[i]?==some w)<;>simp[List.filter_cons,h]
theorem ZkO{nC:Nat}{w:List Nat}{bs:List Bool}(hol:os.length=5)(P:PairHp os ws hp)(hC:hp[nC]?=some (.cell (some (.str w))))(hS:hp[20]?=some (.list (bs.map .bool)))(hbs:bs.length≤700)(hnC:nC≠20)
 (hem:∀o∈os,Qr (F__ellipsis_match [.str w,.str o] [])=some (.bool (o==w))):
 Qb (rngI (Zd (Zb (.int 5)) Zp)) (Zek (Zr (Zab) (Zd (ZL nC) (Zd (ZZ (ZL 7) (Zf 0)) (Zd (ZL 5) Zp))))) (Zf 0) 100 ℓ hp=some (.ref hp.length,hp.set 20 (.list ((bs++os.map (· == w)).map .bool))++[.list (Qo (Zal os w))]):=by
 have key:=Zjy (src:=.range 0 5) (k:=hp.length) (m:=5) (t:=Zek (Zr (Zab) (Zd (ZL nC) (Zd (ZZ (ZL 7) (Zf 0)) (Zd (ZL 5) Zp))))) (f:=Zf 0)
  (I:=fun i h=>h=hp.set 20 (.list ((bs++(os.take i).map (· == w)).map .bool))++[.list (Qo (Zaf os w i))]) (fun h υ=>rfl)
  (fun i h hi e=>by
   subst e;have hio:i < os.length:=by lia
   have ho:=List.getElem?_eq_getElem hio;have hK:ZX [20] hp (hp.set 20 (.list ((bs++(os.take i).map (· == w)).map .bool))++[.list (Qo (Zaf os w i))]):=(ZX.set (by simp) _ _).trans (ZX.app _ _ _);have g20:(hp.set 20 (MO.list ((bs++(os.take i).map (· == w)).map .bool))++[MO.list (Qo (Zaf os w i))])[20]?=some (.list ((bs++(os.take i).map (· == w)).map .bool)):=Zk (ZP hS _) _;have gB:=hK.get P.lB (by decide);have gsub:ZZ (ZL 7) (Zf 0) [some (.int ((0:Int)+i))] (hp.set 20 (MO.list ((bs++(os.take i).map (· == w)).map .bool))++[MO.list (Qo (Zaf os w i))])=some (.str os[i],_):=
    ZaM (o:=.ref 16) (i:=.int ((0:Int)+i)) (ZfP (hK.get P.c7 (by decide))) rfl (by
     rw[Int.zero_add,Zey gB (by simpa using hio) (by simp;lia)];simp)
   have ha:=ZcG (hem os[i] (List.getElem_mem hio)) g20 (ZcH _) (by simp;lia);have hset:(hp.set 20 (MO.list ((bs++(os.take i).map (· == w)).map .bool))++[MO.list (Qo (Zaf os w i))]).set 20 (.list ((bs++(os.take i).map (· == w)).map .bool++[.bool (os[i]==w)]))=hp.set 20 (.list ((bs++(os.take (i+1)).map (· == w)).map .bool))++[MO.list (Qo (Zaf os w i))]:=by
    rw[Zom (by simp;exact Zac hS),List.set_set,Zav ho];simp only[List.map_append,List.map_cons,List.map_nil,List.append_assoc]
   rw[hset] at ha;refine p3_4 (.int ((0:Int)+i)) (os[i]==w) (hp.set 20 (MO.list ((bs++(os.take (i+1)).map (· == w)).map MV.bool))++[MO.list (Qo (Zaf os w i))]) (if_pos hi) ?_ ?_ ?_
   · unfold Zek Zr;simp only[Zd,Zp];rw[show ZL nC [some (.int ((0:Int)+i))] (hp.set 20 (MO.list ((bs++(os.take i).map (· == w)).map .bool))++[MO.list (Qo (Zaf os w i))])=some (.str w,_) from ZfP (hK.get hC (by simpa using hnC))];simp only[gsub];rw[show ZL 5 [some (.int ((0:Int)+i))] (hp.set 20 (MO.list ((bs++(os.take i).map (· == w)).map .bool))++[MO.list (Qo (Zaf os w i))])=some (.ref 20,_) from ZfP (hK.get P.c5 (by decide))];simp only[ha,truth.eq_def]
   · intro hb;rw[ZcN,ho];have:(some os[i]==some w)=false:=by simpa using hb
     rw[this];simp
   · intro hb;have hlen:(hp.set 20 (MO.list ((bs++(os.take (i+1)).map (· == w)).map .bool))).length=hp.length:=by simp
     refine p3_3 (.int ((0:Int)+i)) _ _ rfl ?_ rfl;unfold Zas;have hl:(Zaf os w i).length≤i:=by unfold Zaf;have:=List.length_filter_le (fun k=>os[k]?==some w) (List.range i);simpa using this
     have hg:(hp.set 20 (MO.list ((bs++(os.take (i+1)).map (· == w)).map .bool))++[MO.list (Qo (Zaf os w i))])[hp.length]?=some (MO.list (Qo (Zaf os w i))):=by
      rw[← hlen];exact Zv _ _
     simp only[hg];rw[if_pos (by rw[natM_len];lia)];have hs:∀m:MO,(hp.set 20 (MO.list ((bs++(os.take (i+1)).map (· == w)).map .bool))++[MO.list (Qo (Zaf os w i))]).set hp.length m=hp.set 20 (MO.list ((bs++(os.take (i+1)).map (· == w)).map .bool))++[m]:=fun m=>by
      have:=ZbI (hp.set 20 (MO.list ((bs++(os.take (i+1)).map (· == w)).map .bool))) (MO.list (Qo (Zaf os w i))) m;rwa [hlen] at this
     rw[hs,ZcN,ho];have:(some os[i]==some w)=true:=by simpa using hb
     rw[this];simp[Qo]) 100 0 (hp++[.list []]) (by
      have:hp.set 20 (MO.list (bs.map MV.bool))=hp:=Zlp hS;simp[Zaf,this,Qo]) (by decide) (by decide)
 refine ZJ key fun h' e e'=>?_;rw[List.take_of_length_le (by lia)] at e';unfold Qb;rw[show rngI (Zd (Zb (.int 5)) Zp) ℓ hp=some (.range 0 5,hp) from rfl];dsimp only;rw[e,e'];rfl
theorem Znu{kw:Nat}{w0 w1 w2:List Nat}(H:Data nm os ws)(Q:QInv N nm os ws ℓ hp)(hN:N≤500)(h24:ℓ[24]?=some (some (.ref kw)))(hkw:hp[kw]?=some (.list [.str w0,.str w1,.str w2]))(hkw0:24≤kw)(hw:∀w∈[w0,w1,w2],w∈permsOf nm):
 ∃sp r0 r1 r2 hp',Zhx (itE (Zf 24)) (fun nC=>(Qb (rngI (Zd (Zb (.int 5)) Zp)) (Zek (Zr (Zab) (Zd (ZL nC) (Zd (ZZ (ZL 7) (Zf 0)) (Zd (ZL 5) Zp))))) (Zf 0) 100)) 100 ℓ hp=some (.ref sp,hp')∧QInv (N+15) nm os ws ℓ hp'∧ZX [0,20] hp hp'∧24≤sp∧hp'[sp]?=some (.list [.ref r0,.ref r1,.ref r2])∧
  hp'[r0]?=some (.list (Qo (Zal os w0)))∧hp'[r1]?=some (.list (Qo (Zal os w1)))∧hp'[r2]?=some (.list (Qo (Zal os w2)))∧24≤r0∧24≤r1∧24≤r2:=by
 refine ZJ Q.said fun bs hS hbs=>?_;have hl24:=Q.h24;have hklt:=Zac hkw;have K0:ZX [] hp (hp++[.list []]++[.cell none]):=(ZX.app _ _ _).trans (ZX.app _ _ _);have g0:(hp++[MO.list []]++[MO.cell none])[hp.length]?=some (.list []):=Zk (Zv _ _) _;have g1:(hp++[MO.list []]++[MO.cell none])[hp.length+1]?=some (.cell none):=by
  have:=Zv (hp++[MO.list []]) (MO.cell none);simpa using this
 have hlen:(hp++[MO.list []]++[MO.cell none]).length=hp.length+2:=by simp
 have hit:itE (Zf 24) ℓ hp=some (.list kw,hp):=by simp[itE,Zf,h24,hkw]
 have T0:=Q.t0.app [.list []] |>.app [.cell none];unfold Zhx;rw[hit];dsimp only;generalize hp++[MO.list []]++[MO.cell none]=h0 at K0 g0 g1 hlen T0 ⊢;have key:=ZnM (src:=.list kw) (k:=hp.length) (kx:=hp.length+1) (m:=3) (f:=(Qb (rngI (Zd (Zb (.int 5)) Zp)) (Zek (Zr (Zab) (Zd (ZL (hp.length+1)) (Zd (ZZ (ZL 7) (Zf 0)) (Zd (ZL 5) Zp))))) (Zf 0) 100))
  (I:=fun i h=>ZX [20,hp.length,hp.length+1] h0 h∧(∃bs:List Bool,h[20]?=some (.list (bs.map .bool))∧bs.length≤N+5 * i)∧(∃v,h[hp.length+1]?=some (.cell v))∧∃rs:List Nat,h[hp.length]?=some (.list (rs.map .ref))∧rs.length=i∧
   ∀(j r:Nat) (w:List Nat),rs[j]?=some r→[w0,w1,w2][j]?=some w→hp.length+2≤r∧h[r]?=some (.list (Qo (Zal os w))))
  (fun h I=>by simp only[Src.item,I.1.get (K0.get hkw (by simp)) (by simp;lia)];rfl)
  (fun i h hi I=>by
   obtain ⟨K,⟨bs,hS,hbs⟩,⟨v,hc⟩,rs,hr,hrl,hrs⟩:=I;have gk:=K.get (K0.get hkw (by simp)) (by simp;lia);obtain ⟨w,hwi⟩:∃w,[w0,w1,w2][i]?=some w:=⟨_,List.getElem?_eq_getElem (by simpa using hi)⟩;have hwm:=hw w (List.mem_of_getElem? hwi);have K1:ZX [20,hp.length,hp.length+1] h (h.set (hp.length+1) (.cell (some (.str w)))):=ZX.set (by simp) _ _;have gc:=ZP hc (.cell (some (.str w)));have gS:=Zo hS (by lia:hp.length+1≠20) (.cell (some (.str w)));have gr:=Zo hr (by lia:hp.length+1≠hp.length) (.cell (some (.str w)));have K01:=K.trans K1;have KP:∀k mo,k < 24→k≠20→hp[k]?=some mo→(h.set (hp.length+1) (.cell (some (.str w))))[k]?=some mo:=fun k mo h1 h2 e=>K01.get (K0.get e (by simp)) (by simp;lia);have P1:PairHp os ws (h.set (hp.length+1) (.cell (some (.str w)))):=⟨KP _ _ (by decide) (by decide) Q.P.c5,KP _ _ (by decide) (by decide) Q.P.c7,KP _ _ (by decide) (by decide) Q.P.lO,KP _ _ (by decide) (by decide) Q.P.lB,KP _ _ (by decide) (by decide) Q.P.lW⟩;have es:Zlr (hp.length+1) (.str w) h=some (h.set (hp.length+1) (.cell (some (.str w)))):=by simp[Zlr,hc]
   have hrs1:∀(j r:Nat) (w':List Nat),rs[j]?=some r→[w0,w1,w2][j]?=some w'→hp.length+2≤r∧(h.set (hp.length+1) (.cell (some (.str w))))[r]?=some (.list (Qo (Zal os w'))):=fun j r w' e1 e2=>⟨(hrs j r w' e1 e2).1,K1.get (hrs j r w' e1 e2).2 (by have:=(hrs j r w' e1 e2).1;simp;lia)⟩;have hlen1:=K01.1;generalize h.set (hp.length+1) (.cell (some (.str w)))=h1 at K1 gc gS gr K01 KP P1 es hrs1 hlen1;have ei:=ZkO (ℓ:=[]) H.ol P1 gc gS (by lia) (by lia) (H.same_em hwm);have K2:ZX [20,hp.length,hp.length+1] h1 (h1.set 20 (.list ((bs++os.map (· == w)).map .bool))++[.list (Qo (Zal os w))]):=(ZX.set (by simp) _ _).trans (ZX.app _ _ _);have g20:(h1.set 20 (MO.list ((bs++os.map (· == w)).map .bool))++[MO.list (Qo (Zal os w))])[20]?=some (.list ((bs++os.map (· == w)).map .bool)):=Zk (ZP gS _) _;have gl:(h1.set 20 (MO.list ((bs++os.map (· == w)).map .bool))++[MO.list (Qo (Zal os w))])[h1.length]?=some (MO.list (Qo (Zal os w))):=by
    have:=Zv (h1.set 20 (MO.list ((bs++os.map (· == w)).map .bool))) (MO.list (Qo (Zal os w)));simp
   have gr2:(h1.set 20 (MO.list ((bs++os.map (· == w)).map .bool))++[MO.list (Qo (Zal os w))])[hp.length]?=some (.list (rs.map .ref)):=Zk (Zo gr (by lia) _) _;have gc2:(h1.set 20 (MO.list ((bs++os.map (· == w)).map .bool))++[MO.list (Qo (Zal os w))])[hp.length+1]?=some (.cell (some (.str w))):=Zk (Zo gc (by lia) _) _;have hrs2:∀(j r:Nat) (w':List Nat),rs[j]?=some r→[w0,w1,w2][j]?=some w'→hp.length+2≤r∧(h1.set 20 (MO.list ((bs++os.map (· == w)).map .bool))++[MO.list (Qo (Zal os w))])[r]?=some (.list (Qo (Zal os w'))):=fun j r w' e1 e2=>⟨(hrs1 j r w' e1 e2).1,K2.get (hrs1 j r w' e1 e2).2 (by have:=(hrs1 j r w' e1 e2).1;simp;lia)⟩;generalize h1.set 20 (MO.list ((bs++os.map (· == w)).map .bool))++[MO.list (Qo (Zal os w))]=h2 at ei K2 g20 gl gr2 gc2 hrs2;refine ⟨.str w,h1,.ref h1.length,h2,h2.set hp.length (.list ((rs++[h1.length]).map .ref)),?_,es,ei,?_,(K01.trans K2).trans (ZX.set (by simp) _ _),⟨_,Zo g20 (by lia) _,?_⟩,⟨_,Zo gc2 (by lia) _⟩,rs++[h1.length],ZP gr2 _,by simp[hrl],?_⟩
   · simp only[Src.item,gk];revert hwi;apply lt3 hi<;>intro e<;>simpa using e
   · unfold Zas;simp only[gr2];rw[if_pos (by simp;lia)];simp
   · simp[H.ol];lia
   · intro j r w' e1 e2;by_cases hj:j < rs.length
     · rw[List.getElem?_append_left hj] at e1;refine Qe (hrs2 j r w' e1 e2) fun h3 h4=>?_;exact ⟨h3,Zo h4 (by lia) _⟩
     · have hj1:j=rs.length:=by
        have:=(lge e1).1;simp at this;lia
       subst hj1;simp at e1;rw[hrl,hwi] at e2;refine oi1 e2 fun yq=>?_;subst yq;subst e1;exact ⟨by lia,Zo gl (by lia) _⟩) 100 0 h0 ⟨ZX.refl _ _,⟨bs,K0.get hS (by simp),by lia⟩,⟨_,g1⟩,[],g0,rfl,fun j r w e1 υ=>by simp at e1⟩ (by decide) (by decide)
 obtain ⟨h',e,K,⟨bs',hS',hbs'⟩,_,rs,hr,hrl,hrs⟩:=key;rw[e];refine x3_1 (le3 hrl) fun r0 r1 r2 y'=>?_;subst y';have b0:=hrs 0 r0 w0 rfl rfl;have b1:=hrs 1 r1 w1 rfl rfl;have b2:=hrs 2 r2 w2 rfl rfl;have KK:ZX [0,20] hp h':=⟨by have:=K.1;lia,fun k mo hk e=>by
  have:=Zac e;simp at hk;exact K.get (K0.get e (by simp)) (by simp;lia)⟩
 refine p5_11 hp.length r0 r1 r2 h' rfl (Q.keep KK ?_ hS' hbs' Q.L) KK hl24 hr b0.2 b1.2 b2.2 (by lia) (by lia) (by lia);refine ZJ T0 fun es e1 e2=>?_;refine ZJ Q.t0 fun es' e1' e2'=>?_;refine Qd es' ?_ (fun x kc e=>⟨(e2' x kc e).1,?_⟩)
 · exact K.get (K0.get e1' (by simp)) (by simp;lia)
 · have:=Zac (e2' x kc e).2;have:=(e2' x kc e).1;exact K.get (K0.get (e2' x kc e).2 (by simp)) (by simp;lia)
end
end
set_option tactic.hygienic true
set_option tactic.hygienic false
section
variable {nm:List Nat} {os:List (List Nat)} {ws:List Int} {ℓ:Loc} {hp:Hp} {N:Nat}
section
theorem sl_a1(a b c:Nat):(Txt.slice (mkS [a,b,c]) (some 1) none).cps.toList=[b,c]:=by kernel_rfl
theorem sl_b1(a b c:Nat):(Txt.slice (mkS [a,b,c]) none (some 1)).cps.toList=[a]:=by kernel_rfl
theorem sl_a2(a b c:Nat):(Txt.slice (mkS [a,b,c]) (some 2) none).cps.toList=[c]:=by kernel_rfl
theorem sl_b2(a b c:Nat):(Txt.slice (mkS [a,b,c]) none (some 2)).cps.toList=[a,b]:=by kernel_rfl
theorem Zel{i n:Nat}{l:List Nat}(h:hp[i]?=some (.list (Qo l))):toD (n+2) hp (.ref i)=some (.list (l.map fun (k:Nat)=>PyData.int (k:Int))):=by
 unfold toD;rw[h];simp only[Qo];rw[Zif (f:=toD (n+1) hp) (u:=fun (k:Nat)=>MV.int (k:Int)) (v:=fun (k:Nat)=>PyData.int (k:Int)) (fun x=>by unfold toD;rfl)]
theorem lay_nats:∀l:List Nat,PyData.canLayAll0 (l.map fun (k:Nat)=>PyData.int (k:Int))=true:=by
 intro r;induction r with
 | nil=>
  exact rfl
 | cons b r ih=>
  simp[PyData.canLayAll0,PyData.canLay0,ih]
theorem eqv_nats:∀l:List Nat,PyData.eqv (.list (l.map fun (k:Nat)=>PyData.int (k:Int))) (.list [])=l.isEmpty
 | []=>by kernel_rfl
 | b::r=>by kernel_rfl
theorem in_spots{e sp r0 r1 r2:Nat}{s0 s1 s2:List Nat}(he:hp[e]?=some (.list []))(hs:hp[sp]?=some (.list [.ref r0,.ref r1,.ref r2]))(h0:hp[r0]?=some (.list (Qo s0)))(h1:hp[r1]?=some (.list (Qo s1)))(h2:hp[r2]?=some (.list (Qo s2))):
 inC hp (.ref e) (.ref sp)=some ([s0,s1,s2].any (·.isEmpty)):=by
 have d0:toD 3 hp (.ref e)=some (.list []):=by
  have:=Zel (n:=1) (l:=[]) (hp:=hp) (i:=e) he;simpa using this
 have d1:toD 3 hp (.ref sp)=some (.list [.list (s0.map fun (k:Nat)=>PyData.int (k:Int)),.list (s1.map fun (k:Nat)=>PyData.int (k:Int)),.list (s2.map fun (k:Nat)=>PyData.int (k:Int))]):=by
  unfold toD;rw[hs];simp only[ZmY,Zel (n:=0) h0,Zel (n:=0) h1,Zel (n:=0) h2]
 unfold inC;simp only[hs,d0,d1];rw[if_pos ⟨by simp[PyData.canLay0,PyData.canLayAll0],by simp[PyData.canLay0,PyData.canLayAll0,lay_nats],by simp[PyData.depth,PyData.depthAll]⟩];simp only[List.any_cons,List.any_nil,eqv_nats]
theorem Zdz{w:List Nat}(h:(Zal os w).isEmpty=false):∃k t,Zal os w=k::t∧os[k]?=some w∧k < 5:=by
 cases e:Zal os w with
 | nil=>rw[e] at h;cases h
 | cons k t=>
  have:k∈Zal os w:=by rw[e];exact .head _
  unfold Zal at this;rw[List.mem_filter] at this;exact p2_3 k t rfl (by simpa using this.2) (by simpa using this.1)
theorem ZcE{f:EF}{r:AF}{hp hp1 hp2:Hp}{v:MV}{vs:List MV}(h1:f ℓ hp=some (v,hp1))(h2:r ℓ hp1=some (vs,hp2)):Zd f r ℓ hp=some (v::vs,hp2):=by
 unfold Zd;simp only[h1,h2]
theorem Zor{N ksh kw:Nat}{ws wk:List Int}{hC:Hp}{W:List (List Nat)}(H:Data nm os ws)(Hk:Data nm os wk)(Q:QInv N nm os ws ℓ hC)(A:Ahead ksh nm os wk hC)(hksh:ksh≠0)(l24:ℓ[24]?=some (some (.ref kw)))(hkw0:kw≠0)(hW:hC[kw]?=some (.list (W.map .str)))(hWl:W.length≤50)(l26:ℓ[26]?=some (some (.ref ksh)))
 (hw:∀w∈W,(∀y∈w,y∈nm)∧w.Nodup∧w.length≤50∧laidT (Qh os wk) w=w) {rr:MV} (l22:ℓ[22]?=some (some rr)):
 ∃ℓ' h',s241 lamF 2 ℓ hC=some (.norm,ℓ',h')∧QInv N nm os ws ℓ' h'∧ZX [0] hC h'∧ℓ'[22]?=some (some rr)∧ℓ'[16]?=ℓ[16]?∧ℓ'[17]?=ℓ[17]?∧ℓ'[18]?=ℓ[18]?:=by
 have key:=Zaw (k:=kw) (N:=100) (it:=itE (Zf 24)) (tg:=tgL 27) (f:=Zn (s242 lamF 2) ZA) (xs:=W.map .str) (ℓ:=ℓ) (hp:=hC) (hp0:=hC)
  (I:=fun i ℓ' h=>QInv N nm os ws ℓ' h∧ZX [0] hC h∧ℓ'[26]?=some (some (.ref ksh))∧ℓ'[22]?=some (some rr)∧ℓ'[16]?=ℓ[16]?∧ℓ'[17]?=ℓ[17]?∧ℓ'[18]?=ℓ[18]?) (by simp[itE.eq_def,Zf,l24,hW]) (fun i ℓ' h I=>I.2.1.get hW (by simpa using hkw0))
  (fun i v ℓ' h hx I=>by
   refine x0_7 I fun Q K l26 l22 l16 l17 l18=>?_;rw[List.getElem?_map] at hx;cases hb:W[i]? with
   | none=>rw[hb] at hx;cases hx
   | some w=>
    rw[hb] at hx;refine oi1 hx fun yq=>?_;subst yq;refine x0_4 (hw w (List.mem_of_getElem? hb)) fun w1 w2 w3 w4=>?_;have QL:=Q.loc (Q.L.set (k:=27) (by decide) (some (.str w)));have k26:=ZT (j:=27) (by decide) (.str w) l26;have k22:=ZT (j:=27) (by decide) (.str w) l22;have k27:=Zlq Q.L (k:=27) (by decide) (.str w);have k16:(ℓ'.set 27 (some (MV.str w)))[16]?=ℓ[16]?:=by rw[List.getElem?_set_ne (by decide)];exact l16
    have k17:(ℓ'.set 27 (some (MV.str w)))[17]?=ℓ[17]?:=by rw[List.getElem?_set_ne (by decide)];exact l17
    have k18:(ℓ'.set 27 (some (MV.str w)))[18]?=ℓ[18]?:=by rw[List.getElem?_set_ne (by decide)];exact l18
    have et:tgL 27 (.str w) ℓ' h=some (ℓ'.set 27 (some (.str w)),h):=rfl;generalize ℓ'.set 27 (some (MV.str w))=ℓ1 at QL k26 k22 k27 k16 k17 k18 et;have Qa:=QL.app [.list [.bool false,.bool true]];have Ka:ZX [0] hC (h++[.list [.bool false,.bool true]]):=K.trans (ZX.app _ _ _);have gb:=Zv h (.list [.bool false,.bool true]);have h24:=Q.h24;have hit:itE (ZH (Zd (Zb (.bool false)) (Zd (Zb (.bool true)) Zp))) ℓ1 h=some (.list h.length,h++[.list [.bool false,.bool true]]):=by simp[itE.eq_def,ZH,Zd,Zp,Zb]
    generalize hlen:h.length=kb at gb hit h24;generalize h++[MO.list [.bool false,.bool true]]=h1 at Qa Ka gb hit;have inner:=Zaw (k:=kb) (N:=100) (tg:=tgL 28) (f:=Zn (s243 lamF 2) ZA) (xs:=[.bool false,.bool true]) hit
     (I:=fun i ℓ' h=>QInv N nm os ws ℓ' h∧ZX [0] hC h∧h[kb]?=some (.list [.bool false,.bool true])∧ℓ'[26]?=some (some (.ref ksh))∧ℓ'[27]?=some (some (.str w))∧ℓ'[22]?=some (some rr)∧ℓ'[16]?=ℓ[16]?∧ℓ'[17]?=ℓ[17]?∧ℓ'[18]?=ℓ[18]?) (fun i ℓ' h I=>I.2.2.1)
     (fun i v ℓ' h hx I=>by
      refine x0_9 I fun Q K gb l26 l27 l22 l16 l17 l18=>?_;obtain ⟨bl,rfl⟩:∃bl,v=.bool bl:=by
       have:=List.mem_of_getElem? hx;simp only[List.mem_cons,List.not_mem_nil,or_false] at this;rcases this with rfl | rfl<;>exact ⟨_,rfl⟩
      have QL:=Q.loc (Q.L.set (k:=28) (by decide) (some (.bool bl)));have k26:=ZT (j:=28) (by decide) (.bool bl) l26;have k27:=ZT (j:=28) (by decide) (.bool bl) l27;have k22:=ZT (j:=28) (by decide) (.bool bl) l22;have k28:=Zlq Q.L (k:=28) (by decide) (.bool bl);have k16:(ℓ'.set 28 (some (MV.bool bl)))[16]?=ℓ[16]?:=by rw[List.getElem?_set_ne (by decide)];exact l16
      have k17:(ℓ'.set 28 (some (MV.bool bl)))[17]?=ℓ[17]?:=by rw[List.getElem?_set_ne (by decide)];exact l17
      have k18:(ℓ'.set 28 (some (MV.bool bl)))[18]?=ℓ[18]?:=by rw[List.getElem?_set_ne (by decide)];exact l18
      have et:tgL 28 (.bool bl) ℓ' h=some (ℓ'.set 28 (some (.bool bl)),h):=rfl;generalize ℓ'.set 28 (some (MV.bool bl))=ℓ2 at QL k26 k22 k27 k28 k16 k17 k18 et;have hwl:w.length≤100000:=by lia
      have el:∀hh:Hp,Zr ZfI (Zd (Zf 27) Zp) ℓ2 hh=some (.ref hh.length,hh++[.list (w.map fun a=>.str [a])]):=fun hh=>by
       simp[Zr,Zd,Zp,Zf,k27,ZfI.eq_def,hwl]
      have harg:Zd (Zr ZfI (Zd (Zf 27) Zp)) (Zd (Zf 9) (Zd (Zf 26) (Zd (Zf 28) Zp))) ℓ2 h=some ([.ref h.length,.ref 21,.ref ksh,.bool bl],h++[.list (w.map fun a=>.str [a])]):=by
       exact ZcE (el h) (ZcE (ZR QL.L.l9) (ZcE (ZR k26) (ZcE (ZR k28) rfl)))
      have hh24:=Q.h24;obtain ⟨h',e,K',T'⟩:=Zhm (us:=w) (fr:=Zr ZfI (Zd (Zf 27) Zp)) H Hk QL (A.keepL (K.trans (ZX.app _ _ [.list (w.map fun a=>.str [a])])) (by simp) hksh) (ZX.app _ _ _) (Zv h (.list (w.map fun a=>.str [a]))) (by lia) hksh w1 w2 w3 harg w4
       (fun h3 K3 T3=>⟨h3.length,h3++[.list (w.map fun a=>.str [a])],ZX.app _ _ _,T3.app _,el h3,Zv _ _⟩)
      exact ⟨ℓ2,h,ℓ2,h',et,(Zl (f1:=s243 lamF 2) (Zdk e)).trans rfl,QL.keep0 K' T' QL.L,K.trans K',K'.get gb (by simp;lia),k26,k27,k22,k16,k17,k18⟩)
     ⟨Qa,Ka,gb,k26,k27,k22,k16,k17,k18⟩ (by decide)
    refine x2_10 inner fun ℓ3 h3 e3 Q3 K3 υ m26 υ m22 m16 m17 m18=>?_;exact ⟨ℓ1,h,ℓ3,h3,et,(Zl (f1:=s242 lamF 2) e3).trans rfl,Q3,K3,m26,m22,m16,m17,m18⟩) ⟨Q,ZX.refl _ _,l26,l22,rfl,rfl,rfl⟩ (by simp;lia)
 refine x2_8 key fun ℓ' h' e Q' K' υ m22 m16 m17 m18=>?_;exact p2_7 ℓ' h' e Q' K' m22 m16 m17 m18
noncomputable def ZbT(k0 k1 k2:Nat):Nat→List Int
 | 0=>[0,0,0,0,0]
 | 1=>[0,0,0,0,0].set k0 170
 | 2=>([0,0,0,0,0].set k0 170).set k1 170
 | _=>(([0,0,0,0,0].set k0 170).set k1 170).set k2 170
theorem ZaK(k0 k1 k2:Nat):∀i,(ZbT k0 k1 k2 i).length=5
 | 0=>rfl
 | 1=>by simp[ZbT]
 | 2=>by simp[ZbT]
 | n+3=>by simp[ZbT]
theorem Zen{L:List Int}{k:Nat}{v:Int}(hk:k < L.length)(hl:L.length≤1000):setI (hp++[MO.list (L.map MV.int)]) (.ref hp.length) (.int k) (.int v)=some (hp++[MO.list ((L.set k v).map MV.int)]):=by
 unfold setI;simp only[Zv];rw[if_pos ⟨by lia,by simp;lia,by simp;lia⟩,ZbI];simp[List.map_set]
theorem ZiB{f fo fi:EF}{hp hp1 hp2 hp3 hp4:Hp}{v o i:MV}(h1:f ℓ hp=some (v,hp1))(h2:fo ℓ hp1=some (o,hp2))(h3:fi ℓ hp2=some (i,hp3))(h4:setI hp3 o i v=some hp4):asgI f fo fi ℓ hp=some (.norm,ℓ,hp4):=by
 unfold asgI;simp only[h1,h2,h3,h4]
theorem Zkc{N sp r0 r1 r2 k0 k1 k2:Nat}{t0 t1 t2:List Nat}{hA:Hp}(Q:QInv N nm os ws ℓ hA)(hs:hA[sp]?=some (.list [.ref r0,.ref r1,.ref r2]))(h0:hA[r0]?=some (.list (Qo (k0::t0))))(h1:hA[r1]?=some (.list (Qo (k1::t1))))(h2:hA[r2]?=some (.list (Qo (k2::t2))))
 (l25:ℓ[25]?=some (some (.ref sp))) (l26:ℓ[26]?=some (some (.ref hA.length))) (b0:k0 < 5) (b1:k1 < 5) (b2:k2 < 5):
 ∃ℓ',s238 lamF 2 ℓ (hA++[.list ((ZbT k0 k1 k2 0).map .int)])=some (.norm,ℓ',hA++[.list ((ZbT k0 k1 k2 3).map .int)])∧s240 lamF 2 ℓ' (hA++[.list ((ZbT k0 k1 k2 3).map .int)])=some (.norm,ℓ',hA++[.list ((ZaY k0 k1 k2).map .int)])∧PairLoc ℓ'∧(∀k,k≠21→ℓ'[k]?=ℓ[k]?):=by
 have gsp:∀m:MO,(hA++[m])[sp]?=some (.list [.ref r0,.ref r1,.ref r2]):=fun m=>Zk hs _;have g0:∀m:MO,(hA++[m])[r0]?=some (.list (Qo (k0::t0))):=fun m=>Zk h0 _;have g1:∀m:MO,(hA++[m])[r1]?=some (.list (Qo (k1::t1))):=fun m=>Zk h1 _;have g2:∀m:MO,(hA++[m])[r2]?=some (.list (Qo (k2::t2))):=fun m=>Zk h2 _;have hd:∀(m:MO) (r k:Nat) (t:List Nat),(hA++[m])[r]?=some (.list (Qo (k::t)))→ZnG (hA++[m]) (.ref r) (.int 0)=some (.int k):=fun m r k t h=>by
  simp[ZnG.eq_def,h,Qo]
 have step:=ZfR (a:=0) (m:=3) (tg:=tgL 21) (f:=Zn (s239 lamF 2) ZA) (I:=fun i ℓ' h=>h=hA++[.list ((ZbT k0 k1 k2 i).map .int)]∧PairLoc ℓ'∧∀k,k≠21→ℓ'[k]?=ℓ[k]?)
  (fun i ℓ' h hi I=>by
   refine ZjW I fun yq L hl=>?_;subst yq;have k25:=ZT (j:=21) (by decide) (.int ((0:Int)+i)) ((hl 25 (by decide)).trans l25);have k26:=ZT (j:=21) (by decide) (.int ((0:Int)+i)) ((hl 26 (by decide)).trans l26);have k21:=Zlq L (k:=21) (by decide) (.int ((0:Int)+i));have L2:=L.set (k:=21) (by decide) (some (.int ((0:Int)+i)));have hl2:∀k,k≠21→(ℓ'.set 21 (some (.int ((0:Int)+i))))[k]?=ℓ[k]?:=fun k hk=>by rw[List.getElem?_set_ne (Ne.symm hk)];exact hl k hk
   have et:tgL 21 (.int ((0:Int)+i)) ℓ' (hA++[.list ((ZbT k0 k1 k2 i).map .int)])=some (ℓ'.set 21 (some (.int ((0:Int)+i))),hA++[.list ((ZbT k0 k1 k2 i).map .int)]):=rfl;generalize ℓ'.set 21 (some (MV.int ((0:Int)+i)))=ℓ2 at k25 k26 k21 L2 hl2 et;refine p4_5 ℓ2 _ ℓ2 (hA++[.list ((ZbT k0 k1 k2 (i+1)).map .int)]) et ?_ rfl L2 hl2;refine (Zl (f1:=s239 lamF 2) ?_).trans rfl;have hi:i=0∨i=1∨i=2:=by lia
   rcases hi with rfl | rfl | rfl
   · exact ZiB rfl (ZR k26) (ZaM (ZaM (ZR k25) (ZR k21) (by simp[ZnG.eq_def,gsp])) rfl (hd _ _ _ _ (g0 _))) (Zen (by rw[ZaK];exact b0) (by rw[ZaK];decide))
   · exact ZiB rfl (ZR k26) (ZaM (ZaM (ZR k25) (ZR k21) (by simp[ZnG.eq_def,gsp])) rfl (hd _ _ _ _ (g1 _))) (Zen (by rw[ZaK];exact b1) (by rw[ZaK];decide))
   · exact ZiB rfl (ZR k26) (ZaM (ZaM (ZR k25) (ZR k21) (by simp[ZnG.eq_def,gsp])) rfl (hd _ _ _ _ (g2 _))) (Zen (by rw[ZaK];exact b2) (by rw[ZaK];decide)))
  100 0 ℓ (hA++[.list ((ZbT k0 k1 k2 0).map .int)]) ⟨rfl,Q.L,fun υ υ=>rfl⟩ (by decide) (by decide)
 refine Qs step fun ℓ' h' e yq L hl=>?_;subst yq;refine p1_4 ℓ' e ?_ L hl;exact ZiB rfl (ZR ((hl 26 (by decide)).trans l26)) (ZaM (ZaM (ZR ((hl 25 (by decide)).trans l25)) rfl (by simp[ZnG.eq_def,gsp])) rfl (hd _ _ _ _ (g0 _))) (Zen (by rw[ZaK];exact b0) (by rw[ZaK];decide))
noncomputable def Ziu:SF:=(Zn (s233 lamF 2) (Zn (s234 lamF 2) (Zn (s235 lamF 2) ZA)))
theorem ZiS{N a b c:Nat}{r:Int}(H:Data nm os ws)(Q:QInv N nm os ws ℓ hp)(hN:N≤400)(l22:ℓ[22]?=some (some (.int r)))(l23:ℓ[23]?=some (some (.str [a,b,c])))
 (hab:a≠b) (hac:a≠c) (hbc:b≠c) (ha:a∈nm) (hb:b∈nm) (hc:c∈nm) (hp3:[a,b,c]∈permsOf nm∧[b,c,a]∈permsOf nm∧[c,a,b]∈permsOf nm):
 ∃ℓ' hp',Ziu ℓ hp=some (.norm,ℓ',hp')∧QInv (N+15) nm os ws ℓ' hp'∧ZX [0,20] hp hp'∧ℓ'[22]?=some (some (.int (if full os [a,b,c] then r+1 else r))):=by
 have h24:=Q.h24;have e1:s233 lamF 2 ℓ hp=some (.norm,ℓ.set 24 (some (.ref hp.length)),hp++[.list [.str [a,b,c],.str [b,c,a],.str [c,a,b]]]):=by
  simp[s233,ZU,ZH,Zd,Zp,Zf,l23,ZB,ZgR,Qj,noP,Zb,ZiQ,sl_a1,sl_b1,sl_a2,sl_b2,Zix.eq_def]
 have Q1:=(Q.app [.list [.str [a,b,c],.str [b,c,a],.str [c,a,b]]]).loc (Q.L.set (k:=24) (by decide) (some (.ref hp.length)));have k24:=Zlq Q.L (k:=24) (by decide) (.ref hp.length);have k22:=ZT (j:=24) (by decide) (.ref hp.length) l22;have gW:=Zv hp (.list [.str [a,b,c],.str [b,c,a],.str [c,a,b]]);have K1:ZX [0,20] hp (hp++[.list [.str [a,b,c],.str [b,c,a],.str [c,a,b]]]):=ZX.app _ _ _;generalize ℓ.set 24 (some (MV.ref hp.length))=ℓ1 at e1 Q1 k24 k22;generalize hkw:hp.length=kw at e1 k24 gW h24;generalize hp++[MO.list [.str [a,b,c],.str [b,c,a],.str [c,a,b]]]=h1 at e1 Q1 gW K1;obtain ⟨sp,r0,r1,r2,h2,e2,Q2,K2,hsp,gs,g0,g1,g2,b0,b1,b2⟩:=Znu H Q1 (by lia) k24 gW h24 (by
  intro w hw;simp only[List.mem_cons,List.not_mem_nil,or_false] at hw;rcases hw with rfl | rfl | rfl
  · exact hp3.1
  · exact hp3.2.1
  · exact hp3.2.2)
 have e2':s234 lamF 2 ℓ1 h1=some (.norm,ℓ1.set 25 (some (.ref sp)),h2):=by
  unfold s234 ZU;rw[e2]
 have Q2':=Q2.loc (Q1.L.set (k:=25) (by decide) (some (.ref sp)));have k25:=Zlq Q1.L (k:=25) (by decide) (.ref sp);have k24':=ZT (j:=25) (by decide) (.ref sp) k24;have k22':=ZT (j:=25) (by decide) (.ref sp) k22;generalize ℓ1.set 25 (some (MV.ref sp))=ℓ2 at e2' Q2' k25 k24' k22';have gW2:=K2.get gW (by simp;lia);have Q3:=Q2'.app [.list []];have ht:ZS .NotIn (ZH Zp) (Zf 25) ℓ2 h2=some (full os [a,b,c],h2++[.list []]):=by
  refine Zar (a:=.ref h2.length) (b:=.ref sp) (hp1:=h2++[.list []]) rfl (ZR k25) ?_;have:=in_spots (Zv h2 (.list [])) (Zk gs _) (Zk g0 _) (Zk g1 _) (Zk g2 _);show ZkG (inC _ _ _)=_
  rw[this];rfl
 have K3:ZX [0,20] hp (h2++[.list []]):=(K1.trans K2).trans (ZX.app _ _ _);have gs:=Zk gs [.list []];have g0:=Zk g0 [.list []];have g1:=Zk g1 [.list []];have g2:=Zk g2 [.list []];have gW3:=Zk gW2 [.list []];generalize h2++[MO.list []]=h3 at Q3 ht K3 gs g0 g1 g2 gW3;cases hf:full os [a,b,c] with
 | false=>
  rw[hf] at ht;refine p2_4 ℓ2 h3 ?_ Q3 K3 (by simpa using k22');unfold Ziu;rw[Zl e1,Zl e2',Zl (f1:=s235 lamF 2) (Zdk ht)];rfl
 | true=>
  rw[hf] at ht;simp only[full,rots.eq_def,List.map_cons,List.map_nil,Bool.not_eq_true',List.any_cons,List.any_nil,Bool.or_false,Bool.or_eq_false_iff] at hf;refine ZjW hf fun f0 f1 f2=>?_;refine ZiK (Zdz f0) fun k0 t0 s0 o0 c0=>?_;refine ZiK (Zdz f1) fun k1 t1 s1 o1 c1=>?_;refine ZiK (Zdz f2) fun k2 t2 s2 o2 c2=>?_;rw[s0] at g0;rw[s1] at g1;rw[s2] at g2;refine Qe (H.shares hp3.1 ⟨by simp[hab],by simp[hac],by simp[hbc]⟩ o0 o1 o2) fun HS hrows=>?_;have e3:s236 lamF 2 ℓ2 h3=some (.norm,ℓ2.set 22 (some (.int (r+1))),h3):=by
   simp[s236,Ziz,Zf,k22',Zb,iop.eq_def]
  have Q4:=Q3.loc (Q3.L.set (k:=22) (by decide) (some (.int (r+1))));have m22:=Zlq Q3.L (k:=22) (by decide) (.int (r+1));have m24:=ZT (j:=22) (by decide) (.int (r+1)) k24';have m25:=ZT (j:=22) (by decide) (.int (r+1)) k25;generalize ℓ2.set 22 (some (MV.int (r+1)))=ℓ3 at e3 Q4 m22 m24 m25;have e4:s237 lamF 2 ℓ3 h3=some (.norm,ℓ3.set 26 (some (.ref h3.length)),h3++[.list ((ZbT k0 k1 k2 0).map .int)]):=by
   kernel_rfl
  have Q5:=Q4.loc (Q4.L.set (k:=26) (by decide) (some (.ref h3.length)));have n22:=ZT (j:=26) (by decide) (.ref h3.length) m22;have n24:=ZT (j:=26) (by decide) (.ref h3.length) m24;have n25:=ZT (j:=26) (by decide) (.ref h3.length) m25;have n26:=Zlq Q4.L (k:=26) (by decide) (.ref h3.length);generalize ℓ3.set 26 (some (MV.ref h3.length))=ℓ4 at e4 Q5 n22 n24 n25 n26;refine Zgv (Zkc (k0:=k0) (k1:=k1) (k2:=k2) Q5 gs g0 g1 g2 n25 n26 c0 c1 c2) fun ℓ5 e5 e6 L5 hl5=>?_;have Q6:=(Q5.app [.list ((ZaY k0 k1 k2).map .int)]).loc L5;have A6:Ahead h3.length nm os (ZaY k0 k1 k2) (h3++[.list ((ZaY k0 k1 k2).map .int)]):=by
   refine ZJ Q5.A.d fun es d1 d2=>?_;refine ⟨⟨es,Zk d1 _,fun x hx y hy=>?_⟩,Zv _ _⟩;refine Zgv (d2 x hx y hy) fun q q1 q2 q3 q4=>?_;have:=Zac q4;exact p1_4 q q1 (by lia) q3 (Zk q4 _)
  have h3l:=Q5.h24;obtain ⟨ℓ7,h7,e7,Q7,K7,m7,_⟩:=Zor (W:=[[a,b,c],[b,c,a],[c,a,b]]) H HS Q6 A6 (by lia) ((hl5 24 (by decide)).trans n24) (by lia) (Zk gW3 _) (by simp) ((hl5 26 (by decide)).trans n26) (fun w hw=>by
   have hpm:=perm3r hw;refine ⟨fun y hy=>?_,?_,?_,hrows w hw⟩
   · have hy:=hpm.mem_iff.mp hy;rcases lmc hy with rfl | hy
     · assumption
     rcases lmc hy with rfl | hy
     · assumption
     rw[lms hy];assumption
   · rw[hpm.nodup_iff];simp;lia
   · rw[hpm.length_eq];exact Nat.le_of_ble_eq_true rfl) ((hl5 22 (by decide)).trans n22)
  refine p2_4 ℓ7 h7 ?_ Q7 ((K3.trans (ZX.app _ _ _)).trans (K7.mono (by simp))) (by simpa using m7);unfold Ziu;rw[Zl e1,Zl e2',Zl (f1:=s235 lamF 2) ((Zgy ht).trans ((Zl e3).trans ((Zl e4).trans ((Zl e5).trans ((Zl e6).trans ((Zl e7).trans rfl))))))];rfl
theorem ZoI{x y z:Nat}(H:Data [x,y,z] os ws)(Q:QInv N [x,y,z] os ws ℓ hp)(hN:N≤300)(l13:ℓ[13]?=some (some (.bool false)))(hk:[x,y,z].any (Zgs os)=false)(l16:ℓ[16]?=some (some (.str [x])))(l17:ℓ[17]?=some (some (.str [y])))(l18:ℓ[18]?=some (some (.str [z]))):
 ∃ℓ' hp',ZfU lamF 2 ℓ hp=some (.norm,ℓ',hp')∧QInv (N+30) [x,y,z] os ws ℓ' hp':=by
 have nd:=H.nodup.1;simp only[List.nodup_cons,List.mem_cons,List.not_mem_nil,or_false,not_or,not_false_eq_true,List.nodup_nil,and_true] at nd;refine Qe nd fun yq n3=>?_;refine Qe yq fun n1 n2=>?_;have e0:Zek (Zf 13) ℓ hp=some (false,hp):=by simp[Zek,Zf,l13,truth.eq_def]
 have e1:s231 lamF 2 ℓ hp=some (.norm,ℓ.set 22 (some (.int 0)),hp):=rfl;have Q1:=Q.loc (Q.L.set (k:=22) (by decide) (some (.int 0)));have k22:=Zlq Q.L (k:=22) (by decide) (.int 0);have k16:=ZT (j:=22) (by decide) (.int 0) l16;have k17:=ZT (j:=22) (by decide) (.int 0) l17;have k18:=ZT (j:=22) (by decide) (.int 0) l18;generalize ℓ.set 22 (some (MV.int 0))=ℓ1 at e1 Q1 k22 k16 k17 k18;have hit:itE (ZH (Zd (ZB .Add (ZB .Add (Zf 16) (Zf 17)) (Zf 18)) (Zd (ZB .Add (ZB .Add (Zf 16) (Zf 18)) (Zf 17)) Zp))) ℓ1 hp=some (.list hp.length,hp++[.list [.str [x,y,z],.str [x,z,y]]]):=by
  simp[itE.eq_def,ZH,Zd,Zp,ZB,Zf,k16,k17,k18,Zix.eq_def]
 have Q2:=Q1.app [.list [.str [x,y,z],.str [x,z,y]]];have gr:=Zv hp (.list [.str [x,y,z],.str [x,z,y]]);have h24:=Q.h24;generalize hp.length=kr at hit gr h24;have mx:x∈[x,y,z]:=by simp
 have my:y∈[x,y,z]:=by simp
 have mz:z∈[x,y,z]:=by simp
 have key:=Zaw (k:=kr) (N:=100) (tg:=tgL 23) (f:=Ziu) (xs:=[.str [x,y,z],.str [x,z,y]]) hit
  (I:=fun i ℓ h=>QInv (N+15 * i) [x,y,z] os ws ℓ h∧h[kr]?=some (.list [.str [x,y,z],.str [x,z,y]])∧∃r:Int,0≤r∧ℓ[22]?=some (some (.int r))∧((1≤i∧full os [x,y,z]=true)∨(2≤i∧full os [x,z,y]=true)→1≤r)) (fun i ℓ h I=>I.2.1)
  (fun i v ℓ h hx I=>by
   obtain ⟨Q,gr,r,hr0,l22,himp⟩:=I;have hi:i < 2:=(lge hx).1;have QL:=Q.loc (Q.L.set (k:=23) (by decide) (some v));have k22:=ZT (j:=23) (by decide) v l22;have k23:=Zlq Q.L (k:=23) (by decide) v;have et:tgL 23 v ℓ h=some (ℓ.set 23 (some v),h):=rfl;generalize ℓ.set 23 (some v)=ℓ2 at QL k22 k23 et;have hi:i=0∨i=1:=by lia
   rcases hi with rfl | rfl
   · obtain rfl:v=.str [x,y,z]:=by simpa using hx.symm
     refine Qs (ZiS H QL (by lia) k22 k23 n1 n2 n3 mx my mz ⟨by simp[permsOf.eq_def],by simp[permsOf.eq_def],by simp[permsOf.eq_def]⟩) fun ℓ' h' e Q' K' l'=>?_;refine ⟨ℓ2,h,ℓ',h',et,e,Q',K'.get gr (by simp;lia),_,?_,l',?_⟩
     · split<;>lia
     · rintro (⟨_,hf⟩ | ⟨h2,_⟩)
       · rw[if_pos hf];lia
       · lia
   · obtain rfl:v=.str [x,z,y]:=by simpa using hx.symm
     refine Qs (ZiS H QL (by lia) k22 k23 n2 n1 (Ne.symm n3) mx mz my ⟨by simp[permsOf.eq_def],by simp[permsOf.eq_def],by simp[permsOf.eq_def]⟩) fun ℓ' h' e Q' K' l'=>?_;refine ⟨ℓ2,h,ℓ',h',et,e,Q',K'.get gr (by simp;lia),_,?_,l',?_⟩
     · split<;>lia
     · rintro (⟨_,hf⟩ | ⟨_,hf⟩)
       · have:=himp (.inl ⟨by lia,hf⟩);split<;>lia
       · rw[if_pos hf];lia) ⟨Q2,gr,0,by lia,k22,by rintro (⟨h,_⟩ | ⟨h,_⟩)<;>lia⟩ (by simp)
 obtain ⟨ℓ',h',e2,Q',_,r,hr0,l22,himp⟩:=key;have hr1:1≤r:=himp (by
  rcases H.some_ring hk with h | h
  · exact .inl ⟨by simp,h⟩
  · exact .inr ⟨by simp,h⟩)
 have e3:s245 lamF 2 ℓ' h'=some (.norm,ℓ',h'):=Zdk (Zar (ZR l22) rfl (by
  have:¬r=0:=by lia
  simp[ZdE.eq_def,eqC.eq_def,this]))
 refine ZeN ℓ' h' ?_ Q';unfold ZfU;rw[Zl (show s224 lamF 2 ℓ hp=some (.norm,ℓ',h') from (Zgz e0).trans ((Zl e1).trans ((Zl (f1:=s232 lamF 2) e2).trans ((Zl e3).trans rfl))))];rfl
end
end
set_option tactic.hygienic true
section
variable {nm:List Nat} {os:List (List Nat)} {ws:List Int} {ℓ:Loc} {hp:Hp} {N:Nat}
section
noncomputable def Zlo(lt:Nat→Nat→Bool)(S:List Nat)(n:Nat):List Nat:=Qg (bsr (fun m=>lt n (S.getD m 0)) 100 0 S.length) n S
noncomputable def turnS(lt:Nat→Nat→Bool)(S:List Nat)(n:Nat):List Nat:=Qg (bsr (fun m=>!lt (S.getD m 0) n) 100 0 S.length) n S
noncomputable def shelfI(lt:Nat→Nat→Bool):Nat→List Nat
 | 0=>[]
 | n+1=>Zlo lt (shelfI lt n) n
noncomputable def turnI(lt:Nat→Nat→Bool):Nat→List Nat
 | 0=>[]
 | n+1=>turnS lt (turnI lt n) n
noncomputable def Zcn{α:Type}(n:Nat)(lt:Nat→Nat→Bool):KasT α→Option α
 | .ret a=>some a
 | .ask i j k=>if Nat.blt i n&&Nat.blt j n then Zcn n lt (k (lt i j)) else none
noncomputable def ltN(ks:List Nat)(i j:Nat):Bool:=Nat.blt (ks.getD i 0) (ks.getD j 0)
noncomputable def Zec(p q r:Nat×Nat):List Nat:=[0,p.1,q.1,p.2,0,r.1,q.2,r.2,0]
noncomputable def P8:List (Nat×Nat):=[(0,7),(1,6),(2,5),(3,4),(4,3),(5,2),(6,1),(7,0)]
noncomputable def vd:List Bool:=List.replicate 6 true++List.replicate 3 false
noncomputable def okN(ks:List Nat):Bool:=(match Zcn 9 (ltN ks) (kas_sort 9) with
 | some A=>decide (shelfI (ltN ks) 9=A.toList)
 | none=>false)&&(match Zcn 9 (fun i j=>ltN ks (8 - i) (8 - j)) (kas_sort 9) with
 | some B=>decide (turnI (ltN ks) 9=B.toList.map fun i=>8 - i)&&B.toList.all fun i=>Nat.blt i 9
 | none=>false)&&decide ((shelfI (ltN ks) 9).map (fun j=>Nat.blt (ks.getD j 0) 4)=vd)
theorem okN_fin0:(P8.all fun q=>P8.all fun r=>okN (Zec (0,7) q r))=true:=by decide +kernel
theorem okN_fin1:(P8.all fun q=>P8.all fun r=>okN (Zec (1,6) q r))=true:=by decide +kernel
theorem okN_fin2:(P8.all fun q=>P8.all fun r=>okN (Zec (2,5) q r))=true:=by decide +kernel
theorem okN_fin3:(P8.all fun q=>P8.all fun r=>okN (Zec (3,4) q r))=true:=by decide +kernel
theorem okN_fin4:(P8.all fun q=>P8.all fun r=>okN (Zec (4,3) q r))=true:=by decide +kernel
theorem okN_fin5:(P8.all fun q=>P8.all fun r=>okN (Zec (5,2) q r))=true:=by decide +kernel
theorem okN_fin6:(P8.all fun q=>P8.all fun r=>okN (Zec (6,1) q r))=true:=by decide +kernel
theorem okN_fin7:(P8.all fun q=>P8.all fun r=>okN (Zec (7,0) q r))=true:=by decide +kernel
theorem okN_all(p q r:Nat×Nat)(hp:p∈P8)(hq:q∈P8)(hr:r∈P8):okN (Zec p q r)=true:=by
 have h:(P8.all fun q=>P8.all fun r=>okN (Zec p q r))=true:=by
  simp only[P8,List.mem_cons,List.not_mem_nil,or_false] at hp;rcases hp with rfl | rfl | rfl | rfl | rfl | rfl | rfl | rfl
  · exact okN_fin0
  · exact okN_fin1
  · exact okN_fin2
  · exact okN_fin3
  · exact okN_fin4
  · exact okN_fin5
  · exact okN_fin6
  · exact okN_fin7
 exact lae (lae h q hq) r hr
noncomputable def cnt(L:List Int)(v:Int):Nat:=L.countP fun u=>decide (u < v)
theorem Zio:∀(L:List Int) (v w:Int),v≤w→cnt L v≤cnt L w:=by
 intro L;induction L with
 | nil=>
  intro υ υ υ;exact Nat.le_refl _
 | cons u L ih=>
  intro v w h;have:=ih v w h;unfold cnt at this ⊢;rw[List.countP_cons,List.countP_cons];by_cases h1:u < v
  · have:u < w:=by lia
    simp[h1,this];lia
  · simp[h1];lia
theorem Zpq:∀(L:List Int) (v w:Int),v∈L→v < w→cnt L v < cnt L w
 | u::L,v,w,hm,h=>by
  have h1:=Zio L v w (by lia);unfold cnt at h1 ⊢;rw[List.countP_cons,List.countP_cons];by_cases hu:u=v
  · subst hu;simp[h];lia
  · have h2:=Zpq L v w (by rcases lmc hm with e | e;exact absurd e.symm hu;exact e) h;unfold cnt at h2;by_cases h1:u < v
    · have:u < w:=by lia
      simp[h1,this];lia
    · simp[h1];lia
theorem ZbB:∀(L:List Int) (v:Int),v∈L→cnt L v < L.length
 | u::L,v,hm=>by
  unfold cnt;rw[List.countP_cons,List.length_cons];by_cases hu:u=v
  · subst hu;have:L.countP (fun x=>decide (x < u))≤L.length:=List.countP_le_length;simp;lia
  · have h2:=ZbB L v (by rcases lmc hm with e | e;exact absurd e.symm hu;exact e);unfold cnt at h2;by_cases h1:u < v
    · simp[h1];lia
    · simp[h1];lia
noncomputable def rk(L:List Int)(v:Int):Nat:=if v < 256 then cnt L v else 7 - cnt L (511 - v)
noncomputable def Good(L:List Int)(v:Int):Prop:=0≤v∧v≤511∧((v < 256∧v∈L)∨(256≤v∧511 - v∈L))
theorem rk_lt{L:List Int}(hL:L.length=4){v w:Int}(hv:Good L v)(hw:Good L w):decide (v < w)=Nat.blt (rk L v) (rk L w):=by
 refine ZjW hv fun v0 v1 hv=>?_;refine ZjW hw fun w0 w1 hw=>?_;have e:(rk L v < rk L w)↔v < w:=by
  unfold rk;rcases hv with ⟨a,b⟩ | ⟨a,b⟩<;>rcases hw with ⟨c,d⟩ | ⟨c,d⟩
  · rw[if_pos a,if_pos c];constructor
    · intro h;by_cases hh:v < w
      · exact hh
      · have:=Zio L w v (by lia);lia
    · exact Zpq L v w b
  · rw[if_pos a,if_neg (by lia)];have:=ZbB L v b;have:=ZbB L _ d;constructor<;>intro h<;>lia
  · rw[if_neg (by lia),if_pos c];have:=ZbB L _ b;have:=ZbB L _ d;constructor<;>intro h<;>lia
  · rw[if_neg (by lia),if_neg (by lia)];have:=ZbB L _ b;have:=ZbB L _ d;constructor
    · intro h;by_cases hh:v < w
      · exact hh
      · have:=Zio L (511 - v) (511 - w) (by lia);lia
    · intro h;have:=Zpq L (511 - w) (511 - v) d (by lia);lia
 by_cases h:v < w
 · rw[decide_eq_true h];have:=e.mpr h;symm
   rw[Nat.blt_eq];exact this
 · rw[decide_eq_false h];have:¬rk L v < rk L w:=fun x=>h (e.mp x);symm
   rw[← Bool.not_eq_true,Nat.blt_eq];exact this
theorem rk_256{L:List Int}(hL:L.length=4){v:Int}(hv:Good L v):decide (v < 256)=Nat.blt (rk L v) 4:=by
 refine ZjW hv fun v0 v1 hv=>?_;unfold rk;rcases hv with ⟨a,b⟩ | ⟨a,b⟩
 · have:=ZbB L _ b;rw[if_pos a,decide_eq_true a];symm
   rw[Nat.blt_eq];lia
 · have:=ZbB L _ b;rw[if_neg (by lia),decide_eq_false (by lia)];symm
   rw[← Bool.not_eq_true,Nat.blt_eq];lia
theorem rk_P8{L:List Int}(hL:L.length=4){v:Int}(hv:Good L v):(rk L v,rk L (511 - v))∈P8:=by
 refine ZjW hv fun v0 v1 hv=>?_;have key:∃c,c < 4∧((rk L v=c∧rk L (511 - v)=7 - c)∨(rk L v=7 - c∧rk L (511 - v)=c)):=by
  unfold rk;rcases hv with ⟨a,b⟩ | ⟨a,b⟩
  · have:=ZbB L _ b;refine Qd (cnt L v) (by lia) (.inl ⟨if_pos a,?_⟩);rw[if_neg (by lia),show (511:Int) - (511 - v)=v by lia]
  · have:=ZbB L _ b;exact Qd (cnt L (511 - v)) (by lia) (.inr ⟨if_neg (by lia),if_pos (by lia)⟩)
 refine ZJ key fun c hc h=>?_;rcases h with ⟨h1,h2⟩ | ⟨h1,h2⟩<;>rw[h1,h2]<;>match c,hc with
  | 0,_=>decide
  | 1,_=>decide
  | 2,_=>decide
  | 3,_=>decide
noncomputable def ZcW(p q r:Int):List Int:=[0,p,q,511 - p,0,r,511 - q,511 - r,0]
noncomputable def ltK(ks:List Int)(i j:Nat):Bool:=decide (ks.getD i 0 < ks.getD j 0)
theorem Zop{α:Type}{ks:List Int}(hl:ks.length=9):∀t:KasT α,Zby ks t=Zcn 9 (ltK ks) t
 | .ret a=>rfl
 | .ask i j k=>by
  unfold Zby Zcn;by_cases hi:i < 9
  · by_cases hj:j < 9
    · have h1:ks[i]?=some (ks.getD i 0):=by rw[List.getD_eq_getElem?_getD,List.getElem?_eq_getElem (by lia)];rfl
      have h2:ks[j]?=some (ks.getD j 0):=by rw[List.getD_eq_getElem?_getD,List.getElem?_eq_getElem (by lia)];rfl
      have h3:(Nat.blt i 9&&Nat.blt j 9)=true:=by rw[Bool.and_eq_true,Nat.blt_eq,Nat.blt_eq];exact ⟨hi,hj⟩
      rw[h1,h2,if_pos h3];exact Zop hl _
    · have h2:ks[j]?=none:=List.getElem?_eq_none (by lia);have h3:¬(Nat.blt i 9&&Nat.blt j 9)=true:=by rw[Bool.and_eq_true,Nat.blt_eq,Nat.blt_eq];lia
      rw[h2,if_neg h3];cases ks[i]?<;>rfl
  · have h2:ks[i]?=none:=List.getElem?_eq_none (by lia);have h3:¬(Nat.blt i 9&&Nat.blt j 9)=true:=by rw[Bool.and_eq_true,Nat.blt_eq,Nat.blt_eq];lia
    rw[h2,if_neg h3]
theorem Znx{p q r:Int}(hp:0≤p∧p≤511)(hq:0≤q∧q≤511)(hr:0≤r∧r≤511):∃A B,Zby (ZcW p q r) (kas_sort 9)=some A∧Zby (ZcW p q r).reverse (kas_sort 9)=some B∧shelfI (ltK (ZcW p q r)) 9=A.toList∧turnI (ltK (ZcW p q r)) 9=B.toList.map (fun i=>8 - i)∧(∀i∈B.toList,i < 9)∧
 (shelfI (ltK (ZcW p q r)) 9).map (fun j=>decide ((ZcW p q r).getD j 0 < 256))=vd:=by
 have hL:∀l1 l2 l3:Int,([0,l1,l2,l3]:List Int).length=4:=fun υ υ υ=>rfl;refine ZW (⟨_,rfl⟩:∃l:Int,l=if p < 256 then p else 511 - p) fun l1 hl1=>?_;refine ZW (⟨_,rfl⟩:∃l:Int,l=if q < 256 then q else 511 - q) fun l2 hl2=>?_;refine ZW (⟨_,rfl⟩:∃l:Int,l=if r < 256 then r else 511 - r) fun l3 hl3=>?_;have good:∀v l:Int,0≤v∧v≤511→(l=if v < 256 then v else 511 - v)→l∈[0,l1,l2,l3]→Good [0,l1,l2,l3] v∧Good [0,l1,l2,l3] (511 - v):=by
  intro v l hv hl hm;by_cases h:v < 256
  · rw[if_pos h] at hl;subst hl;exact ⟨⟨hv.1,hv.2,.inl ⟨h,hm⟩⟩,⟨by lia,by lia,.inr ⟨by lia,by rw[show (511:Int) - (511 - l)=l by lia];exact hm⟩⟩⟩
  · rw[if_neg h] at hl;subst hl;exact ⟨⟨hv.1,hv.2,.inr ⟨by lia,hm⟩⟩,⟨by lia,by lia,.inl ⟨by lia,hm⟩⟩⟩
 refine Qe (good p l1 hp hl1 (by simp)) fun gp gp'=>?_;refine Qe (good q l2 hq hl2 (by simp)) fun gq gq'=>?_;refine Qe (good r l3 hr hl3 (by simp)) fun gr gr'=>?_;have g0:Good [0,l1,l2,l3] 0:=⟨by lia,by lia,.inl ⟨by lia,by simp⟩⟩;generalize hLL:[0,l1,l2,l3]=L at gp gp' gq gq' gr gr' g0;have hL4:L.length=4:=by rw[← hLL];rfl
 have r0:rk L 0=0:=by
  unfold rk cnt;rw[if_pos (by decide)];rw[← hLL];have h1:¬l1 < 0:=by rw[hl1];split<;>lia
  have h2:¬l2 < 0:=by rw[hl2];split<;>lia
  have h3:¬l3 < 0:=by rw[hl3];split<;>lia
  simp[h1,h2,h3]
 have hks:(ZcW p q r).map (rk L)=Zec (rk L p,rk L (511 - p)) (rk L q,rk L (511 - q)) (rk L r,rk L (511 - r)):=by
  simp only[ZcW,Zec,List.map_cons,List.map_nil,r0]
 have hok:=okN_all _ _ _ (rk_P8 hL4 gp) (rk_P8 hL4 gq) (rk_P8 hL4 gr);rw[← hks] at hok;have hgd:∀i,Good L ((ZcW p q r).getD i 0):=fun i=>by
  match i with
  | 0=>exact g0
  | 1=>exact gp
  | 2=>exact gq
  | 3=>exact gp'
  | 4=>exact g0
  | 5=>exact gr
  | 6=>exact gq'
  | 7=>exact gr'
  | 8=>exact g0
  | n+9=>exact g0
 have hlen:(ZcW p q r).length=9:=rfl;have hrev:∀i,i < 9→(ZcW p q r).reverse.getD i 0=(ZcW p q r).getD (8 - i) 0:=fun i hi=>by
  apply lt9 hi<;>rfl
 generalize ZcW p q r=ks at hok hgd hlen hrev;have hmap:∀i,(ks.map (rk L)).getD i 0=rk L (ks.getD i 0):=fun i=>by
  rw[List.getD_eq_getElem?_getD,List.getD_eq_getElem?_getD,List.getElem?_map];cases ks[i]? with
  | none=>exact r0.symm
  | some v=>rfl
 have hlt:ltN (ks.map (rk L))=ltK ks:=by
  funext i j
  unfold ltN ltK;rw[hmap,hmap];exact (rk_lt hL4 (hgd i) (hgd j)).symm
 have hv:(fun j=>Nat.blt ((ks.map (rk L)).getD j 0) 4)=fun j=>decide (ks.getD j 0 < 256):=by
  funext j
  rw[hmap];exact (rk_256 hL4 (hgd j)).symm
 have hB:∀t:KasT (Array Nat),Zcn 9 (fun i j=>ltK ks (8 - i) (8 - j)) t=Zcn 9 (ltK ks.reverse) t:=by
  intro t;induction t with
  | ret a=>rfl
  | ask i j k ih=>
   unfold Zcn;by_cases h:(Nat.blt i 9&&Nat.blt j 9)=true
   · have hij:=h;rw[Bool.and_eq_true,Nat.blt_eq,Nat.blt_eq] at hij;rw[if_pos h,if_pos h,ih];unfold ltK;rw[hrev i hij.1,hrev j hij.2]
   · rw[if_neg h,if_neg h]
 unfold okN at hok;rw[hlt,hv,hB,← Zop hlen,← Zop (by simpa using hlen)] at hok;simp only[Bool.and_eq_true,decide_eq_true_eq] at hok;refine Qe hok fun yq h3=>?_;obtain ⟨h1,h2⟩:=yq;cases e1:Zby ks (kas_sort 9) with
 | none=>rw[e1] at h1;cases h1
 | some A=>
  cases e2:Zby ks.reverse (kas_sort 9) with
  | none=>rw[e2] at h2;cases h2
  | some B=>
   rw[e1] at h1;rw[e2] at h2;simp only[Bool.and_eq_true,decide_eq_true_eq] at h2;exact ⟨A,B,rfl,rfl,of_decide_eq_true h1,h2.1,fun i hi=>by simpa using lae h2.2 i hi,h3⟩
end
end
set_option tactic.hygienic false
section
variable {nm:List Nat} {os:List (List Nat)} {ws:List Int} {ℓ:Loc} {hp:Hp} {N:Nat}
section
theorem Zna{q id kc:Nat}{cl:List (Str×Nat)}(g1:hp[q]?=some (.clos id cl kc))(g2:hp[kc]?=some (.code (Qp id))):∀(xs:List MV) (is ys:List Int),xs.length=is.length→ys.length+xs.length≤1000→
 (∀(i:Nat) (x:MV) (k:Int),xs[i]?=some x→is[i]?=some k→∀zs,lamF id cl [x] (hp++[MO.list zs])=some (.int k,hp++[MO.list zs]))→ZnD lamF q hp.length xs (hp++[MO.list (ys.map .int)])=some (hp++[MO.list ((ys++is).map .int)])
 | [],[],ys,_,_,_=>by simp[ZnD]
 | x::xs,k::is,ys,hl,hb,h=>by
  unfold ZnD;simp only[Zk g1 _,Zk g2 _,if_true,h 0 x k rfl rfl,Zas,Zv];rw[if_pos (by simp at hb ⊢;lia)];simp only[ZbI];have:=Zna g1 g2 xs is (ys++[k]) (by simpa using hl) (by simp at hb ⊢;lia) (fun i x' k' e1 e2=>h (i+1) x' k' e1 e2);simpa using this
theorem Zln{a q id kc:Nat}{cl:List (Str×Nat)}{xs:List MV}{is:List Int}{A:Array Nat}(g1:hp[q]?=some (.clos id cl kc))(g2:hp[kc]?=some (.code (Qp id)))(ha:hp[a]?=some (.list xs))(hl:xs.length=is.length)(h2:2≤xs.length)(h64:xs.length < 64)
 (h:∀(i:Nat) (x:MV) (k:Int),xs[i]?=some x→is[i]?=some k→∀zs,lamF id cl [x] (hp++[MO.list zs])=some (.int k,hp++[MO.list zs])) (hs:Zby is (kas_sort xs.length)=some A):
 ZhF lamF [.ref a,.ref q] hp=some (.ref (hp.length+1),hp++[MO.list []]++[MO.list (A.toList.map fun i=>xs.getD i .none)]):=by
 have e:=Zna g1 g2 xs is [] hl (by simp;lia) h;simp only[List.map_nil,List.nil_append] at e;unfold ZhF;simp only[ha];rw[if_pos ⟨h2,h64⟩,e];simp only[Zv,ZcD,hl.symm,if_true,hs,ZbI];simp
theorem lamK{id:Nat}{r:Nat}{k:Int}{s:List Nat}(h2:2≤id)(h:hp[r]?=some (.list [.int k,.str s])):lamF id [] [.ref r] hp=some (.int k,hp):=by
 match id,h2 with
 | n+2,_=>
  show ZfV [some (.ref r)] hp=_
  simp[ZfV,ZZ,Zf,Zb,ZnG.eq_def,h]
structure KInv(rs:List Nat)(ks:List Int)(hp:Hp):Prop where
 hr:∀(i r:Nat) (k:Int),rs[i]?=some r→ks[i]?=some k→24≤r∧∃s,hp[r]?=some (.list [.int k,.str s])∧PyData.strOk (mkS s)=true
 lr:rs.length=9
 lk:ks.length=9
theorem KInv.keep{rs:List Nat}{ks:List Int}{hp hp':Hp}(K:KInv rs ks hp){S:List Nat}(h:ZX S hp hp')(hS:∀k∈S,k < 24∨hp.length≤k):KInv rs ks hp':=by
 refine ⟨fun i r k h1 h2=>?_,K.lr,K.lk⟩;obtain ⟨h3,s,h4,h5⟩:=K.hr i r k h1 h2;exact ⟨h3,s,h.get h4 fun hm=>by have:=Zac h4;rcases hS r hm with h | h<;>lia,h5⟩
theorem KInv.get{rs:List Nat}{ks:List Int}(K:KInv rs ks hp){j:Nat}(hj:j < 9):∃s,hp[rs.getD j 0]?=some (.list [.int (ks.getD j 0),.str s])∧24≤rs.getD j 0∧rs[j]?=some (rs.getD j 0)∧PyData.strOk (mkS s)=true:=by
 have h1:rs[j]?=some (rs.getD j 0):=by rw[List.getD_eq_getElem?_getD,List.getElem?_eq_getElem (by rw[K.lr];exact hj)];rfl
 have h2:ks[j]?=some (ks.getD j 0):=by rw[List.getD_eq_getElem?_getD,List.getElem?_eq_getElem (by rw[K.lk];exact hj)];rfl
 obtain ⟨h3,s,h4,h5⟩:=K.hr j _ _ h1 h2;exact p1_4 s h4 h3 h1 h5
theorem ZgS(lt:Nat→Nat→Bool):∀n,(∀y∈shelfI lt n,y < n)∧(shelfI lt n).length=n:=by
 intro n;induction n with
 | zero=>
  exact ⟨fun y h=>absurd (show y∈([]:List Nat) from h) List.not_mem_nil,rfl⟩
 | succ n ih=>
  refine Qe (ih) fun h1 h2=>?_;refine ⟨fun y hy=>?_,?_⟩
  · rcases ZfG hy with rfl | hy
    · lia
    · have:=h1 y hy;lia
  · show (Qg _ _ _).length=_
    rw[ZfN,h2]
theorem ZiM(lt:Nat→Nat→Bool):∀n,(∀y∈turnI lt n,y < n)∧(turnI lt n).length=n:=by
 intro n;induction n with
 | zero=>
  exact ⟨fun y h=>absurd (show y∈([]:List Nat) from h) List.not_mem_nil,rfl⟩
 | succ n ih=>
  refine Qe (ih) fun h1 h2=>?_;refine ⟨fun y hy=>?_,?_⟩
  · rcases ZfG hy with rfl | hy
    · lia
    · have:=h1 y hy;lia
  · show (Qg _ _ _).length=_
    rw[ZfN,h2]
noncomputable def refsOf(rs:List Nat)(S:List Nat):List MV:=S.map fun j=>MV.ref (rs.getD j 0)
theorem ZgW{rs S:List Nat}{i:Nat}{v:MV}(h:(refsOf rs S)[i]?=some v):∃j,j∈S∧S.getD i 0=j∧v=.ref (rs.getD j 0):=by
 unfold refsOf at h;rw[List.getElem?_map] at h;cases e:S[i]? with
 | none=>rw[e] at h;cases h
 | some j=>
  rw[e] at h;refine oi1 h fun yq=>?_;subst yq;exact ZnY j (List.mem_of_getElem? e) (by simp[e]) rfl
theorem ZbU(rs S:List Nat):(refsOf rs S).length=S.length:=by simp[refsOf]
theorem ins_R{rs:List Nat}{ks:List Int}{h:Hp}{sh tu n:Nat}{pos:Pos}{S:List Nat}(K:KInv rs ks h)(T:Qt 1 208 (Qp 2) h)(h24:24≤h.length)(hsh:24≤sh)(gs:h[sh]?=some (.list (refsOf rs S)))(hS:∀y∈S,y < 9)(hSl:S.length≤50)(hn:n < 9)(lsh:ℓ[29]?=some (some (.ref sh)))(l12:ℓ[12]?=some (some (.ref (rs.getD n 0))))(hrs:∀j,j < 9→rs.getD j 0≠sh):
 ∃h',Zgu (ZbX (Zax lamF) (Zd (Zf 29) (Zd (Zf 12) Zp)) (ZkK 2 1 208 pos [])) ℓ h=some (.norm,ℓ,h')∧ZX [1,sh] h h'∧Qt 1 208 (Qp 2) h'∧h'[sh]?=some (.list (refsOf rs (Zlo (ltK ks) S n))):=by
 refine x3_6 (Zcm (id:=2) (kt:=1) (P:=208) (pos:=pos) (cl:=[]) (ℓ:=ℓ) T h24 (by decide)) fun q kc h1 e1 K1 g1 g2 T1 hq=>?_;have KI:=K.keep K1 (by simp);have gs1:=K1.get gs (by simp;lia);have hc:∀j,j < 9→Zbb q h1 (.ref (rs.getD j 0)) (.int (ks.getD j 0)):=fun j hj=>by
  refine ZJ (KI.get hj) fun s e υ=>?_;exact p3_3 2 [] kc g1 g2 (lamK (by decide) e)
 have e2:=ZbV (p:=fun m=>ltK ks n (S.getD m 0)) gs1 (by rw[ZbU];lia) (hc n hn) (fun i v hv=>by
  refine ZgO (ZgW hv) fun j hj hjd yq=>?_;subst yq;refine Qd _ (hc j (hS j hj)) ?_;rw[hjd];rfl)
 refine p1_4 (h1.set sh (.list (refsOf rs (Zlo (ltK ks) S n)))) ?_ ((K1.mono (by simp)).trans (ZX.set (k:=sh) (by simp) _ _)) (T1.set gs1 (by simp) (by lia) _) (ZP gs1 _);unfold Zgu ZbX;simp only[Zd,Zp,Zf,lsh,l12,e1,List.cons_append,List.nil_append,e2,ZbU];unfold Zlo;rw[show refsOf rs (Qg (bsr (fun m=>ltK ks n (S.getD m 0)) 100 0 S.length) n S)=Qg (bsr (fun m=>ltK ks n (S.getD m 0)) 100 0 S.length) (.ref (rs.getD n 0)) (refsOf rs S) from ZfM _ _ _ _]
theorem ins_L{rs:List Nat}{ks:List Int}{h:Hp}{sh tu n:Nat}{pos:Pos}{S:List Nat}(K:KInv rs ks h)(T:Qt 1 208 (Qp 2) h)(h24:24≤h.length)(hsh:24≤sh)(gs:h[sh]?=some (.list (refsOf rs S)))(hS:∀y∈S,y < 9)(hSl:S.length≤50)(hn:n < 9)(lsh:ℓ[30]?=some (some (.ref sh)))(l12:ℓ[12]?=some (some (.ref (rs.getD n 0))))(hrs:∀j,j < 9→rs.getD j 0≠sh):
 ∃h',Zgu (ZbX (ZaD lamF) (Zd (Zf 30) (Zd (Zf 12) Zp)) (ZkK 3 1 208 pos [])) ℓ h=some (.norm,ℓ,h')∧ZX [1,sh] h h'∧Qt 1 208 (Qp 2) h'∧h'[sh]?=some (.list (refsOf rs (turnS (ltK ks) S n))):=by
 refine x3_6 (Zcm (id:=3) (kt:=1) (P:=208) (pos:=pos) (cl:=[]) (ℓ:=ℓ) (show Qt 1 208 (Qp 3) h from T) h24 (by decide)) fun q kc h1 e1 K1 g1 g2 T1 hq=>?_;have KI:=K.keep K1 (by simp);have gs1:=K1.get gs (by simp;lia);have hc:∀j,j < 9→Zbb q h1 (.ref (rs.getD j 0)) (.int (ks.getD j 0)):=fun j hj=>by
  refine ZJ (KI.get hj) fun s e υ=>?_;exact p3_3 3 [] kc g1 g2 (lamK (by decide) e)
 have e2:=Zch (p:=fun m=>!ltK ks (S.getD m 0) n) gs1 (by rw[ZbU];lia) (hc n hn) (fun i v hv=>by
  refine ZgO (ZgW hv) fun j hj hjd yq=>?_;subst yq;refine Qd _ (hc j (hS j hj)) ?_;rw[hjd,Bool.not_not];rfl)
 refine p1_4 (h1.set sh (.list (refsOf rs (turnS (ltK ks) S n)))) ?_ ((K1.mono (by simp)).trans (ZX.set (k:=sh) (by simp) _ _)) (Qt.set (show Qt 1 208 (Qp 2) h1 from T1) gs1 (by simp) (by lia) _) (ZP gs1 _);unfold Zgu ZbX;simp only[Zd,Zp,Zf,lsh,l12,e1,List.cons_append,List.nil_append,e2,ZbU];unfold turnS;rw[show refsOf rs (Qg (bsr (fun m=>!ltK ks (S.getD m 0) n) 100 0 S.length) n S)=Qg (bsr (fun m=>!ltK ks (S.getD m 0) n) 100 0 S.length) (.ref (rs.getD n 0)) (refsOf rs S) from ZfM _ _ _ _]
theorem loop249{rs:List Nat}{ks:List Int}{h0:Hp}{sh tu:Nat}(K:KInv rs ks h0)(T:Qt 1 208 (Qp 2) h0)(h24:24≤sh)(htu:sh < tu)(gs:h0[sh]?=some (.list []))(gt:h0[tu]?=some (.list []))(g22:h0[22]?=some (.list (rs.map .ref)))(l10:ℓ[10]?=some (some (.ref 22)))(l29:ℓ[29]?=some (some (.ref sh)))(l30:ℓ[30]?=some (some (.ref tu)))
 (hrs:∀j,j < 9→rs.getD j 0 < sh) (hlen:ℓ.length=32):
 ∃ℓ' h',s249 lamF 2 ℓ h0=some (.norm,ℓ',h')∧ZX [1,sh,tu] h0 h'∧Qt 1 208 (Qp 2) h'∧(∀k,k≠12→ℓ'[k]?=ℓ[k]?)∧h'[sh]?=some (.list (refsOf rs (shelfI (ltK ks) 9)))∧h'[tu]?=some (.list (refsOf rs (turnI (ltK ks) 9))):=by
 have key:=Zaw (k:=22) (N:=100) (it:=itE (Zf 10)) (tg:=tgL 12) (f:=Zn (s250 lamF 2) (Zn (s252 lamF 2) ZA)) (xs:=rs.map .ref) (ℓ:=ℓ) (hp:=h0) (hp0:=h0)
  (I:=fun i ℓ' h=>ZX [1,sh,tu] h0 h∧Qt 1 208 (Qp 2) h∧(∀k,k≠12→ℓ'[k]?=ℓ[k]?)∧ℓ'.length=32∧h[sh]?=some (.list (refsOf rs (shelfI (ltK ks) i)))∧h[tu]?=some (.list (refsOf rs (turnI (ltK ks) i)))) (by simp[itE,Zf,l10,g22]) (fun i ℓ' h I=>I.1.get g22 (by simp;lia))
  (fun i v ℓ' h hx I=>by
   refine x0_6 I fun Kp T hl hl32 gs gt=>?_;have hi:i < 9:=by have:=(lge hx).1;simpa [K.lr] using this
   have hv:v=.ref (rs.getD i 0):=by
    refine Zgv (K.get hi) fun υ υ υ e υ=>?_;rw[List.getElem?_map,e] at hx;exact (Option.some.inj hx).symm
   subst hv;have m29:(ℓ'.set 12 (some (.ref (rs.getD i 0))))[29]?=some (some (.ref sh)):=by rw[List.getElem?_set_ne (by decide)];exact (hl 29 (by decide)).trans l29
   have m30:(ℓ'.set 12 (some (.ref (rs.getD i 0))))[30]?=some (some (.ref tu)):=by rw[List.getElem?_set_ne (by decide)];exact (hl 30 (by decide)).trans l30
   have m12:(ℓ'.set 12 (some (.ref (rs.getD i 0))))[12]?=some (some (.ref (rs.getD i 0))):=List.getElem?_set_self (by lia);have ml:∀k,k≠12→(ℓ'.set 12 (some (.ref (rs.getD i 0))))[k]?=ℓ[k]?:=fun k hk=>by rw[List.getElem?_set_ne (Ne.symm hk)];exact hl k hk
   have ml32:(ℓ'.set 12 (some (.ref (rs.getD i 0)))).length=32:=by simpa using hl32
   have et:tgL 12 (.ref (rs.getD i 0)) ℓ' h=some (ℓ'.set 12 (some (.ref (rs.getD i 0))),h):=rfl;generalize ℓ'.set 12 (some (MV.ref (rs.getD i 0)))=ℓ2 at m29 m30 m12 ml ml32 et;have hll:=Zac gt;refine Qe (ZgS (ltK ks) i) fun hm1 hm2=>?_;refine Qe (ZiM (ltK ks) i) fun hm3 hm4=>?_;have KI:KInv rs ks h:=⟨fun j r k e1 e2=>by
    obtain ⟨h3,s,h4,h5⟩:=K.hr j r k e1 e2;have hj:j < 9:=by have:=(lge e1).1;rw[K.lr] at this;exact this
    have:=hrs j hj;rw[List.getD_eq_getElem?_getD,e1] at this;simp at this;exact ⟨h3,s,Kp.get h4 (by simp;lia),h5⟩,K.lr,K.lk⟩
   refine Zgv (ins_R (tu:=tu) (pos:=⟨251,0,251,18⟩) KI T (by lia) h24 gs (fun y hy=>by have:=hm1 y hy;lia) (by lia) hi m29 m12 (fun j hj=>by have:=hrs j hj;lia)) fun h1 e1 K1 T1 gs1=>?_;have gt1:=K1.get gt (by simp;lia);have KI1:KInv rs ks h1:=⟨fun j r k e1 e2=>by
    obtain ⟨h3,s,h4,h5⟩:=KI.hr j r k e1 e2;have hj:j < 9:=by have:=(lge e1).1;rw[K.lr] at this;exact this
    have:=hrs j hj;rw[List.getD_eq_getElem?_getD,e1] at this;simp at this;exact ⟨h3,s,K1.get h4 (by simp;lia),h5⟩,K.lr,K.lk⟩
   refine Zgv (ins_L (tu:=tu) (pos:=⟨253,0,253,18⟩) KI1 T1 (by have:=K1.1;lia) (by lia) gt1 (fun y hy=>by have:=hm3 y hy;lia) (by lia) hi m30 m12 (fun j hj=>by have:=hrs j hj;lia)) fun h2 e2 K2 T2 gt2=>?_;exact ⟨ℓ2,h,ℓ2,h2,et,(Zl (f1:=s250 lamF 2) e1).trans ((Zl (f1:=s252 lamF 2) e2).trans rfl),(Kp.trans (K1.mono (by simp))).trans (K2.mono (by simp)),T2,ml,ml32,K2.get gs1 (by simp;lia),gt2⟩) ⟨ZX.refl _ _,T,fun υ υ=>rfl,hlen,gs,gt⟩ (by simp[K.lr])
 refine x2_7 key fun ℓ' h' e Kp T' hl υ g1 g2=>?_;rw[List.length_map,K.lr] at g1 g2;exact p2_6 ℓ' h' e Kp T' hl g1 g2
theorem toD_pair{r n:Nat}{k:Int}{s:List Nat}(h:hp[r]?=some (.list [.int k,.str s])):toD (n+2) hp (.ref r)=some (.list [.int k,.str (mkS s)]):=by
 unfold toD;rw[h];simp only[ZmY,toD]
theorem mapO_ex{α β:Type}{f:α→Option β}{P:β→Prop}:∀l:List α,(∀x∈l,∃y,f x=some y∧P y)→∃ys,ZmY f l=some ys∧∀y∈ys,P y:=by
 intro l;induction l with
 | nil=>
  intro υ;exact ⟨[],rfl,fun y h=>by cases h⟩
 | cons x l ih=>
  intro h;refine ZJ (h x (.head _)) fun y e1 h1=>?_;refine ZJ (ih fun z hz=>h z (.tail _ hz)) fun ys e2 h2=>?_;refine Qd (y::ys) (by simp[ZmY,e1,e2]) (fun z hz=>?_);rcases lmc hz with rfl | hz
  · exact h1
  · exact h2 z hz
theorem lay_all{l:List PyData}(h:∀y∈l,y.canLay0=true∧y.depth≤2):PyData.canLayAll0 l=true∧PyData.depthAll l≤3:=by
 induction l with
 | nil=>exact ⟨rfl,by decide⟩
 | cons x l ih=>
  refine Qe (h x (.head _)) fun h1 h2=>?_;refine Qe (ih fun y hy=>h y (.tail _ hy)) fun h3 h4=>?_;refine ⟨by simp[PyData.canLayAll0,h1,h3],?_⟩;simp only[PyData.depthAll];lia
theorem ZmX{i j:Nat}{xs:List MV}(h1:hp[i]?=some (.list xs))(h2:hp[j]?=some (.list xs))(h:∀x∈xs,∃y,toD 2 hp x=some y∧y.canLay0=true∧y.depth≤2):ZdE .NotEq (.ref i) (.ref j) hp=some false:=by
 refine ZJ (mapO_ex xs h) fun ys e hy=>?_;refine Qe (lay_all hy) fun l1 l2=>?_;have d1:toD 3 hp (.ref i)=some (.list ys):=by unfold toD;rw[h1];simp only[e]
 have d2:toD 3 hp (.ref j)=some (.list ys):=by unfold toD;rw[h2];simp only[e]
 show ZkG (eqC hp (.ref i) (.ref j))=_
 rw[ZeA d1 d2 (by simpa [PyData.canLay0] using l1) (by simpa [PyData.canLay0] using l1) (by simp only[PyData.depth];lia)];rw[PySem.SeqAt.eqv_refl _ (by simpa [PyData.canLay0] using l1)];rfl
end
end
set_option tactic.hygienic true
set_option tactic.hygienic false
noncomputable section
variable {nm:List Nat} {os:List (List Nat)} {ws:List Int} {ℓ:Loc} {hp:Hp} {N:Nat}
noncomputable section
theorem Zah{r n:Nat}{b c:Bool}(h:hp[r]?=some (.list [.bool b,.bool c])):toD (n+2) hp (.ref r)=some (.list [.bool b,.bool c]):=by
 unfold toD;rw[h];kernel_rfl
theorem Zoy(k:Int):(!decide (k < 256))=decide (256≤k):=by
 by_cases hh:k < 256
 · have:¬256≤k:=by lia
   simp[hh,this]
 · have:256≤k:=by lia
   simp[hh,this]
theorem ZoW{h:Hp}{r:Nat}{k:Int}{s:List Nat}(e:h[r]?=some (.list [.int k,.str s])):ZnG h (.ref r) (.int 0)=some (.int k):=by
 simp[ZnG.eq_def,e]
theorem Zod{rs S:List Nat}{ks:List Int}{sh:Nat}(K:KInv rs ks hp)(gs:hp[sh]?=some (.list (refsOf rs S)))(hS:∀y∈S,y < 9)(hSl:S.length≤50)(l29:ℓ[29]?=some (some (.ref sh))):
 ∃(vs:List Nat) (hp':Hp),Qb (itE (Zf 29)) Qi (ZH (Zd (Zr (Zau) (Zd (ZZ (Zf 0) (Zb (.int 0))) Zp)) (Zd (Zr (Zaj) (Zd (ZZ (Zf 0) (Zb (.int 0))) Zp)) Zp))) 100 ℓ hp=some (.ref hp.length,hp')∧ZX [] hp hp'∧hp'[hp.length]?=some (.list (vs.map .ref))∧vs.length=S.length∧
  ∀(j v s:Nat),vs[j]?=some v→S[j]?=some s→hp'[v]?=some (.list [.bool (decide (ks.getD s 0 < 256)),.bool (!decide (ks.getD s 0 < 256))]):=by
 have g0:=Zv hp (.list []);have K0:ZX [] hp (hp++[.list []]):=ZX.app _ _ _;have hlt:=Zac gs;have hl0:(hp++[MO.list []]).length=hp.length+1:=by simp
 have key:=Zjy (src:=.list sh) (k:=hp.length) (m:=S.length) (t:=Qi) (f:=ZH (Zd (Zr (Zau) (Zd (ZZ (Zf 0) (Zb (.int 0))) Zp)) (Zd (Zr (Zaj) (Zd (ZZ (Zf 0) (Zb (.int 0))) Zp)) Zp)))
  (I:=fun i h=>ZX [hp.length] (hp++[.list []]) h∧∃vs:List Nat,h[hp.length]?=some (.list (vs.map .ref))∧vs.length=i∧∀(j v s:Nat),vs[j]?=some v→S[j]?=some s→hp.length < v∧h[v]?=some (.list [.bool (decide (ks.getD s 0 < 256)),.bool (!decide (ks.getD s 0 < 256))]))
  (fun h I=>by simp only[Src.item,I.1.get (K0.g0 gs) (by simp;lia)];rw[List.getElem?_eq_none (by rw[ZbU];lia)])
  (fun i h hi I=>by
   obtain ⟨Kp,vs,gv,hvl,hvs⟩:=I;have hlen1:=Kp.1;have hSi:=List.getElem?_eq_getElem hi;have hs9:=hS _ (List.getElem_mem hi);have gsh:=Kp.get (K0.g0 gs) (by simp;lia);refine Zgv (K.get hs9) fun str gp h24 υ υ=>?_;have gph:=Kp.get (K0.g0 gp) (by have:=Zac gp;rw[List.mem_singleton];lia);have esub:ZZ (Zf 0) (Zb (.int 0)) [some (.ref (rs.getD S[i] 0))] h=some (.int (ks.getD S[i] 0),h):=ZaM rfl rfl (ZoW gph);have hn:(!decide (ks.getD S[i] 0 < 256))=decide (256≤ks.getD S[i] 0):=Zoy _;have e1:ZH (Zd (Zr (Zau) (Zd (ZZ (Zf 0) (Zb (.int 0))) Zp)) (Zd (Zr (Zaj) (Zd (ZZ (Zf 0) (Zb (.int 0))) Zp)) Zp)) [some (.ref (rs.getD S[i] 0))] h=some (.ref h.length,h++[.list [.bool (decide (ks.getD S[i] 0 < 256)),.bool (!decide (ks.getD S[i] 0 < 256))]]):=by
    have ea:Zd (Zr (Zau) (Zd (ZZ (Zf 0) (Zb (.int 0))) Zp)) (Zd (Zr (Zaj) (Zd (ZZ (Zf 0) (Zb (.int 0))) Zp)) Zp) [some (.ref (rs.getD S[i] 0))] h=some ([.bool (decide (ks.getD S[i] 0 < 256)),.bool (!decide (ks.getD S[i] 0 < 256))],h):=by
     refine ZcE (hp1:=h) (v:=.bool (decide (ks.getD S[i] 0 < 256))) ?_ (ZcE (v:=.bool (!decide (ks.getD S[i] 0 < 256))) (hp1:=h) ?_ rfl)
     · unfold Zr;rw[ZfZ esub];exact istT _ _
     · unfold Zr;rw[ZfZ esub,hn];exact istN _ _
    unfold ZH;rw[ea];rfl
   have K1:ZX [] h (h++[.list [.bool (decide (ks.getD S[i] 0 < 256)),.bool (!decide (ks.getD S[i] 0 < 256))]]):=ZX.app _ _ _;have gn:=Zv h (.list [.bool (decide (ks.getD S[i] 0 < 256)),.bool (!decide (ks.getD S[i] 0 < 256))]);revert e1 K1 gn;refine gen (h++[MO.list [.bool (decide (ks.getD S[i] 0 < 256)),.bool (!decide (ks.getD S[i] 0 < 256))]]) fun h2 e1 K1 gn=>?_;have gv2:=K1.g0 gv;refine p3_4 (.ref (rs.getD S[i] 0)) true h ?_ rfl (fun hf=>(by cases hf)) (fun υ=>⟨.ref h.length,h2,h2.set hp.length (.list ((vs++[h.length]).map .ref)),e1,?_,(Kp.trans (K1.mono (by simp))).trans (ZX.set (by simp) _ _),vs++[h.length],ZP gv2 _,by simp[hvl],?_⟩)
   · simp only[Src.item,gsh];unfold refsOf;rw[List.getElem?_map,hSi];rfl
   · unfold Zas;simp only[gv2];rw[if_pos (by simp;lia)];simp
   · intro j v s e1 e2;by_cases hj:j < vs.length
     · rw[List.getElem?_append_left hj] at e1;refine Qe (hvs j v s e1 e2) fun h3 h4=>?_;exact ⟨h3,Zo (K1.g0 h4) (by lia) _⟩
     · have hj1:j=vs.length:=by
        have:=(lge e1).1;simp at this;lia
       subst hj1;simp at e1;rw[hvl,hSi] at e2;refine oi1 e2 fun yq=>?_;subst yq;subst e1;exact ⟨by lia,Zo gn (by lia) _⟩) 100 0 (hp++[.list []]) ⟨ZX.refl _ _,[],g0,rfl,fun j v s e1 υ=>by simp at e1⟩ (by lia) (by lia)
 obtain ⟨h',e,Kp,vs,gv,hvl,hvs⟩:=key;refine p2_5 vs h' ?_ ⟨by have:=Kp.1;lia,fun k mo υ e=>Kp.get (K0.g0 e) (by have:=Zac e;simp;lia)⟩ gv hvl (fun j v s e1 e2=>(hvs j v s e1 e2).2);unfold Qb;rw[show itE (Zf 29) ℓ hp=some (.list sh,hp) by simp[itE.eq_def,Zf,l29,gs]];dsimp only;rw[e]
theorem Zjh:∀(A:List Bool) (ws:List Int),(∀x∈ws,0≤x)→0≤hv A ws
 | [],ws,_=>by simp[hv,sel]
 | a::A,[],_=>by cases a<;>simp[hv,sel]
 | a::A,w::ws,hw=>by
  have ih:=Zjh A ws fun x hx=>hw x (.tail _ hx);have hw0:=hw w (.head _);cases a<;>simp[hv,sel] at ih ⊢<;>lia
theorem ok_pairs:(letters.all fun g=>(namesOf g).all fun a=>(namesOf g).all fun b=>PyData.strOk (mkS [a,b]))=true:=by decide +kernel
theorem QInv.kinv{N x y z:Nat}(H:Data [x,y,z] os ws)(Q:QInv N [x,y,z] os ws ℓ hp):
 ∃rs p q r,hp[22]?=some (.list (rs.map .ref))∧hp[23]?=some (.list (rs.reverse.map .ref))∧KInv rs (ZcW p q r) hp∧(0≤p∧p≤511)∧(0≤q∧q≤511)∧(0≤r∧r≤511):=by
 have nd:=H.nodup.1;simp only[List.nodup_cons,List.mem_cons,List.not_mem_nil,or_false,not_or,not_false_eq_true,List.nodup_nil,and_true] at nd;refine Qe nd fun yq n3=>?_;refine Qe yq fun n1 n2=>?_;have mx:x∈[x,y,z]:=by simp
 have my:y∈[x,y,z]:=by simp
 have mz:z∈[x,y,z]:=by simp
 refine Zgv Q.came fun rs h22 h23 hl hc=>?_;have c1:=H.compl mx my n1;have c2:=H.compl mx mz n2;have c3:=H.compl my mz n3;have nn:∀a b,0≤hv (ahd os a b) ws:=fun a b=>Zjh _ _ fun x hx=>(H.wr x hx).1;refine p4_6 rs (hv (ahd os x y) ws) (hv (ahd os x z) ws) (hv (ahd os y z) ws) h22 h23 ⟨?_,hl,rfl⟩ ⟨nn _ _,by have:=nn y x;lia⟩ ⟨nn _ _,by have:=nn z x;lia⟩ ⟨nn _ _,by have:=nn z y;lia⟩;intro i r k e1 e2;have hok:∀a b,a∈[x,y,z]→b∈[x,y,z]→PyData.strOk (mkS [a,b])=true:=by
  refine ZJ H.g fun g hg hn=>?_;rw[hn];intro a b ha hb;exact lae (lae (lae ok_pairs g hg) a ha) b hb
 have hi:i < 9:=by have:=(lge e1).1;lia
 have d1:hv (ahd os y x) ws=511 - hv (ahd os x y) ws:=by lia
 have d2:hv (ahd os z x) ws=511 - hv (ahd os x z) ws:=by lia
 have d3:hv (ahd os z y) ws=511 - hv (ahd os y z) ws:=by lia
 have fin:∀a b,a∈[x,y,z]→b∈[x,y,z]→(Zdd [x,y,z] [x,y,z])[i]?=some (a,b)→hv (ahd os a b) ws=k→24≤r∧∃s,hp[r]?=some (.list [.int k,.str s])∧PyData.strOk (mkS s)=true:=fun a b ha hb e hk=>by
  refine Qe (hc i r (a,b) e1 e) fun h1 h2=>?_;exact ⟨h1,[a,b],by rw[← hk];exact h2,hok a b ha hb⟩
 revert fin e2;apply lt9 hi<;>intro e2 fin
 · cases e2;exact fin x x mx mx rfl (H.same mx)
 · cases e2;exact fin x y mx my rfl rfl
 · cases e2;exact fin x z mx mz rfl rfl
 · cases e2;exact fin y x my mx rfl d1
 · cases e2;exact fin y y my my rfl (H.same my)
 · cases e2;exact fin y z my mz rfl rfl
 · cases e2;exact fin z x mz mx rfl d2
 · cases e2;exact fin z y mz my rfl d3
 · cases e2;exact fin z z mz mz rfl (H.same mz)
theorem ZnH(zs:MV→List MV):∀xs:List MV,(∀u∈xs,∃b1 b2,zs u=[.bool b1,.bool b2])→∃bl:List Bool,(xs.flatMap fun u=>((zs u).filter (fun υ=>true)).map (fun v=>v))=bl.map .bool∧bl.length=2 * xs.length:=by
 intro xs;induction xs with
 | nil=>
  intro υ;exact ⟨[],rfl,rfl⟩
 | cons u xs ih=>
  intro h;refine x2_1 (h u (.head _)) fun b1 b2 e=>?_;refine ZJ (ih fun v hv=>h v (.tail _ hv)) fun bl e1 e2=>?_;refine Qd (b1::b2::bl) ?_ (by simp[e2];lia);rw[List.flatMap_cons,e1,e];rfl
theorem vdg{h:Hp}{v:Nat}{b c:Bool}(e:h[v]?=some (.list [.bool b,.bool (!b)]))(q:b=c):h[v]?=some (.list [.bool c,.bool (!c)]):=q▸e
theorem mcn{α:Type}{p:α→Prop}{a:α}{l:List α}(h:p a)(h2:∀x∈l,p x):∀x∈a::l,p x:=List.forall_mem_cons.mpr ⟨h,h2⟩
theorem ZaW{α β:Type}{f:α→Option β}{x:α}{y:β}{l:List α}{ys:List β}(h:f x=some y)(h2:ZmY f l=some ys):ZmY f (x::l)=some (y::ys):=by
 unfold ZmY;rw[h,h2]
theorem Zll{r n:Nat}{xs:List MV}{ys:List PyData}(h:hp[r]?=some (.list xs))(e:ZmY (toD n hp) xs=some ys):toD (n+1) hp (.ref r)=some (.list ys):=by
 unfold toD;rw[h];simp only[e]
theorem cons9{α:Type}{a b c d e f g h i a' b' c' d' e' f' g' h' i':α}{G:Prop}(q:[a,b,c,d,e,f,g,h,i]=[a',b',c',d',e',f',g',h',i'])(k:a=a'→b=b'→c=c'→d=d'→e=e'→f=f'→g=g'→h=h'→i=i'→G):G:=by
 injection q with q1 q;injection q with q2 q;injection q with q3 q;injection q with q4 q;injection q with q5 q;injection q with q6 q;injection q with q7 q;injection q with q8 q;injection q with q9 q
 exact k q1 q2 q3 q4 q5 q6 q7 q8 q9
theorem lawI_ok{N x y z:Nat}(H:Data [x,y,z] os ws)(Q:QInv N [x,y,z] os ws ℓ hp)(hN:N≤500):
 ∃ℓ' hp',Zpd lamF 2 ℓ hp=some (.ret (.bool true),ℓ',hp')∧TabsOK hp':=by
 refine ZJ Q.t0 fun ez gz υ=>?_;refine x4_6 (Q.kinv H) fun rs p q r h22 h23 K hp0 hq0 hr0=>?_;refine ZJ Q.said fun bs hS hbs=>?_;refine x2_6 (Znx hp0 hq0 hr0) fun A B kA kB sA tB hB9 hvd=>?_;revert K kA kB sA tB hvd;refine gen (ZcW p q r) fun ks K kA kB sA tB hvd=>?_;have hl24:=Q.h24;have c5:=Q.P.c5;have e1:s247 lamF 2 ℓ hp=some (.norm,ℓ.set 29 (some (.ref hp.length)),hp++[.list []]):=by kernel_rfl
 have e2:s248 lamF 2 (ℓ.set 29 (some (.ref hp.length))) (hp++[.list []])=some (.norm,(ℓ.set 29 (some (.ref hp.length))).set 30 (some (.ref (hp.length+1))),hp++[.list []]++[.list []]):=by simp[s248,ZU,ZH,Zp]
 have L1:=Q.L.set (k:=29) (by decide) (some (.ref hp.length));have L2:=L1.set (k:=30) (by decide) (some (.ref (hp.length+1)));have l29:((ℓ.set 29 (some (MV.ref hp.length))).set 30 (some (.ref (hp.length+1))))[29]?=some (some (.ref hp.length)):=ZT (by decide) _ (Zlq Q.L (by decide) _);have l30:((ℓ.set 29 (some (MV.ref hp.length))).set 30 (some (.ref (hp.length+1))))[30]?=some (some (.ref (hp.length+1))):=Zlq L1 (by decide) _;have K0:ZX [] hp (hp++[.list []]++[.list []]):=(ZX.app _ _ _).trans (ZX.app _ _ _);have T0:=(Q.t1.app [.list []]).app [.list []];have gsh:(hp++[MO.list []]++[MO.list []])[hp.length]?=some (.list []):=Zk (Zv _ _) _;have gtu:(hp++[MO.list []]++[MO.list []])[hp.length+1]?=some (.list []):=by have:=Zv (hp++[MO.list []]) (MO.list []);simpa using this
 have KI0:=K.keep K0 (by simp);have hrs:∀j,j < 9→rs.getD j 0 < hp.length:=fun j hj=>by
  refine ZJ (K.get hj) fun s e υ=>?_;exact Zac e
 revert e2 L2 l29 l30;refine gen ((ℓ.set 29 (some (MV.ref hp.length))).set 30 (some (.ref (hp.length+1)))) fun ℓ1 e2 L2 l29 l30=>?_;have hlen0:(hp++[MO.list []]++[MO.list []]).length=hp.length+2:=by simp
 revert K0 T0 gsh gtu KI0 e2 hlen0;refine gen (hp++[MO.list []]++[MO.list []]) fun h0 K0 T0 gsh gtu KI0 e2 hlen0=>?_;revert hl24 e1 hrs l29 l30 gsh gtu e2 hlen0;refine genh (hp.length) fun sh hsh hl24 e1 hrs l29 l30 gsh gtu e2 hlen0=>?_;refine x2_6 (loop249 KI0 T0 hl24 (by lia:sh < sh+1) gsh gtu (K0.g0 h22) L2.l10 l29 l30 hrs L2.len) fun ℓ2 h1 e3 K1 T1 hl1 gsh1 gtu1=>?_;refine Qe (ZgS (ltK ks) 9) fun hm1 hm2=>?_;refine Qe (ZiM (ltK ks) 9) fun hm3 hm4=>?_;have K01:ZX [1] hp h1:=⟨by have:=K1.1;lia,fun k mo hk e=>K1.get (K0.g0 e) (by have:=Zac e;simp at hk ⊢;lia)⟩;have KI1:KInv rs ks h1:=K.keep K01 (by simp);have g22:=K01.get h22 (by decide);have g23:=K01.get h23 (by decide);have g20:=K01.get hS (by decide);have gc5:=K01.get c5 (by decide);have m29:=(hl1 29 (by decide)).trans l29;have m30:=(hl1 30 (by decide)).trans l30;have m10:=(hl1 10 (by decide)).trans L2.l10;have m11:=(hl1 11 (by decide)).trans L2.l11;have hlen1:=K1.1;have lamS:∀(id:Nat) (hh:Hp),2≤id→KInv rs ks hh→∀(i:Nat) (v:MV) (k:Int),(rs.map MV.ref)[i]?=some v→ks[i]?=some k→∀zs,lamF id [] [v] (hh++[MO.list zs])=some (.int k,hh++[MO.list zs]):=fun id hh hid KI i v k ev ek zs=>by
  rw[List.getElem?_map] at ev;cases er:rs[i]? with
  | none=>rw[er] at ev;cases ev
  | some r=>
   rw[er] at ev;refine oi1 ev fun yq=>?_;subst yq;obtain ⟨_,s,h4,_⟩:=KI.hr i r k er ek;exact lamK hid (Zk h4 _)
 have lamR:∀(id:Nat) (hh:Hp),2≤id→KInv rs ks hh→∀(i:Nat) (v:MV) (k:Int),(rs.reverse.map MV.ref)[i]?=some v→ks.reverse[i]?=some k→∀zs,lamF id [] [v] (hh++[MO.list zs])=some (.int k,hh++[MO.list zs]):=fun id hh hid KI i v k ev ek zs=>by
  have hi:i < 9:=by have:=(lge ek).1;simpa [KI.lk] using this
  rw[List.getElem?_map,List.getElem?_reverse (by rw[KI.lr];exact hi)] at ev;rw[List.getElem?_reverse (by rw[KI.lk];exact hi),KI.lk,← KI.lr] at ek;exact lamS id hh hid KI _ v k (by rw[List.getElem?_map];exact ev) ek zs
 refine x3_6 (Zcm (id:=4) (kt:=1) (P:=208) (pos:=⟨255,0,255,18⟩) (cl:=[]) (ℓ:=ℓ2) (show Qt 1 208 (Qp 4) h1 from T1) (by lia) (by decide)) fun q4 kc4 h2 f1 K2 g4 g4c T2 υ=>?_;have KI2:=KI1.keep K2 (by simp);have hl9:(rs.map MV.ref).length=9:=by simp[K.lr]
 have hr9:(rs.reverse.map MV.ref).length=9:=by simp[K.lr]
 have f2:=Zln (A:=A) (is:=ks) g4 g4c (K2.get g22 (by decide)) (by rw[hl9,K.lk]) (by lia) (by lia) (lamS 4 h2 (by decide) KI2) (by rw[hl9];exact kA);have hAx:(A.toList.map fun i=>(rs.map MV.ref).getD i .none)=refsOf rs (shelfI (ltK ks) 9):=by
  rw[sA];unfold refsOf;apply List.map_congr_left
  intro i hi;have hi9:i < 9:=hm1 i (by rw[sA];exact hi);rw[List.getD_eq_getElem?_getD,List.getElem?_map];refine Zgv (K.get hi9) fun υ υ υ e υ=>?_;rw[e];rfl
 rw[hAx] at f2;have hok2:∀(hh:Hp) (S:List Nat),KInv rs ks hh→(∀y∈S,y < 9)→∀v∈refsOf rs S,∃d,toD 2 hh v=some d∧d.canLay0=true∧d.depth≤2:=fun hh S KI hS v hv=>by
  refine ZJ (List.mem_map.mp hv) fun j hj yq=>?_;subst yq;refine Zgv (KI.get (hS j hj)) fun s e υ υ hs=>?_;exact ZnY _ (toD_pair (n:=0) e) (by simp[PyData.canLay0,PyData.canLayAll0,hs]) (by simp[PyData.depth,PyData.depthAll])
 have K23:ZX [] h2 (h2++[MO.list []]++[MO.list (refsOf rs (shelfI (ltK ks) 9))]):=(ZX.app _ _ _).trans (ZX.app _ _ _);have KI3:=KI2.keep K23 (by simp);have T3:=(T2.app [MO.list []]).app [MO.list (refsOf rs (shelfI (ltK ks) 9))];have gsort:(h2++[MO.list []]++[MO.list (refsOf rs (shelfI (ltK ks) 9))])[h2.length+1]?=some (.list (refsOf rs (shelfI (ltK ks) 9))):=by have:=Zv (h2++[MO.list []]) (MO.list (refsOf rs (shelfI (ltK ks) 9)));simpa using this
 have gsh3:=K23.g0 (K2.get gsh1 (by simp;lia));have gtu3:=K23.g0 (K2.get gtu1 (by simp;lia));have g233:=K23.g0 (K2.get g23 (by simp));have g203:=K23.g0 (K2.get g20 (by simp));have gc53:=K23.g0 (K2.get gc5 (by simp));have gz3:=K23.get (K2.get (K01.get gz (by decide)) (by decide)) (by simp);have hlen3:24≤(h2++[MO.list []]++[MO.list (refsOf rs (shelfI (ltK ks) 9))]).length:=Zac g233;have t1:ZS .NotEq (Zf 29) (ZbX (ZhF lamF) (Zd (Zf 10) Zp) (ZkK 4 1 208 ⟨255,0,255,18⟩ [])) ℓ2 h1=some (false,h2++[MO.list []]++[MO.list (refsOf rs (shelfI (ltK ks) 9))]):=by
  refine Zar (hp1:=h1) (b:=.ref (h2.length+1)) (ZR m29) ?_ (ZmX gsh3 gsort (hok2 _ _ KI3 hm1));unfold ZbX;rw[ZfZ (ZR m10)];simp only[f1,List.cons_append,List.nil_append,f2]
 revert K23 KI3 T3 gsh3 gtu3 g233 g203 gc53 gz3 hlen3 t1;refine gen (h2++[MO.list []]++[MO.list (refsOf rs (shelfI (ltK ks) 9))]) fun h3 K23 KI3 T3 gsh3 gtu3 g233 g203 gc53 gz3 hlen3 t1=>?_;refine x3_6 (Zcm (id:=5) (kt:=1) (P:=208) (pos:=⟨256,0,256,18⟩) (cl:=[]) (ℓ:=ℓ2) (show Qt 1 208 (Qp 5) h3 from T3) hlen3 (by decide)) fun q5 kc5 h4 f3 K4 g5 g5c T4 υ=>?_;have KI4:=KI3.keep K4 (by simp);have f4:=Zln (A:=B) (is:=ks.reverse) g5 g5c (K4.get g233 (by decide)) (by rw[hr9];simp[K.lk]) (by lia) (by lia) (lamR 5 h4 (by decide) KI4) (by rw[hr9];exact kB);have hBx:(B.toList.map fun i=>(rs.reverse.map MV.ref).getD i .none)=refsOf rs (turnI (ltK ks) 9):=by
  rw[tB];unfold refsOf;rw[List.map_map];apply List.map_congr_left
  intro i hi;have hi9:i < 9:=hB9 i hi;rw[List.getD_eq_getElem?_getD,List.getElem?_map,List.getElem?_reverse (by rw[K.lr];exact hi9),K.lr];refine Zgv (K.get (by lia:9 - 1 - i < 9)) fun υ υ υ e υ=>?_;rw[e];kernel_rfl
 rw[hBx] at f4;have K45:ZX [] h4 (h4++[MO.list []]++[MO.list (refsOf rs (turnI (ltK ks) 9))]):=(ZX.app _ _ _).trans (ZX.app _ _ _);have KI5:=KI4.keep K45 (by simp);have gsort5:(h4++[MO.list []]++[MO.list (refsOf rs (turnI (ltK ks) 9))])[h4.length+1]?=some (.list (refsOf rs (turnI (ltK ks) 9))):=by have:=Zv (h4++[MO.list []]) (MO.list (refsOf rs (turnI (ltK ks) 9)));simpa using this
 have gsh5:=K45.g0 (K4.get gsh3 (by simp;lia));have gtu5:=K45.g0 (K4.get gtu3 (by simp;lia));have g205:=K45.g0 (K4.get g203 (by simp));have gz5:=K45.g0 (K4.get gz3 (by decide));refine ZJ T4 fun et gt4 υ=>?_;have gt5:=K45.g0 gt4;have gc55:=K45.g0 (K4.get gc53 (by simp));have t2:ZS .NotEq (Zf 30) (ZbX (ZhF lamF) (Zd (Zf 11) Zp) (ZkK 5 1 208 ⟨256,0,256,18⟩ [])) ℓ2 h3=some (false,h4++[MO.list []]++[MO.list (refsOf rs (turnI (ltK ks) 9))]):=by
  refine Zar (hp1:=h3) (b:=.ref (h4.length+1)) (ZR m30) ?_ (ZmX gtu5 gsort5 (hok2 _ _ KI5 hm3));unfold ZbX;rw[ZfZ (ZR m11)];simp only[f3,List.cons_append,List.nil_append,f4]
 revert KI5 gsh5 g205 gz5 gt5 gc55 t2;refine gen (h4++[MO.list []]++[MO.list (refsOf rs (turnI (ltK ks) 9))]) fun h5 KI5 gsh5 g205 gz5 gt5 gc55 t2=>?_;have e4:s254 lamF 2 ℓ2 h1=some (.norm,ℓ2,h5):=Zdk (orT_f t1 t2);refine x2_5 (Zod KI5 gsh5 hm1 (by lia) m29) fun vs h6 f5 K6 gv hvl hvs=>?_;have e5:s258 lamF 2 ℓ2 h5=some (.norm,ℓ2.set 31 (some (.ref h5.length)),h6):=by
  unfold s258 ZU;rw[f5]
 have hl2:31 < ℓ2.length:=by
  have:ℓ2[30]?=some (some (.ref (sh+1))):=m30;have h30:=(hl1 31 (by decide));have hL:=L2.len;by_cases h:31 < ℓ2.length
  · exact h
  · rw[List.getElem?_eq_none (by lia)] at h30;rw[List.getElem?_eq_getElem (by lia)] at h30;exact nn h30
 have n31:(ℓ2.set 31 (some (MV.ref h5.length)))[31]?=some (some (.ref h5.length)):=List.getElem?_set_self hl2;revert e5 n31;refine gen (ℓ2.set 31 (some (MV.ref h5.length))) fun ℓ3 e5 n31=>?_;have g206:=K6.g0 g205;have gc56:=K6.g0 gc55;rw[hm2] at hvl;revert gv e5 n31;refine gen (h5.length) fun vi gv e5 n31=>?_;refine x9_1 (le9 hvl) fun v0 v1 v2 v3 v4 v5 v6 v7 v8 y'=>?_;subst y';revert hvd hm2 hvs;refine gen (shelfI (ltK ks) 9) fun S hvd hm2 hvs=>?_;refine x9_1 (le9 hm2) fun s0 s1 s2 s3 s4 s5 s6 s7 s8 y'=>?_;subst y';refine cons9 hvd fun d0 d1 d2 d3 d4 d5 d6 d7 d8=>?_;have w0:h6[v0]?=some (.list [.bool true,.bool false]):=vdg (hvs 0 v0 s0 rfl rfl) d0;have w1:h6[v1]?=some (.list [.bool true,.bool false]):=vdg (hvs 1 v1 s1 rfl rfl) d1;have w2:h6[v2]?=some (.list [.bool true,.bool false]):=vdg (hvs 2 v2 s2 rfl rfl) d2;have w3:h6[v3]?=some (.list [.bool true,.bool false]):=vdg (hvs 3 v3 s3 rfl rfl) d3;have w4:h6[v4]?=some (.list [.bool true,.bool false]):=vdg (hvs 4 v4 s4 rfl rfl) d4;have w5:h6[v5]?=some (.list [.bool true,.bool false]):=vdg (hvs 5 v5 s5 rfl rfl) d5;have w6:h6[v6]?=some (.list [.bool false,.bool true]):=vdg (hvs 6 v6 s6 rfl rfl) d6;have w7:h6[v7]?=some (.list [.bool false,.bool true]):=vdg (hvs 7 v7 s7 rfl rfl) d7;have w8:h6[v8]?=some (.list [.bool false,.bool true]):=vdg (hvs 8 v8 s8 rfl rfl) d8;have f6:ZB .Add (ZB .Mult (ZH (Zd (ZH (Zd (Zb (.bool true)) (Zd (Zb (.bool false)) Zp))) Zp)) (Zb (.int 6))) (ZB .Mult (ZH (Zd (ZH (Zd (Zb (.bool false)) (Zd (Zb (.bool true)) Zp))) Zp)) (Zb (.int 3))) ℓ3 h6=some (.ref (h6.length+6),h6++[.list [.bool true,.bool false],.list [.ref h6.length],.list (Qv 6 [.ref h6.length]),.list [.bool false,.bool true],.list [.ref (h6.length+3)],.list (Qv 3 [.ref (h6.length+3)]),.list (Qv 6 [.ref h6.length]++Qv 3 [.ref (h6.length+3)])]):=by
  simp[ZB,ZH,Zd,Zp,Zb,Zix.eq_def,Qv]
 have gn:∀k,(h6++[MO.list [.bool true,.bool false],.list [.ref h6.length],.list (Qv 6 [.ref h6.length]),.list [.bool false,.bool true],.list [.ref (h6.length+3)],.list (Qv 3 [.ref (h6.length+3)]),.list (Qv 6 [.ref h6.length]++Qv 3 [.ref (h6.length+3)])])[h6.length+k]?=[MO.list [.bool true,.bool false],.list [.ref h6.length],.list (Qv 6 [.ref h6.length]),.list [.bool false,.bool true],.list [.ref (h6.length+3)],.list (Qv 3 [.ref (h6.length+3)]),.list (Qv 6 [.ref h6.length]++Qv 3 [.ref (h6.length+3)])][k]?:=fun k=>by rw[List.getElem?_append_right (by lia)];simp
 have K7:ZX [] h6 (h6++[MO.list [.bool true,.bool false],.list [.ref h6.length],.list (Qv 6 [.ref h6.length]),.list [.bool false,.bool true],.list [.ref (h6.length+3)],.list (Qv 3 [.ref (h6.length+3)]),.list (Qv 6 [.ref h6.length]++Qv 3 [.ref (h6.length+3)])]):=ZX.app _ _ _;revert f6 gn K7;refine gen (h6++[MO.list [.bool true,.bool false],.list [.ref h6.length],.list (Qv 6 [.ref h6.length]),.list [.bool false,.bool true],.list [.ref (h6.length+3)],.list (Qv 3 [.ref (h6.length+3)]),.list (Qv 6 [.ref h6.length]++Qv 3 [.ref (h6.length+3)])]) fun h7 f6 gn K7=>?_;have w0:=K7.g0 w0;have w1:=K7.g0 w1;have w2:=K7.g0 w2;have w3:=K7.g0 w3;have w4:=K7.g0 w4;have w5:=K7.g0 w5;have w6:=K7.g0 w6;have w7:=K7.g0 w7;have w8:=K7.g0 w8;have gv7:=K7.g0 gv;have g207:=K7.g0 g206;have gc57:=K7.g0 gc56;have a0:h7[h6.length]?=some (.list [.bool true,.bool false]):=gn 0;have a3:h7[h6.length+3]?=some (.list [.bool false,.bool true]):=gn 3;have a6:h7[h6.length+6]?=some (.list (Qv 6 [.ref h6.length]++Qv 3 [.ref (h6.length+3)])):=gn 6;revert f6 a0 a3 a6;refine gen (h6.length) fun m f6 a0 a3 a6=>?_;have f7:ZdE .NotEq (.ref vi) (.ref (m+6)) h7=some false:=by
  have q1:toD 3 h7 (.ref vi)=some (.list (List.replicate 6 (.list [.bool true,.bool false])++List.replicate 3 (.list [.bool false,.bool true]))):=by
   exact Zll gv7 (ZaW (Zah (n:=0) w0) (ZaW (Zah (n:=0) w1) (ZaW (Zah (n:=0) w2) (ZaW (Zah (n:=0) w3) (ZaW (Zah (n:=0) w4) (ZaW (Zah (n:=0) w5) (ZaW (Zah (n:=0) w6) (ZaW (Zah (n:=0) w7) (ZaW (Zah (n:=0) w8) (rfl))))))))))
  have q2:toD 3 h7 (.ref (m+6))=some (.list (List.replicate 6 (.list [.bool true,.bool false])++List.replicate 3 (.list [.bool false,.bool true]))):=by
   exact Zll a6 (ZaW (Zah (n:=0) a0) (ZaW (Zah (n:=0) a0) (ZaW (Zah (n:=0) a0) (ZaW (Zah (n:=0) a0) (ZaW (Zah (n:=0) a0) (ZaW (Zah (n:=0) a0) (ZaW (Zah (n:=0) a3) (ZaW (Zah (n:=0) a3) (ZaW (Zah (n:=0) a3) (rfl))))))))))
  show ZkG (eqC h7 (.ref vi) (.ref (m+6)))=_
  rw[ZeA q1 q2 (by kernel_rfl) (by kernel_rfl) (by decide +kernel)];rw[PySem.SeqAt.eqv_refl _ (by kernel_rfl)];rfl
 have e6:s259 lamF 2 ℓ3 h6=some (.norm,ℓ3,h7):=Zdk (Zar (ZR n31) f6 f7);have zsw:∀u∈([v0,v1,v2,v3,v4,v5,v6,v7,v8].map MV.ref),∃k,u=.ref k∧∃b1 b2,h7[k]?=some (.list [.bool b1,.bool b2]):=by
  exact mcn (p:=fun u:MV=>∃k,u=MV.ref k∧∃b1 b2,h7[k]?=some (MO.list [MV.bool b1,MV.bool b2])) ⟨_,rfl,_,_,w0⟩ (mcn ⟨_,rfl,_,_,w1⟩ (mcn ⟨_,rfl,_,_,w2⟩ (mcn ⟨_,rfl,_,_,w3⟩ (mcn ⟨_,rfl,_,_,w4⟩ (mcn ⟨_,rfl,_,_,w5⟩ (mcn ⟨_,rfl,_,_,w6⟩ (mcn ⟨_,rfl,_,_,w7⟩ (mcn ⟨_,rfl,_,_,w8⟩ (fun υ h=>absurd h List.not_mem_nil)))))))))
 have hcomp:=Zdo (k:=vi) (N:=100) (xs:=[v0,v1,v2,v3,v4,v5,v6,v7,v8].map MV.ref) (it:=itE (Zf 31)) (it2:=itE (Zf 0)) (t:=Qi) (f:=Zf 1) (ℓ:=ℓ3) (hp:=h7) (hp0:=h7)
  (fun u=>match u with | .ref k=>k | _=>0) (fun u=>match u with | .ref k=>(match h7[k]? with | some (.list l)=>l | _=>[]) | _=>[]) (fun υ υ=>true) (fun υ v=>v) (by simp only[itE.eq_def,ZR n31,gv7]) gv7 (by simp) (by decide)
  (fun u hu=>by
   obtain ⟨k,rfl,b1,b2,hk⟩:=zsw u hu;simp only[hk];refine ZnZ trivial (by simp) (fun ys=>?_);simp only[itE.eq_def,Zf,List.getElem?_cons_zero,Zk hk])
  (fun u hu v hv ys=>⟨rfl,fun υ=>rfl⟩)
 obtain ⟨bl,hbl,hbll⟩:=ZnH (fun u=>match u with | .ref k=>(match h7[k]? with | some (.list l)=>l | _=>[]) | _=>[]) ([v0,v1,v2,v3,v4,v5,v6,v7,v8].map MV.ref) (fun u hu=>by
  obtain ⟨k,rfl,b1,b2,hk⟩:=zsw u hu;exact ⟨b1,b2,by simp only[hk]⟩)
 rw[hbl] at hcomp;have g208:=Zk g207 [MO.list (bl.map .bool)];have gz9:=Zo (Zk (K7.g0 (K6.g0 gz5)) [MO.list (bl.map .bool)]) (by decide:20≠0) (.list ((bs++bl).map .bool));have gt9:=Zo (Zk (K7.g0 (K6.g0 gt5)) [MO.list (bl.map .bool)]) (by decide:20≠1) (.list ((bs++bl).map .bool));have gbl:=Zv h7 (MO.list (bl.map .bool));have gc58:=Zk gc57 [MO.list (bl.map .bool)];have hne:h7.length≠20:=by have:=Zac g207;lia
 have hbl18:bl.length=18:=by simpa using hbll
 have e7:s261 lamF 2 ℓ3 h7=some (.norm,ℓ3,(h7++[MO.list (bl.map .bool)]).set 20 (.list ((bs++bl).map .bool))):=by
  have hb1:bs.length+bl.length≤100000:=by lia
  unfold s261 Zgu ZV;simp only[ZfP gc57,Zd,Zp,hcomp,tyOf.eq_def,g207,g208,if_true,ZkR.eq_def,gbl,List.length_map,if_pos hb1,List.map_append]
 have g209:=ZP g208 (.list ((bs++bl).map .bool));have gc59:=Zo gc58 (by decide:20≠5) (.list ((bs++bl).map .bool));revert gz9 gt9 e7 g209 gc59;refine gen ((h7++[MO.list (bl.map .bool)]).set 20 (.list ((bs++bl).map .bool))) fun h9 gz9 gt9 e7 g209 gc59=>?_;have f8:=ZdV (k:=20) (N:=1000) (xs:=(bs++bl).map .bool) (it:=itE (ZL 5)) (t:=andT (ZS .IsNot (Zf 0) (Zb (.bool true))) (ZS .IsNot (Zf 0) (Zb (.bool false)))) (f:=Zf 0) (ℓ:=ℓ3) (hp:=h9) (fun υ=>false) (fun v=>v) (by simp only[itE.eq_def,ZfP gc59,g209]) g209 (by simp;lia) (by simp;lia) (fun v hv ys=>by
  refine ZJ (List.mem_map.mp hv) fun b υ yq=>?_;subst yq;refine ⟨?_,fun h=>by cases h⟩;cases b<;>rfl)
 have hnil:((((bs++bl).map MV.bool).filter fun υ=>false).map fun v=>v)=([]:List Bool).map MV.bool:=by simp
 rw[hnil] at f8;have f9:ZS .Eq (Qb (itE (ZL 5)) (andT (ZS .IsNot (Zf 0) (Zb (.bool true))) (ZS .IsNot (Zf 0) (Zb (.bool false)))) (Zf 0) 1000) (ZH Zp) ℓ3 h9=some (true,h9++[MO.list (([]:List Bool).map MV.bool)]++[MO.list (([]:List Bool).map MV.bool)]):=
  Zar (b:=.ref (h9++[MO.list (([]:List Bool).map MV.bool)]).length) f8 rfl (Zcu (bl:=[]) (Zk (Zv _ _) _) (Zv _ _))
 have e8:s262 lamF 2 ℓ3 h9=some (.ret (.bool true),ℓ3,h9++[MO.list (([]:List Bool).map MV.bool)]++[MO.list (([]:List Bool).map MV.bool)]):=by
  unfold s262 Qk ZbG;rw[f9]
 exact p2_3 _ _ ((Zl e1).trans ((Zl e2).trans ((Zl e3).trans ((Zl e4).trans ((Zl e5).trans ((Zl e6).trans ((Zl e7).trans (ZgU e8)))))))) ⟨_,Zk (Zk gz9 _) _⟩ ⟨_,Zk (Zk gt9 _) _⟩
end
end
set_option tactic.hygienic true
section
variable {nm:List Nat} {os:List (List Nat)} {ws:List Int} {ℓ:Loc} {hp:Hp} {N:Nat}
section
theorem bmM{x y:Int}:Zix .Mod (.int x) (.int y) hp=if 0 < y∧y < 1000001 then some (.int (x % y),hp) else none:=rfl
theorem bmA{x y:Int}:Zix .Add (.int x) (.int y) hp=some (.int (x+y),hp):=rfl
theorem bmS{x y:Int}:Zix .Sub (.int x) (.int y) hp=some (.int (x - y),hp):=rfl
theorem bmL{i j:Nat}:Zix .Add (.ref i) (.ref j) hp=match hp[i]?,hp[j]? with
 | some (.list xs),some (.list ys)=>if xs.length+ys.length≤100000 then some (.ref hp.length,hp++[.list (xs++ys)]) else none
 | _,_=>none:=rfl
theorem bmT{x y:List Nat}:Zix .Add (.str x) (.str y) hp=if x.length+y.length≤100000 then some (.str (x++y),hp) else none:=rfl
noncomputable def closings:List Nat:=[172,174,846,848,6149,6151,6154,6158,8202,8206,8287,8289,65278,65280,65023,65040]
noncomputable def unseens:List Nat:=[173,847,6150,6155,6156,6157,8203,8204,8205,8288,65279,65024,65025,65026,65027,65028,65029,65030,65031,65032,65033,65034,65035,65036,65037,65038,65039]
noncomputable def ZoY(l k:Nat):Nat:=if k=0 then l else if k=1 then l - 32 else [119808,119860,119912,120016,120172,120224,120276,120328,120380,120432].getD (k - 2) 0+l - 97
noncomputable def inB(c:Nat)(b:Bool):Bool:=decide (Qr (Zbt [.str [c]] [])=some (.bool b))
noncomputable def folds(c:Nat)(m:List Nat):Bool:=decide (Qr (ZaJ [.str [c]] [])=some (.str m))
noncomputable def Zls(c:Nat)(m:List Nat):Bool:=(inB c true&&m==[]) || (inB c false&&folds c m)
theorem ZdL:(closings.all fun c=>Zls c [c]&&!letters.contains c)=true:=by decide +kernel
theorem Zke:(unseens.all fun c=>Zls c [])=true:=by decide +kernel
theorem Zot:(letters.all fun l=>(List.range 12).all fun k=>Zls (ZoY l k) [l])=true:=by decide +kernel
noncomputable def ZbJ:List (List Nat×MV):=[([109,112,97],.int 13227),([107,112,97],.int 13226),([107,109],.int 13262),([107,97],.int 13188),([109,97],.int 13187),([112,97],.int 13184)]
theorem Znz:(ZbJ.all fun p=>match p.2 with | .int c=>Zls c.toNat p.1 | _=>false)=true:=by decide +kernel
theorem ZnP:((List.range 16).all fun k=>decide (Qr (ZaF [.int k] [])=some (.str [closings.getD k 0])))=true:=by decide +kernel
theorem Zns:((List.range 27).all fun k=>decide (Qr (ZaE [.int k] [])=some (.str [unseens.getD k 0])))=true:=by decide +kernel
theorem form_fin:(letters.all fun l=>(List.range 12).all fun k=>decide (Qr (Zba [.str [l],.int k] [])=some (.str [ZoY l k])))=true:=by decide +kernel
theorem ZkN{F:FF}{a b:List MV}(ha:a.all ZO=true)(hb:b.all ZO=true)(h:F a []=F b []):Qr (Zgt F a [])=Qr (Zgt F b []):=by
 unfold Zgt;rw[if_pos ha,if_pos hb,h]
theorem Zlc(n:Int)(hp:Hp):∃c∈closings,ZaF [.int n] hp=some (.str [c],hp):=by
 have e:Qr (ZaF [.int n] [])=Qr (ZaF [.int (n % 16)] []):=ZkN rfl rfl (by
  simp[Qw,Zce,s105,s106,Zn,ZU,Qk,Zr,Zd,Zp,ZH,ZZ,ZB,Zf,Zb,bmM,bmA,bmS,bmT];generalize ZnG _ _ _=u;cases u with
  | none=>rfl
  | some v=>dsimp only;generalize Zpr _ _=q;cases q<;>rfl)
 have h0:=Int.emod_nonneg n (by decide:(16:Int)≠0);have h1:=Int.emod_lt_of_pos n (by decide:(0:Int) < 16);have hk:=of_decide_eq_true (lae ZnP (n % 16).toNat (List.mem_range.mpr (by lia)));rw[show (((n % 16).toNat:Nat):Int)=n % 16 by lia] at hk;refine Qd _ ?_ (ZaO (e.trans hk) hp);rw[List.getD_eq_getElem?_getD,List.getElem?_eq_getElem (by show _ < 16;lia)];exact List.getElem_mem _
theorem ZeH(n:Int)(hp:Hp):ZaE [.int n] hp=some (.str [unseens.getD (n % 27).toNat 0],hp)∧unseens.getD (n % 27).toNat 0∈unseens:=by
 have e:Qr (ZaE [.int n] [])=Qr (ZaE [.int (n % 27)] []):=ZkN rfl rfl (by
  have hr:(rngL 65024 16).length=16:=rfl;simp[Qw,Zcd,s102,s103,Zn,ZU,Qk,Zr,Zd,Zp,ZH,Zig,ZZ,ZB,Zf,Zb,bmM,bmL,hr];generalize ZnG _ _ _=u;cases u with
  | none=>rfl
  | some v=>dsimp only;generalize Zpr _ _=q;cases q<;>rfl)
 have h0:=Int.emod_nonneg n (by decide:(27:Int)≠0);have h1:=Int.emod_lt_of_pos n (by decide:(0:Int) < 27);have hk:=of_decide_eq_true (lae Zns (n % 27).toNat (List.mem_range.mpr (by lia)));rw[show (((n % 27).toNat:Nat):Int)=n % 27 by lia] at hk;refine ⟨ZaO (e.trans hk) hp,?_⟩;rw[List.getD_eq_getElem?_getD,List.getElem?_eq_getElem (by show _ < 27;lia)];exact List.getElem_mem _
theorem ZoX(n:Int)(hp:Hp){l:Nat}(hl:l∈letters):Zba [.str [l],.int n] hp=some (.str [ZoY l (n % 12).toNat],hp):=by
 have e:Qr (Zba [.str [l],.int n] [])=Qr (Zba [.str [l],.int (n % 12)] []):=ZkN rfl rfl (by
  by_cases c0:n % 12=0
  · simp[Qw,ZbA,s108,s109,Zn,ifS,Qk,ZB,ZS,Zf,Zb,bmM,bmA,bmS,bmT,ZdE.eq_def,eqC.eq_def,c0]
  · by_cases c1:n % 12=1
    · simp[Qw,ZbA,s108,s110,s111,Zn,ZA,ifS,Qk,Zr,Zd,Zp,ZB,ZS,Zf,Zb,bmM,bmA,bmS,bmT,ZdE.eq_def,eqC.eq_def,c1,ordF.eq_def];generalize Zpr _ _=q;cases q<;>rfl
    · simp[Qw,ZbA,s108,s110,s112,s113,Zn,ZA,ZU,ifS,Qk,Zr,Zd,Zp,ZH,ZZ,ZB,ZS,Zf,Zb,bmM,bmA,bmS,bmT,ZdE.eq_def,eqC.eq_def,c0,c1,ordF.eq_def];generalize ZnG _ _ _=u;cases u with
      | none=>rfl
      | some v=>cases v<;>first | rfl | (simp[bmA,bmS];generalize Zpr _ _=q;cases q<;>rfl))
 have h0:=Int.emod_nonneg n (by decide:(12:Int)≠0);have h1:=Int.emod_lt_of_pos n (by decide:(0:Int) < 12);have hk:=of_decide_eq_true (lae (lae form_fin l hl) (n % 12).toNat (List.mem_range.mpr (by lia)));rw[show (((n % 12).toNat:Nat):Int)=n % 12 by lia] at hk;exact ZaO (e.trans hk) hp
noncomputable def perms4:List (List Nat):=letters.flatMap fun a=>(letters.filter (· != a)).flatMap fun b=>(letters.filter fun x=>x != a&&x != b).flatMap fun c=>(letters.filter fun x=>x != a&&x != b&&x != c).map fun d=>[a,b,c,d]
noncomputable def outV:Option (Ctl×Loc×Hp)→Option MV
 | some (.ret v,_,_)=>some v
 | _=>none
noncomputable def Zcy(n r:Int):Option MV:=outV (Zn s117 (Zn s118 (Zn s121 ZA)) [some (.int n),some (.ref 0),some (.int r),none,none] [.list [.str (Str.ofString "a").cps.toList,.str (Str.ofString "k").cps.toList,.str (Str.ofString "m").cps.toList,.str (Str.ofString "p").cps.toList]])
theorem Zov:((List.range 24).all fun k=>match Zcy 0 k with | some (.str o)=>perms4.contains o | _=>false)=true:=by decide +kernel
theorem Zow(n:Int)(r:Nat)(hr:r < 24):Zcy n r=Zcy 0 r:=by
 have h:(List.range 24).map (fun r:Nat=>Zcy n r)=(List.range 24).map (fun r:Nat=>Zcy 0 r):=by kernel_rfl
 exact List.map_inj_left.mp h r (List.mem_range.mpr hr)
theorem ZgY(n:Int):∃o∈perms4,∀hp,Zbi [.int n] hp=some (.str o,hp):=by
 have h0:=Int.emod_nonneg n (by decide:(24:Int)≠0);have h1:=Int.emod_lt_of_pos n (by decide:(0:Int) < 24);have hk:=lae Zov (n % 24).toNat (List.mem_range.mpr (by lia));have e:=Zow n (n % 24).toNat (by lia);split at hk
 · rename_i o ho;rw[ho,show (((n % 24).toNat:Nat):Int)=n % 24 by lia] at e;refine Qd o (by simpa using hk) (fun hp=>ZaO ?_ hp);unfold Zcy outV at e;split at e
   · rename_i v l h q;refine oi1 e fun yq=>?_;subst yq;simp[Zgt,pl_i,Qw,Zcq,s115,s116,Zn,ZU,Zd,Zp,ZH,ZB,Zf,Zb,bmM,bmA,bmS,bmT] at q ⊢;rw[q];rfl
   · exact nn e
 · cases hk
end
end
set_option tactic.hygienic false
section
variable {nm:List Nat} {os:List (List Nat)} {ws:List Int} {ℓ:Loc} {hp:Hp} {N:Nat}
section
noncomputable def sl(o:List Nat)(i j:Int):List Nat:=(Txt.slice (mkS o) (some i) (some j)).cps.toList
noncomputable def Zbq(g:Nat)(p:List Nat)(s:Nat):Nat:=if (ZbJ.lookup p).isSome&&!(Txt.contains (mkS p) (mkS [g])) then p.length else s
noncomputable def Zbo(o:List Nat)(g:Nat)(odd:Bool)(k:Nat):Nat:=if odd then Zbq g (sl o k (k+3)) (Zbq g (sl o k (k+2)) 1) else 1
noncomputable def ZN(o:List Nat)(g:Nat)(odd:Bool)(k:Nat):List Nat:=sl o k (k+Zbo o g odd k)
noncomputable def jointC(p:List Nat):Nat:=match ZbJ.lookup p with | some (.int c)=>c.toNat | _=>0
noncomputable def Zck(o:List Nat)(g:Nat)(way place:Int)(k:Nat):Nat:=
 if 1 < Zbo o g (way % 2==1) k then jointC (ZN o g (way % 2==1) k) else if ZN o g (way % 2==1) k=[g] then unseens.getD ((way / 24+place) % 27).toNat 0 else ZoY ((ZN o g (way % 2==1) k).getD 0 0) ((way / 2+k) % 12).toNat
noncomputable def typedFrom(o:List Nat)(g:Nat)(way place:Int):Nat→Nat→List Nat
 | 0,_=>[]
 | n+1,k=>if k < 4 then Zck o g way place k::typedFrom o g way place n (k+Zbo o g (way % 2==1) k) else []
noncomputable def ZfT(o:List Nat)(g:Nat)(odd:Bool):Nat→Nat→List Nat
 | 0,_=>[]
 | n+1,k=>if k < 4 then (if 1 < Zbo o g odd k then ZN o g odd k else if ZN o g odd k=[g] then [] else ZN o g odd k)++ZfT o g odd n (k+Zbo o g odd k) else []
noncomputable def Zlm(o:List Nat)(g:Nat)(odd:Bool)(k:Nat):Bool:=Nat.ble 1 (Zbo o g odd k)&&Nat.ble (Zbo o g odd k) 3&&(if 1 < Zbo o g odd k then (ZbJ.contains (ZN o g odd k,.int (jointC (ZN o g odd k))))&&ZbJ.lookup (ZN o g odd k)==some (.int (jointC (ZN o g odd k)))&&Nat.ble (jointC (ZN o g odd k)) 1000000 else letters.any fun l=>ZN o g odd k==[l])
theorem ZeK:(perms4.all fun o=>letters.all fun g=>[true,false].all fun odd=>((List.range 4).all (Zlm o g odd))&&ZfT o g odd 5 0==o.filter (· != g)&&decide (o.length=4))=true:=by decide +kernel
noncomputable abbrev TL(o:List Nat)(g:Nat)(way place:Int)(typed:List Nat)(k:Nat)(sz pc:Option MV):Loc:=[some (.str o),some (.str [g]),some (.int way),some (.int place),some (.ref 0),some (.str typed),some (.int k),sz,pc]
theorem st129a{o:List Nat}{g:Nat}{way place:Int}{typed p:List Nat}{k s:Nat}(h0:hp[0]?=some (.dict ZbJ))(hp4:p.length≤100000):
 s130 (TL o g way place typed k (some (.int s)) (some (.str p))) hp=some (.norm,TL o g way place typed k (some (.int (Zbq g p s))) (some (.str p)),hp):=by
 unfold s130 ifS andT ZS;simp only[Zf,List.getElem?_cons_zero,List.getElem?_cons_succ,ZdE.eq_def,inC.eq_def,h0];cases hl:(ZbJ.lookup p).isSome with
 | false=>simp[Zbq,hl,ZA]
 | true=>
  simp only[ZkG];cases hc:Txt.contains (mkS p) (mkS [g]) with
  | true=>simp[Zbq,hl,hc,ZA]
  | false=>simp[Zbq,hl,hc,Zn,ZA,s131,ZU,Zr,Zd,Zp,Zf,lenF.eq_def,hp4]
theorem sl_len(o:List Nat)(i j:Int):(sl o i j).length≤o.length:=by
 have e:(Txt.slice (mkS o) (some i) (some j)).cps.toList.length≤(mkS o).length:=by
  unfold Txt.slice;split
  · simp[PySem.Str.length]
  · exact Nat.le_trans (List.length_filterMap_le _ _) (sliceIndices_le _ _ _)
 rw[Zay] at e;exact e
theorem st128{o:List Nat}{g:Nat}{way place:Int}{typed:List Nat}{k:Nat}{pc:Option MV}(ho:o.length=4)(h0:hp[0]?=some (.dict ZbJ)):
 ∃pc' hp',s128 (TL o g way place typed k (some (.int 1)) pc) hp=some (.norm,TL o g way place typed k (some (.int (Zbo o g (way % 2==1) k))) pc',hp')∧hp'[0]?=some (.dict ZbJ):=by
 have ho':o.length≤100000:=by lia
 have ht:ZS .Eq (ZB .Mod (Zf 2) (Zb (.int 2))) (Zb (.int 1)) (TL o g way place typed k (some (.int 1)) pc) hp=some ((way % 2==1),hp):=by
  kernel_rfl
 cases hb:(way % 2==1) with
 | false=>
  rw[hb] at ht;exact ZeN pc hp (by unfold s128;rw[Zdk ht];rfl) h0
 | true=>
  rw[hb] at ht;have h1:(hp++[MO.list [.str (sl o k (k+2)),.str (sl o k (k+3))]])[0]?=some (.dict ZbJ):=Zk h0 _;have hl:=Zv hp (MO.list [.str (sl o k (k+2)),.str (sl o k (k+3))]);have a1:=st129a (o:=o) (g:=g) (way:=way) (place:=place) (typed:=typed) (k:=k) (s:=1) (p:=sl o k (k+2)) h1 (by have:=sl_len o k (k+2);lia);have a2:=st129a (o:=o) (g:=g) (way:=way) (place:=place) (typed:=typed) (k:=k) (s:=Zbq g (sl o k (k+2)) 1) (p:=sl o k (k+3)) h1 (by have:=sl_len o k (k+3);lia);refine ZeN (some (.str (sl o k (k+3)))) _ ?_ h1;unfold s128;rw[Zgy ht];simp only[Zn];have e:s129 (TL o g way place typed k (some (.int 1)) pc) hp=some (.norm,TL o g way place typed k (some (.int (Zbq g (sl o k (k+3)) (Zbq g (sl o k (k+2)) 1)))) (some (.str (sl o k (k+3)))),hp++[MO.list [.str (sl o k (k+2)),.str (sl o k (k+3))]]):=by
   have ei:itE (ZH (Zd (ZgR (Zf 0) (Qj (Zf 6)) (Qj (ZB .Add (Zf 6) (Zb (.int 2))))) (Zd (ZgR (Zf 0) (Qj (Zf 6)) (Qj (ZB .Add (Zf 6) (Zb (.int 3))))) Zp))) (TL o g way place typed k (some (.int 1)) pc) hp=some (.list hp.length,hp++[MO.list [.str (sl o k (k+2)),.str (sl o k (k+3))]]):=by
    unfold itE ZH;simp only[Zd,Zp,ZgR,Zf,Qj,ZB,Zb,Zix.eq_def,ZiQ,List.getElem?_cons_zero,List.getElem?_cons_succ,ho',if_true];simp only[show ∀i j:Int,(Txt.slice (mkS o) (some i) (some j)).cps.toList=sl o i j from fun υ υ=>rfl,hl];simp
   unfold s129 Zbr;rw[ei];simp only;unfold Zee;simp only[Src.item,hl,List.getElem?_cons_zero,List.getElem?_cons_succ,tgL,List.set_cons_succ,List.set_cons_zero,Zn];rw[show ([some (MV.str o),some (MV.str [g]),some (MV.int way),some (MV.int place),some (MV.ref 0),some (MV.str typed),some (MV.int k),some (MV.int 1),some (MV.str (sl o k (k+2)))]:Loc)=TL o g way place typed k (some (.int (1:Nat))) (some (.str (sl o k (k+2)))) from rfl,a1];simp only[ZA];unfold Zee;simp only[Src.item,hl,List.getElem?_cons_zero,List.getElem?_cons_succ,tgL,List.set_cons_succ,List.set_cons_zero,Zn];rw[a2];simp only[ZA];unfold Zee;simp[Src.item]
  rw[e];kernel_rfl
theorem ZgP{o:List Nat}{g:Nat}{way place:Int}(ho:o∈perms4)(hg:g∈letters):∀(n k:Nat) (typed:List Nat) (sz pc:Option MV) (hp:Hp),hp[0]?=some (.dict ZbJ)→4 - k < n→typed.length≤k→k≤10→
 ∃k' sz' pc' hp',Zbn (ZS .Lt (Zf 6) (Zb (.int 4))) (Zn s127 (Zn s128 (Zn s132 (Zn s133 (Zn s139 ZA))))) n (TL o g way place typed k sz pc) hp=some (.norm,TL o g way place (typed++typedFrom o g way place n k) k' sz' pc',hp')
 | 0,k,typed,sz,pc,hp,h0,hn,ht,hk=>sb0 hn
 | n+1,k,typed,sz,pc,hp,h0,hn,ht,hk=>by
  unfold Zbn;have hx:=lae (lae (lae ZeK o ho) g hg) (way % 2==1) (by cases (way % 2==1)<;>simp);rw[Bool.and_eq_true,Bool.and_eq_true] at hx;have ho4:o.length=4:=of_decide_eq_true hx.2;have et:ZS .Lt (Zf 6) (Zb (.int 4)) (TL o g way place typed k sz pc) hp=some (decide ((k:Int) < 4),hp):=rfl;rw[et];by_cases hk4:k < 4
  · have hk4':decide ((k:Int) < 4)=true:=decide_eq_true (by lia);have hst:=lae hx.1.1 k (List.mem_range.mpr hk4);refine ZeF (st128 (o:=o) (g:=g) (way:=way) (place:=place) (typed:=typed) (k:=k) (pc:=pc) (hp:=hp) ho4 h0) fun pc1 hp1 e128 h01=>?_;have e127:s127 (TL o g way place typed k sz pc) hp=some (.norm,TL o g way place typed k (some (.int 1)) pc,hp):=rfl;have hsz:∀i j:Int,(Txt.slice (mkS o) (some i) (some j)).cps.toList=sl o i j:=fun υ υ=>rfl;unfold Zlm at hst;generalize hsz:Zbo o g (way % 2==1) k=z at *;have e132:s132 (TL o g way place typed k (some (.int z)) pc1) hp1=some (.norm,TL o g way place typed k (some (.int z)) (some (.str (ZN o g (way % 2==1) k))),hp1):=by
     unfold s132 ZU ZgR;have ho':o.length≤100000:=by lia
     simp only[Zf,List.getElem?_cons_zero,List.getElem?_cons_succ,Qj,ZB,Zix.eq_def,ZiQ,ho',if_true,List.set_cons_succ,List.set_cons_zero];unfold ZN;rw[hsz];rfl
    have hsgn:∃hp2,s133 (TL o g way place typed k (some (.int z)) (some (.str (ZN o g (way % 2==1) k)))) hp1=some (.norm,TL o g way place (typed++[Zck o g way place k]) k (some (.int z)) (some (.str (ZN o g (way % 2==1) k))),hp2)∧hp2[0]?=some (.dict ZbJ):=by
     refine Qd hp1 ?_ h01;have ht2:typed.length+1≤100000:=by lia
     rw[Bool.and_eq_true,Bool.and_eq_true] at hst;have eg:ZS .Gt (Zf 7) (Zb (.int 1)) (TL o g way place typed k (some (.int z)) (some (.str (ZN o g (way % 2==1) k)))) hp1=some (decide ((1:Int) < z),hp1):=rfl;unfold s133;by_cases hz:1 < z
     · rw[decide_eq_true (show (1:Int) < z by lia)] at eg;rw[Zgy eg];rw[if_pos hz,Bool.and_eq_true,Bool.and_eq_true] at hst;have hl:=eq_of_beq hst.2.1.2;have hc:jointC (ZN o g (way % 2==1) k)≤1000000:=Nat.le_of_ble_eq_true hst.2.2;have e2:Zck o g way place k=jointC (ZN o g (way % 2==1) k):=by unfold Zck;rw[hsz,if_pos hz]
       rw[e2];generalize ZN o g (way % 2==1) k=p at *;have hc':0≤(jointC p:Int)∧(jointC p:Int)≤0x10FFFF:=by lia
       simp[Zn,ZA,s134,Ziz,Zf,Zr,Zd,Zp,ZZ,ZnG.eq_def,h01,hl,Zpr.eq_def,hc',iop.eq_def,ht2]
     · rw[decide_eq_false (show ¬(1:Int) < z by lia)] at eg;rw[Zgz eg];rw[if_neg hz] at hst;refine ZJ (List.any_eq_true.mp hst.2) fun l hlm hle=>?_;have hle:=eq_of_beq hle;have e2:Zck o g way place k=if ZN o g (way % 2==1) k=[g] then unseens.getD ((way / 24+place) % 27).toNat 0 else ZoY ((ZN o g (way % 2==1) k).getD 0 0) ((way / 2+k) % 12).toNat:=by unfold Zck;rw[hsz,if_neg hz]
       rw[e2,hle];have ee:ZS .Eq (Zf 8) (Zf 1) (TL o g way place typed k (some (.int z)) (some (.str [l]))) hp1=some (decide ([l]=[g]),hp1):=rfl;simp only[Zn,s135];by_cases hlg:[l]=[g]
       · rw[decide_eq_true hlg] at ee;rw[Zgy ee,if_pos hlg];simp[Zn,ZA,s136,Ziz,Zf,Zr,Zd,Zp,ZB,Zix.eq_def,Zb,(ZeH _ _).1,iop.eq_def,ht2]
       · rw[decide_eq_false hlg] at ee;rw[Zgz ee,if_neg hlg];simp[Zn,ZA,s138,Ziz,Zf,Zr,Zd,Zp,ZB,Zix.eq_def,Zb,ZoX _ _ hlm,iop.eq_def,ht2]
    refine ZJ hsgn fun hp2 e133 h02=>?_;have e139:s139 (TL o g way place (typed++[Zck o g way place k]) k (some (.int z)) (some (.str (ZN o g (way % 2==1) k)))) hp2=some (.norm,TL o g way place (typed++[Zck o g way place k]) (k+z) (some (.int z)) (some (.str (ZN o g (way % 2==1) k))),hp2):=rfl;rw[Bool.and_eq_true,Bool.and_eq_true] at hst;have hz1:1≤z:=Nat.le_of_ble_eq_true hst.1.1;have hz3:z≤3:=Nat.le_of_ble_eq_true hst.1.2;refine x4_1 (ZgP (way:=way) (place:=place) ho hg n (k+z) (typed++[Zck o g way place k]) (some (.int z)) (some (.str (ZN o g (way % 2==1) k))) hp2 h02 (sb3 hn hk4 hz1) (sb5 ht hz1) (Nat.add_le_add (Nat.le_of_lt_succ (Nat.lt_of_lt_of_le hk4 (by decide:4≤8))) hz3)) fun k' sz' pc' hp' ih=>?_;refine p4_1 k' sz' pc' hp' ?_;rw[hk4'];simp only;rw[Zl e127,Zl e128,Zl e132,Zl e133,Zl e139];simp only[ZA];rw[ih];conv=>rhs;unfold typedFrom
    rw[if_pos hk4,hsz];simp
  · have hk4':decide ((k:Int) < 4)=false:=decide_eq_false (by lia);refine p4_1 k sz pc hp ?_;rw[hk4'];conv=>rhs;unfold typedFrom
    rw[if_neg hk4];simp
noncomputable def typedL(o:List Nat)(g:Nat)(way place:Int):List Nat:=typedFrom o g way place 100 0
theorem Znt{o:List Nat}{g:Nat}{way place:Int}(ho:o∈perms4)(hg:g∈letters)(hp:Hp):ZaL [.str o,.str [g],.int way,.int place] hp=some (.str (typedL o g way place),hp):=by
 refine ZaO ?_ hp;refine x4_1 (ZgP (way:=way) (place:=place) ho hg 100 0 [] none none [.dict ZbJ] rfl (by decide) (by decide) (by decide)) fun k' sz' pc' hp' e=>?_;have e1:s123 [some (.str o),some (.str [g]),some (.int way),some (.int place),none,none,none,none,none] []=some (.norm,[some (.str o),some (.str [g]),some (.int way),some (.int place),some (.ref 0),none,none,none,none],[.dict ZbJ]):=by kernel_rfl
 have e2:s124 [some (.str o),some (.str [g]),some (.int way),some (.int place),some (.ref 0),none,none,none,none] [.dict ZbJ]=some (.norm,[some (.str o),some (.str [g]),some (.int way),some (.int place),some (.ref 0),some (.str []),none,none,none],[.dict ZbJ]):=by kernel_rfl
 have e3:s125 [some (.str o),some (.str [g]),some (.int way),some (.int place),some (.ref 0),some (.str []),none,none,none] [.dict ZbJ]=some (.norm,TL o g way place [] 0 none none,[.dict ZbJ]):=rfl;have e4:ZbK [some (.str o),some (.str [g]),some (.int way),some (.int place),none,none,none,none,none] []=some (.ret (.str (typedL o g way place)),TL o g way place (typedL o g way place) k' sz' pc',hp'):=by
  unfold ZbK;rw[Zl e1,Zl e2,Zl e3,Zl (show s126 (TL o g way place [] 0 none none) [.dict ZbJ]=_ from e)];rfl
 simp[Zgt,pl_i,pl_s,Qw,e4,Qr,List.replicate]
end
end
set_option tactic.hygienic true
set_option tactic.hygienic false
section
variable {nm:List Nat} {os:List (List Nat)} {ws:List Int} {ℓ:Loc} {hp:Hp} {N:Nat}
section
noncomputable def Zef(c:Nat):List Nat:=if inB c true then [] else match Qr (ZaJ [.str [c]] []) with | some (.str m)=>m | _=>[]
theorem inB_excl{c:Nat}(h:inB c false=true):inB c true=false:=by
 unfold inB at h ⊢;rw[of_decide_eq_true h];rfl
theorem Zez{c:Nat}{m:List Nat}(h:Zls c m=true):Zef c=m:=by
 unfold Zls at h;rw[Bool.or_eq_true,Bool.and_eq_true,Bool.and_eq_true] at h;unfold Zef;rcases h with ⟨h1,h2⟩ | ⟨h1,h2⟩
 · rw[if_pos h1];exact (eq_of_beq h2).symm
 · rw[if_neg (by rw[inB_excl h1];decide),of_decide_eq_true h2]
noncomputable abbrev PL(page out:List Nat)(sg hd:Option MV):Loc:=[some (.str page),some (.str out),sg,hd]
theorem st_sign{page out:List Nat}{c:Nat}{m:List Nat}{hd:Option MV}(h:Zls c m=true)(hl:out.length+m.length≤100000):
 ∃hd',Zn s144 (Zn s145 ZA) (PL page out (some (.str [c])) hd) hp=some (.norm,PL page (out++m) (some (.str [c])) hd',hp):=by
 unfold Zls at h;rw[Bool.or_eq_true,Bool.and_eq_true,Bool.and_eq_true] at h;have ea:∀b,inB c b=true→s144 (PL page out (some (.str [c])) hd) hp=some (.norm,PL page out (some (.str [c])) (some (.bool b)),hp):=fun b hb=>by
  have:Zbt [.str [c]] hp=some (.bool b,hp):=ZaO (of_decide_eq_true hb) hp;simp[s144,ZU,Zr,Zd,Zp,Zf,this]
 rcases h with ⟨h1,h2⟩ | ⟨h1,h2⟩
 · refine ⟨some (.bool true),?_⟩;rw[Zl (ea true h1),eq_of_beq h2];simp[Zn,ZA,s145,s147,ifS,ZS,ZdE.eq_def,Zf,Zb,isC.eq_def,ZkG]
 · refine ⟨some (.bool false),?_⟩;have:ZaJ [.str [c]] hp=some (.str m,hp):=ZaO (of_decide_eq_true h2) hp;rw[Zl (ea false h1)];simp[Zn,ZA,s145,s146,ifS,ZS,ZdE.eq_def,Zf,Zb,isC.eq_def,Ziz,Zr,Zd,Zp,this,iop.eq_def,hl]
theorem ZhI{page:List Nat}(h:∀c∈page,∃m,Zls c m=true∧m.length≤3)(hl:page.length < 100)(hp:Hp):ZbE [.str page] hp=some (.str (page.flatMap Zef),hp):=by
 refine ZaO ?_ hp;have e1:s142 [some (.str page),none,none,none] []=some (.norm,PL page [] none none,[]):=by kernel_rfl
 obtain ⟨ℓ',hp',e2,sg,hd,hI⟩:=ZoZ (s:=page) (tg:=tgL 2) (f:=Zn s144 (Zn s145 ZA)) (I:=fun i ℓ hp=>∃sg hd,ℓ=PL page ((page.take i).flatMap Zef) sg hd∧((page.take i).flatMap Zef).length≤3 * i)
  (fun i c ℓ hp hc hI=>by
   refine ZeF hI fun sg hd yq hle=>?_;subst yq;have hi:=(lge hc).1;refine ZJ (h c (List.mem_of_getElem? hc)) fun m hm hm3=>?_;refine ZW (st_sign (page:=page) (out:=(page.take i).flatMap Zef) (hd:=hd) (hp:=hp) hm (by lia)) fun hd' e=>?_;have em:[c].flatMap Zef=m:=by simp[Zez hm]
   refine ⟨_,_,_,_,rfl,e,some (.str [c]),hd',?_,?_⟩
   · rw[Zav hc,List.flatMap_append,em]
   · rw[Zav hc,List.flatMap_append,em,List.length_append];lia) 100 0 (PL page [] none none) [] ⟨none,none,rfl,by simp⟩ (Nat.zero_le _) (by lia)
 have e3:s143 (PL page [] none none) []=some (.norm,ℓ',hp'):=e2;have e4:ZaP [some (.str page),none,none,none] []=some (.ret (.str (page.flatMap Zef)),ℓ',hp'):=by
  unfold ZaP;rw[Zl e1,Zl e3,hI.1,List.take_length];rfl
 simp[Zgt,pl_s,Qw,e4,Qr,List.replicate]
theorem ZeI{o:List Nat}{g:Nat}{way place:Int}(ho:o∈perms4)(hg:g∈letters):∀(n k:Nat),(∀c∈typedFrom o g way place n k,∃m,Zls c m=true∧m.length≤3)∧(typedFrom o g way place n k).flatMap Zef=ZfT o g (way % 2==1) n k∧(typedFrom o g way place n k).length≤4 - k
 | 0,k=>⟨fun c hc=>(by cases hc),rfl,by simp[typedFrom]⟩
 | n+1,k=>by
  have hx:=lae (lae (lae ZeK o ho) g hg) (way % 2==1) (by cases (way % 2==1)<;>simp);rw[Bool.and_eq_true,Bool.and_eq_true] at hx;unfold typedFrom ZfT;by_cases hk4:k < 4
  · rw[if_pos hk4,if_pos hk4];have hst:=lae hx.1.1 k (List.mem_range.mpr hk4);unfold Zlm at hst;rw[Bool.and_eq_true,Bool.and_eq_true] at hst;have hz1:1≤Zbo o g (way % 2==1) k:=Nat.le_of_ble_eq_true hst.1.1;refine ZjW (ZeI (way:=way) (place:=place) ho hg n (k+Zbo o g (way % 2==1) k)) fun i1 i2 i3=>?_;have key:Zls (Zck o g way place k) (if 1 < Zbo o g (way % 2==1) k then ZN o g (way % 2==1) k else if ZN o g (way % 2==1) k=[g] then [] else ZN o g (way % 2==1) k)=true∧(if 1 < Zbo o g (way % 2==1) k then ZN o g (way % 2==1) k else if ZN o g (way % 2==1) k=[g] then [] else ZN o g (way % 2==1) k).length≤3:=by
     unfold Zck;by_cases hz:1 < Zbo o g (way % 2==1) k
     · rw[if_pos hz,if_pos hz];rw[if_pos hz,Bool.and_eq_true,Bool.and_eq_true] at hst;have hm:(ZN o g (way % 2==1) k,MV.int (jointC (ZN o g (way % 2==1) k)))∈ZbJ:=by simpa using hst.2.1.1
       refine ⟨lae Znz _ hm,?_⟩;have:(ZbJ.all fun p=>Nat.ble p.1.length 3)=true:=by decide
       exact Nat.le_of_ble_eq_true (lae this _ hm)
     · rw[if_neg hz,if_neg hz];rw[if_neg hz] at hst;refine ZJ (List.any_eq_true.mp hst.2) fun l hlm hle=>?_;have hle:=eq_of_beq hle;rw[hle];by_cases hlg:[l]=[g]
       · rw[if_pos hlg,if_pos hlg];exact ⟨lae Zke _ (ZeH (way / 24+place) []).2,by simp⟩
       · rw[if_neg hlg,if_neg hlg];have h0:=Int.emod_nonneg (way / 2+k) (by decide:(12:Int)≠0);have h1:=Int.emod_lt_of_pos (way / 2+k) (by decide:(0:Int) < 12);exact ⟨lae (lae Zot l hlm) _ (List.mem_range.mpr (by lia)),by simp⟩
    refine ZnZ (fun c hc=>?_) ?_ ?_
    · rcases lmc hc with rfl | hc
      · exact ⟨_,key⟩
      · exact i1 c hc
    · rw[List.flatMap_cons,Zez key.1,i2]
    · exact sb4 i3 hk4 hz1
  · rw[if_neg hk4,if_neg hk4];exact ZnZ (fun c hc=>by (cases hc)) rfl (by simp)
theorem ZfS{o:List Nat}{g:Nat}{odd:Bool}(h:∀k,k < 4→1≤Zbo o g odd k):∀(n m k:Nat),4 - k < n→4 - k < m→ZfT o g odd n k=ZfT o g odd m k
 | 0,m,k,h1,h2=>sb0 h1
 | n+1,0,k,h1,h2=>sb0 h2
 | n+1,m+1,k,h1,h2=>by
  unfold ZfT;by_cases hk:k < 4
  · have:=h k hk;rw[if_pos hk,if_pos hk,ZfS h n m _ (sb3 h1 hk this) (sb3 h2 hk this)]
  · rw[if_neg hk,if_neg hk]
theorem Zdy{o:List Nat}{g:Nat}{way place:Int}(ho:o∈perms4)(hg:g∈letters):(∀c∈typedL o g way place,∃m,Zls c m=true∧m.length≤3)∧(typedL o g way place).flatMap Zef=o.filter (· != g)∧(typedL o g way place).length≤4:=by
 refine ZjW (ZeI (way:=way) (place:=place) ho hg 100 0) fun h1 h2 h3=>?_;refine ZnZ h1 (h2.trans ?_) h3;have hx:=lae (lae (lae ZeK o ho) g hg) (way % 2==1) (by cases (way % 2==1)<;>simp);rw[Bool.and_eq_true,Bool.and_eq_true] at hx;rw[ZfS (fun k hk=>by
  have hst:=lae hx.1.1 k (List.mem_range.mpr hk);unfold Zlm at hst;rw[Bool.and_eq_true,Bool.and_eq_true] at hst;exact Nat.le_of_ble_eq_true hst.1.1) 100 5 0 (by decide) (by decide)]
 exact eq_of_beq hx.1.2
noncomputable def Ql(c:Nat):List (List Nat)→List Nat
 | []=>[]
 | [p]=>p
 | p::q::r=>p++c::Ql c (q::r)
theorem Zho(c:Nat):∀l:List Str,(Str.join ⟨#[c]⟩ l).cps.toList=Ql c (l.map (·.cps.toList))
 | []=>rfl
 | [p]=>rfl
 | p::q::r=>by
  have:=Zho c (q::r);show (p++⟨#[c]⟩++Str.join ⟨#[c]⟩ (q::r)).cps.toList=_
  simp only[Str.cps_append,Array.toList_append,this];simp[Ql]
theorem Zhu{c:Nat}:∀{a b x y:List Nat},c∉a→c∉b→a++c::x=b++c::y→a=b∧x=y
 | [],[],x,y,_,_,h=>by simpa using h
 | [],v::b,x,y,_,hb,h=>by simp at h;exact absurd h.1 (fun e=>hb (e▸.head _))
 | u::a,[],x,y,ha,_,h=>by simp at h;exact absurd h.1.symm (fun e=>ha (e▸.head _))
 | u::a,v::b,x,y,ha,hb,h=>by
  simp only[List.cons_append,List.cons.injEq] at h;refine Qe (Zhu (fun e=>ha (.tail _ e)) (fun e=>hb (.tail _ e)) h.2) fun h1 h2=>?_;exact ⟨by rw[h.1,h1],h2⟩
theorem Zjd{c:Nat}:∀{l m:List (List Nat)},(∀p∈l,c∉p)→(∀p∈m,c∉p)→l≠[]→m≠[]→Ql c l=Ql c m→l=m
 | [],m,hl,hm,h1,h2,h=>absurd rfl h1
 | l,[],hl,hm,h1,h2,h=>absurd rfl h2
 | [p],[q],hl,hm,h1,h2,h=>by rw[show p=q from h]
 | [p],q::q2::r,hl,hm,h1,h2,h=>by
  have h:p=q++c::Ql c (q2::r):=h;exact absurd (by rw[h];simp) (hl p (.head _))
 | p::p2::r,[q],hl,hm,h1,h2,h=>by
  have h:p++c::Ql c (p2::r)=q:=h;exact absurd (by rw[← h];simp) (hm q (.head _))
 | p::p2::r,q::q2::t,hl,hm,h1,h2,h=>by
  have h:p++c::Ql c (p2::r)=q++c::Ql c (q2::t):=h;refine Qe (Zhu (hl p (.head _)) (hm q (.head _)) h) fun e1 e2=>?_;have:=Zjd (fun x hx=>hl x (.tail _ hx)) (fun x hx=>hm x (.tail _ hx)) (by simp) (by simp) e2;rw[e1,this]
theorem split_ne(x y:Str):Txt.split x y≠[]:=by
 unfold Txt.split;split
 · simp
 · split
   · simp
   · rw[StrLaws.partsBetween_eq];refine x2_1 (StrLaws.partsFrom_ne x y.length 0 (Builtin.Str.occurrences x y 0 x.length (x.length+1))) fun p r e=>?_;rw[e];simp
theorem Znv{c:Nat}{l:List (List Nat)}(hl:∀p∈l,c∉p)(hn:l≠[]):(Txt.split (mkS (Ql c l)) (mkS [c])).map (·.cps.toList)=l:=by
 refine Zjd (fun p hp=>?_) hl (by simp[split_ne]) hn ?_
 · refine ZJ (List.mem_map.mp hp) fun q hq yq=>?_;subst yq;exact StrLaws.split_free _ c q hq
 · rw[← Zho];have:=StrLaws.join_split (mkS (Ql c l)) (mkS [c]);rw[show (⟨#[c]⟩:Str)=mkS [c] from rfl,this];kernel_rfl
theorem ZhJ(x:Str)(w:Nat):∀(cuts:List Nat) (a:Nat),(StrLaws.partsFrom x w a cuts).length=cuts.length+1:=by
 intro r;induction r with
 | nil=>
  intro a;exact rfl
 | cons c r ih=>
  intro a;simp[StrLaws.partsFrom,ih]
theorem Zka{c:Nat}{l:List (List Nat)}(hl:∀p∈l,c∉p)(hn:l≠[])(hx:(Ql c l).length≤1000)(hp:Hp):ZgQ [.str (Ql c l),.str [c]] hp=some (.ref hp.length,hp++[.list (l.map .str)]):=by
 unfold ZgQ;have h1:(Builtin.Str.partsBetween (mkS (Ql c l)) (Builtin.Str.occurrences (mkS (Ql c l)) (mkS [c]) 0 (mkS (Ql c l)).length ((mkS (Ql c l)).length+1)) (mkS [c]).length).length≤100000:=by
  rw[StrLaws.partsBetween_eq,ZhJ];have:=StrLaws.occ_length_le (mkS (Ql c l)) (mkS [c]) 0 (mkS (Ql c l)).length ((mkS (Ql c l)).length+1);have:=Zay (Ql c l);lia
 simp only;rw[if_pos ⟨by simp,hx,h1⟩];have e:=Znv hl hn;have e2:strsM (Txt.split (mkS (Ql c l)) (mkS [c]))=l.map .str:=by
  unfold strsM;conv=>rhs;rw[← e]
  rw[List.map_map];rfl
 rw[e2]
end
end
set_option tactic.hygienic true
set_option tactic.hygienic false
section
variable {nm:List Nat} {os:List (List Nat)} {ws:List Int} {ℓ:Loc} {hp:Hp} {N:Nat}
section
noncomputable def LA(l:Addr)(v1 v2 v3 v4 v5 v6 v7 v8 v9 v10 v11:Option MV):Loc:=[some (.glob (.ref l)),v1,v2,v3,v4,v5,v6,v7,v8,v9,v10,v11,none,none,none,none,none,none,none,none,none,none,none,none,none,none,none,none,none,none,none,none]
noncomputable def HA(c5 c7 c8:MO)(r:Hp):Hp:=[.tab 196 [],.tab 208 [],.cell none,.cell none,.cell none,c5,.cell none,c7,c8]++r
noncomputable def cells0:List Int:=[17778,158015,963939,463216,3089,62]
theorem st185{l:Addr}{items:List MV}{v2 v3:Option MV}{cs:List Int}{x:Int}{i:Nat}(hcs:cs.length=6)(hp0:∀c∈cs,0≤c):
 ∃cs':List Int,s185 lamF l items 2 (LA l (some (.ref 9)) (some (.int i)) (some (.int x)) none none none none none none none none) (HA (.cell none) (.cell none) (.cell none) [.list (cs.map .int)])=some (.norm,LA l (some (.ref 9)) (some (.int i)) (some (.int x)) none none none none none none none none,HA (.cell none) (.cell none) (.cell none) [.list (cs'.map .int)])∧cs'.length=6∧∀c∈cs',0≤c:=by
 have hi:i % 6 < 6:=Nat.mod_lt _ (by decide);have hi':((i:Int) % 6)=((i % 6:Nat):Int):=by lia
 have hk:i % 6 < cs.length:=by lia
 refine ZnY (cs.set (i % 6) (cs[i % 6]+x % 1000000)) ?_ (by simpa using hcs) (fun c hc=>?_)
 · have b1:0≤((i % 6:Nat):Int)∧((i % 6:Nat):Int)≤100000:=by lia
   have b2:0≤((i % 6:Nat):Int)∧((i % 6:Nat):Int) < cs.length∧cs.length≤100000:=by lia
   generalize hh:HA (.cell none) (.cell none) (.cell none) [.list (cs.map .int)]=h;generalize hL:LA l (some (.ref 9)) (some (.int i)) (some (.int x)) none none none none none none none none=ℓ;have h9:h[9]?=some (.list (cs.map .int)):=by rw[← hh];rfl
   have eo:Zf 1 ℓ h=some (.ref 9,h):=by rw[← hL];rfl
   have ei:ZB .Mod (Zf 2) (Zb (.int 6)) ℓ h=some (.int ((i % 6:Nat):Int),h):=by rw[← hL,← hi'];rfl
   have ef:ZB .Mod (Zf 3) (Zb (.int 1000000)) ℓ h=some (.int (x % 1000000),h):=by rw[← hL];rfl
   have eg:ZnG h (.ref 9) (.int ((i % 6:Nat):Int))=some (.int cs[i % 6]):=by
    unfold ZnG;simp only[h9];rw[if_pos b1,Int.toNat_natCast,List.getElem?_map,List.getElem?_eq_getElem hk];rfl
   have es:setI h (.ref 9) (.int ((i % 6:Nat):Int)) (.int (cs[i % 6]+x % 1000000))=some (HA (.cell none) (.cell none) (.cell none) [.list ((cs.set (i % 6) (cs[i % 6]+x % 1000000)).map .int)]):=by
    unfold setI;simp only[h9,List.length_map];rw[if_pos b2,Int.toNat_natCast,List.map_set,← hh];rfl
   unfold s185 augI;simp only[eo,ei,eg,ef,iop.eq_def,es]
 · rcases List.mem_or_eq_of_mem_set hc with h | rfl
   · exact hp0 c h
   · have:=hp0 _ (List.getElem_mem hk);have:=Int.emod_nonneg x (by decide:(1000000:Int)≠0);lia
theorem loop184{l:Addr}{items:List MV}:∀(xs:List Int) (i:Nat) (cs:List Int) (v2 v3:Option MV),cs.length=6→(∀c∈cs,0≤c)→
 ∃(cs':List Int) (v2' v3':Option MV),Zpb [tgL 2,tgL 3] (Zn (s185 lamF l items 2) ZA) (xs.map .int) i (LA l (some (.ref 9)) v2 v3 none none none none none none none none) (HA (.cell none) (.cell none) (.cell none) [.list (cs.map .int)])=some (.norm,LA l (some (.ref 9)) v2' v3' none none none none none none none none,HA (.cell none) (.cell none) (.cell none) [.list (cs'.map .int)])∧cs'.length=6∧∀c∈cs',0≤c:=by
 intro xs;induction xs with
 | nil=>
  intro i cs v2 v3 h1 h2;exact ⟨cs,v2,v3,rfl,h1,h2⟩
 | cons x xs ih=>
  intro i cs v2 v3 h1 h2;refine ZgO (st185 (l:=l) (items:=items) (v2:=v2) (v3:=v3) (x:=x) (i:=i) h1 h2) fun cs1 e h3 h4=>?_;refine x3_3 (ih (i+1) cs1 (some (.int i)) (some (.int x)) h3 h4) fun cs' v2' v3' ih h5 h6=>?_;refine p3_3 cs' v2' v3' ?_ h5 h6;rw[List.map_cons];unfold Zpb;rw[show ZeJ [tgL 2,tgL 3] [MV.int i,MV.int x] (LA l (some (.ref 9)) v2 v3 none none none none none none none none) (HA (.cell none) (.cell none) (.cell none) [.list (cs.map .int)])=some (LA l (some (.ref 9)) (some (.int i)) (some (.int x)) none none none none none none none none,HA (.cell none) (.cell none) (.cell none) [.list (cs.map .int)]) from rfl];simp only;rw[Zl e];simp only[ZA];exact ih
theorem lawA_ok(l:Addr)(is:List Int):∃(cs:List Int) (v2 v3:Option MV),Zni lamF l (is.map .int) 2 (ZfH ZiX [.glob (.ref l)]) ([.tab 196 [],.tab 208 []]++ZaH ZiY [.glob (.ref l)])=some (.norm,LA l (some (.ref 9)) v2 v3 none none none none none none none none,HA (.cell none) (.cell none) (.cell none) [.list (cs.map .int)])∧cs.length=6∧∀c∈cs,0≤c:=by
 refine x3_3 (loop184 (l:=l) (items:=is.map .int) is 0 cells0 none none rfl (by decide)) fun cs v2 v3 e h1 h2=>?_;refine p3_3 cs v2 v3 ?_ h1 h2;have e1:s183 lamF l (is.map .int) 2 (ZfH ZiX [.glob (.ref l)]) ([.tab 196 [],.tab 208 []]++ZaH ZiY [.glob (.ref l)])=some (.norm,LA l (some (.ref 9)) none none none none none none none none none none,HA (.cell none) (.cell none) (.cell none) [.list (cells0.map .int)]):=rfl;unfold Zni;rw[Zl e1];have e2:s184 lamF l (is.map .int) 2 (LA l (some (.ref 9)) none none none none none none none none none none) (HA (.cell none) (.cell none) (.cell none) [.list (cells0.map .int)])=some (.norm,LA l (some (.ref 9)) v2 v3 none none none none none none none none,HA (.cell none) (.cell none) (.cell none) [.list (cs.map .int)]):=by
  unfold s184 forGS;rw[show Zd (Zf 0) Zp (LA l (some (.ref 9)) none none none none none none none none none none) (HA (.cell none) (.cell none) (.cell none) [.list (cells0.map .int)])=some ([.glob (.ref l)],HA (.cell none) (.cell none) (.cell none) [.list (cells0.map .int)]) from rfl];simp only[if_true];exact e
 rw[Zl e2];rfl
theorem six{cs:List Int}(h:cs.length=6):∃c0 c1 c2 c3 c4 c5,cs=[c0,c1,c2,c3,c4,c5]:=by apply len6 h;intro c0 c1 c2 c3 c4 c5;exact ⟨c0,c1,c2,c3,c4,c5,rfl⟩
theorem gone_ok{l:Addr}{c0 c1 c2 c3 c4 c5:Int}{v2 v3:Option MV}:Zph (LA l (some (.ref 9)) v2 v3 none none none none none none none none) (HA (.cell none) (.cell none) (.cell none) [.list ([c0,c1,c2,c3,c4,c5].map .int)])=some (.int (c5 % 4),HA (.cell none) (.cell none) (.cell none) [.list ([c0,c1,c2,c3,c4,c5].map .int)]):=rfl
theorem ZkQ(n:Int):(0≤n % 4∧n % 4≤100000)∧∃g∈letters,(Str.ofString "akmp").cps.toList[(n % 4).toNat]?=some g:=by
 have h0:=Int.emod_nonneg n (by decide:(4:Int)≠0);have h1:=Int.emod_lt_of_pos n (by decide:(0:Int) < 4);refine ⟨by lia,?_⟩;rw[show (Str.ofString "akmp").cps.toList=letters by decide +kernel];have hl:(n % 4).toNat < letters.length:=by show _ < 4;lia
 exact Qd _ (List.getElem_mem hl) (List.getElem?_eq_getElem hl)
end
end
set_option tactic.hygienic true
set_option tactic.hygienic false
section
variable {nm:List Nat} {os:List (List Nat)} {ws:List Int} {ℓ:Loc} {hp:Hp} {N:Nat}
section
noncomputable def ordN(n:Int):List Nat:=Classical.choose (ZgY n)
theorem ZiV(n:Int):ordN n∈perms4∧∀hp,Zbi [.int n] hp=some (.str (ordN n),hp):=Classical.choose_spec (ZgY n)
noncomputable def pageN(os:List (List Nat))(cs:List Int)(g cl:Nat):Nat→List Nat
 | 0=>[]
 | i+1=>pageN os cs g cl i++(typedL (os.getD i []) g (cs.getD i 0 / 3072) i++[cl])
theorem st191{l:Addr}{v3:Option MV}{cs:List Int}{g cl i t:Nat}{c5 c7:MO}{r:Hp}(ho:∀o∈os,o∈perms4)(hol:os.length=5)(hcl:cs.length=6)(hg:g∈letters)(hi:i < 5){page:List Nat}(hpg:page.length≤1000)(h9:(HA c5 c7 (.cellk [g] t) r)[9]?=some (.list (cs.map .int)))(h11:(HA c5 c7 (.cellk [g] t) r)[11]?=some (.list (os.map .str))):
 s191 lamF 2 (LA l (some (.ref 9)) (some (.int i)) v3 (some (.str [cl])) (some (.ref 11)) (some (.str page)) none none none none none) (HA c5 c7 (.cellk [g] t) r)=some (.norm,LA l (some (.ref 9)) (some (.int i)) v3 (some (.str [cl])) (some (.ref 11)) (some (.str (page++(typedL (os.getD i []) g (cs.getD i 0 / 3072) i++[cl])))) none none none none none,HA c5 c7 (.cellk [g] t) r):=by
 generalize hh:HA c5 c7 (.cellk [g] t) r=h at *;have h8:h[8]?=some (.cellk [g] t):=by rw[← hh];rfl
 generalize hL:LA l (some (.ref 9)) (some (.int i)) v3 (some (.str [cl])) (some (.ref 11)) (some (.str page)) none none none none none=ℓ;have l5:Zf 5 ℓ h=some (.ref 11,h):=by rw[← hL];rfl
 have l1:Zf 1 ℓ h=some (.ref 9,h):=by rw[← hL];rfl
 have l2:Zf 2 ℓ h=some (.int i,h):=by rw[← hL];rfl
 have l4:Zf 4 ℓ h=some (.str [cl],h):=by rw[← hL];rfl
 have l6:Zf 6 ℓ h=some (.str page,h):=by rw[← hL];rfl
 have g8:ZL 8 ℓ h=some (.str [g],h):=by unfold ZL;rw[h8]
 have hb:0≤(i:Int)∧(i:Int)≤100000:=by lia
 have hio:i < os.length:=by lia
 have hic:i < cs.length:=by lia
 have e1:ZZ (Zf 5) (Zf 2) ℓ h=some (.str (os.getD i []),h):=by
  unfold ZZ;simp only[l5,l2,ZnG.eq_def,h11];rw[if_pos hb,Int.toNat_natCast,List.getElem?_map,List.getElem?_eq_getElem hio,List.getD_eq_getElem?_getD,List.getElem?_eq_getElem hio];rfl
 have e2:ZB .FloorDiv (ZZ (Zf 1) (Zf 2)) (Zb (.int 3072)) ℓ h=some (.int (cs.getD i 0 / 3072),h):=by
  unfold ZB ZZ;simp only[l1,l2,ZnG.eq_def,h9];rw[if_pos hb,Int.toNat_natCast,List.getElem?_map,List.getElem?_eq_getElem hic,List.getD_eq_getElem?_getD,List.getElem?_eq_getElem hic];rfl
 have hom:os.getD i []∈perms4:=by
  rw[List.getD_eq_getElem?_getD,List.getElem?_eq_getElem hio];exact ho _ (List.getElem_mem hio)
 have e3:=Znt (way:=cs.getD i 0 / 3072) (place:=i) hom hg h;have hlen:=(Zdy (way:=cs.getD i 0 / 3072) (place:=i) hom hg).2.2;generalize typedL (os.getD i []) g (cs.getD i 0 / 3072) i=ty at *;have e4:ZB .Add (Zr (ZaL) (Zd (ZZ (Zf 5) (Zf 2)) (Zd (ZL 8) (Zd (ZB .FloorDiv (ZZ (Zf 1) (Zf 2)) (Zb (.int 3072))) (Zd (Zf 2) Zp))))) (Zf 4) ℓ h=some (.str (ty++[cl]),h):=by
  have hb2:ty.length+[cl].length≤100000:=by simp;lia
  have ec:Zr (ZaL) (Zd (ZZ (Zf 5) (Zf 2)) (Zd (ZL 8) (Zd (ZB .FloorDiv (ZZ (Zf 1) (Zf 2)) (Zb (.int 3072))) (Zd (Zf 2) Zp)))) ℓ h=some (.str ty,h):=by
   unfold Zr;simp only[Zd,Zp,e1,g8,e2,l2,e3]
  generalize Zr (ZaL) (Zd (ZZ (Zf 5) (Zf 2)) (Zd (ZL 8) (Zd (ZB .FloorDiv (ZZ (Zf 1) (Zf 2)) (Zb (.int 3072))) (Zd (Zf 2) Zp))))=f at ec;unfold ZB;simp only[ec,l4];unfold Zix;simp only[if_pos hb2]
 have hb3:page.length+(ty++[cl]).length≤100000:=by simp;lia
 unfold s191 Ziz;simp only[l6,e4,iop.eq_def,if_pos hb3];rw[← hL];rfl
theorem ZeM{cs:List Int}{g cl:Nat}(ho:∀o∈os,o∈perms4)(hol:os.length=5)(hg:g∈letters):∀i,i≤5→(pageN os cs g cl i).length≤5 * i
 | 0,_=>Nat.le_refl _
 | i+1,hi=>by
  have:=ZeM (cs:=cs) (cl:=cl) ho hol hg i (by lia);have hio:i < os.length:=by lia
  have hom:os.getD i []∈perms4:=by
   rw[List.getD_eq_getElem?_getD,List.getElem?_eq_getElem hio];exact ho _ (List.getElem_mem hio)
  have hlen:=(Zdy (way:=cs.getD i 0 / 3072) (place:=i) hom hg).2.2;unfold pageN;rw[List.length_append,List.length_append,List.length_singleton];lia
theorem ZgX{cs:List Int}{g cl:Nat}(ho:∀o∈os,o∈perms4)(hol:os.length=5)(hg:g∈letters)(hcl:cl∈closings):∀i,i≤5→(∀c∈pageN os cs g cl i,∃m,Zls c m=true∧m.length≤3)∧(pageN os cs g cl i).flatMap Zef=(os.take i).flatMap fun o=>o.filter (· != g)++[cl]
 | 0,_=>⟨fun c hc=>(by cases hc),rfl⟩
 | i+1,hi=>by
  refine Qe (ZgX (cs:=cs) ho hol hg hcl i (by lia)) fun h1 h2=>?_;have hio:i < os.length:=by lia
  have hom:os.getD i []∈perms4:=by
   rw[List.getD_eq_getElem?_getD,List.getElem?_eq_getElem hio];exact ho _ (List.getElem_mem hio)
  refine ZjW (Zdy (way:=cs.getD i 0 / 3072) (place:=i) hom hg) fun t1 t2 υ=>?_;have hc:=lae ZdL cl hcl;rw[Bool.and_eq_true] at hc;unfold pageN;refine ⟨fun c hm=>?_,?_⟩
  · rcases List.mem_append.mp hm with hm | hm
    · exact h1 c hm
    · rcases List.mem_append.mp hm with hm | hm
      · exact t1 c hm
      · rw[lms hm];exact Qd _ hc.1 (by simp)
  · have hs:os[i]?=some (os.getD i []):=by rw[List.getD_eq_getElem?_getD,List.getElem?_eq_getElem hio];rfl
    rw[List.flatMap_append,List.flatMap_append,h2,t2,Zav hs,List.flatMap_append];simp[Zez hc.1]
theorem ZoP(c:Nat)(f:List Nat→List Nat):∀os:List (List Nat),(os.flatMap fun o=>f o++[c])=Ql c (os.map f++[[]]):=by
 intro r;induction r with
 | nil=>
  exact rfl
 | cons o r ih=>
  rw[List.flatMap_cons,ih,List.map_cons,List.cons_append];cases h:r.map f++[[]] with
  | nil=>simp at h
  | cons p q=>simp[Ql]
theorem lawB_ok{l:Addr}{c0 c1 c2 c3 c4 c5:Int}{v2 v3:Option MV}{g t:Nat}(hg:g∈letters):∃(os:List (List Nat)) (cl:Nat) (v2':Option MV) (page:List Nat),(∀o∈os,o∈perms4)∧os.length=5∧
 Znh lamF 2 (LA l (some (.ref 9)) v2 v3 none none none none none none none none) (HA (.cell none) (.cell none) (.cellk [g] t) [.list ([c0,c1,c2,c3,c4,c5].map .int)])=some (.norm,LA l (some (.ref 9)) v2' v3 (some (.str [cl])) (some (.ref 11)) (some (.str page)) none none none none none,
  HA (.cell none) (.cell (some (.ref 12))) (.cellk [g] t) [.list ([c0,c1,c2,c3,c4,c5].map .int),.list ([c0,c1,c2,c3,c4].map .int),.list (os.map .str),.list ((os.map (fun (o:List Nat)=>o.filter (· != g))++[[]]).map .str)]):=by
 have hos:∀o∈[ordN c0,ordN c1,ordN c2,ordN c3,ordN c4],o∈perms4:=by
  intro o ho;simp only[List.mem_cons,List.not_mem_nil,or_false] at ho;rcases ho with rfl | rfl | rfl | rfl | rfl<;>exact (ZiV _).1
 refine ZJ (Zlc (c5 / 4) (HA (.cell none) (.cell none) (.cellk [g] t) [.list ([c0,c1,c2,c3,c4,c5].map .int)])) fun cl hcl ecl=>?_;have e1:s187 lamF 2 (LA l (some (.ref 9)) v2 v3 none none none none none none none none) (HA (.cell none) (.cell none) (.cellk [g] t) [.list ([c0,c1,c2,c3,c4,c5].map .int)])=some (.norm,LA l (some (.ref 9)) v2 v3 (some (.str [cl])) none none none none none none none,HA (.cell none) (.cell none) (.cellk [g] t) [.list ([c0,c1,c2,c3,c4,c5].map .int)]):=by
  have ea:Zd (ZB .FloorDiv (ZZ (Zf 1) (Zb (.int 5))) (Zb (.int 4))) Zp (LA l (some (.ref 9)) v2 v3 none none none none none none none none) (HA (.cell none) (.cell none) (.cellk [g] t) [.list ([c0,c1,c2,c3,c4,c5].map .int)])=some ([.int (c5 / 4)],HA (.cell none) (.cell none) (.cellk [g] t) [.list ([c0,c1,c2,c3,c4,c5].map .int)]):=rfl;unfold s187 ZU Zr;rw[ea];simp only;rw[ecl];rfl
 have e2:s188 lamF 2 (LA l (some (.ref 9)) v2 v3 (some (.str [cl])) none none none none none none none) (HA (.cell none) (.cell none) (.cellk [g] t) [.list ([c0,c1,c2,c3,c4,c5].map .int)])=some (.norm,LA l (some (.ref 9)) v2 v3 (some (.str [cl])) (some (.ref 11)) none none none none none none,HA (.cell none) (.cell none) (.cellk [g] t) [.list ([c0,c1,c2,c3,c4,c5].map .int),.list ([c0,c1,c2,c3,c4].map .int),.list ([ordN c0,ordN c1,ordN c2,ordN c3,ordN c4].map .str)]):=by
  have ei:itE (ZgR (Zf 1) noP (Qj (Zb (.int 5)))) (LA l (some (.ref 9)) v2 v3 (some (.str [cl])) none none none none none none none) (HA (.cell none) (.cell none) (.cellk [g] t) [.list ([c0,c1,c2,c3,c4,c5].map .int)])=some (.list 10,HA (.cell none) (.cell none) (.cellk [g] t) [.list ([c0,c1,c2,c3,c4,c5].map .int),.list ([c0,c1,c2,c3,c4].map .int)]):=rfl;have ec:=Zdn (k:=10) (N:=100) (xs:=[c0,c1,c2,c3,c4].map .int) (it:=fun υ h=>some (.list 10,h)) (f:=Zr (Zbi) (Zd (Zf 0) Zp)) (ℓ:=LA l (some (.ref 9)) v2 v3 (some (.str [cl])) none none none none none none none) (hp:=HA (.cell none) (.cell none) (.cellk [g] t) [.list ([c0,c1,c2,c3,c4,c5].map .int),.list ([c0,c1,c2,c3,c4].map .int)]) (fun v=>match v with | .int n=>.str (ordN n) | v=>v) rfl rfl (by simp) (by simp) (fun x hx ys=>by
   refine ZJ (List.mem_map.mp hx) fun n hn yq=>?_;subst yq;unfold Zr;simp only[Zd,Zp,Zf,List.getElem?_cons_zero];exact (ZiV n).2 _)
  unfold s188 ZU;rw[ZjA ei,ec];rfl
 have e3:s189 lamF 2 (LA l (some (.ref 9)) v2 v3 (some (.str [cl])) (some (.ref 11)) none none none none none none) (HA (.cell none) (.cell none) (.cellk [g] t) [.list ([c0,c1,c2,c3,c4,c5].map .int),.list ([c0,c1,c2,c3,c4].map .int),.list ([ordN c0,ordN c1,ordN c2,ordN c3,ordN c4].map .str)])=some (.norm,LA l (some (.ref 9)) v2 v3 (some (.str [cl])) (some (.ref 11)) (some (.str [])) none none none none none,HA (.cell none) (.cell none) (.cellk [g] t) [.list ([c0,c1,c2,c3,c4,c5].map .int),.list ([c0,c1,c2,c3,c4].map .int),.list ([ordN c0,ordN c1,ordN c2,ordN c3,ordN c4].map .str)]):=by
  unfold s189 ZU Zb;rw[Znm];rfl
 generalize hos5:[ordN c0,ordN c1,ordN c2,ordN c3,ordN c4]=os at *;have hol:os.length=5:=by rw[← hos5];rfl
 obtain ⟨ℓ',hp',e4,⟨v2',rfl⟩,rfl⟩:=ZfR (a:=0) (m:=5) (tg:=tgL 2) (f:=Zn (s191 lamF 2) ZA) (I:=fun i ℓ hp=>(∃v2',ℓ=LA l (some (.ref 9)) v2' v3 (some (.str [cl])) (some (.ref 11)) (some (.str (pageN os [c0,c1,c2,c3,c4,c5] g cl i))) none none none none none)∧hp=HA (.cell none) (.cell none) (.cellk [g] t) [.list ([c0,c1,c2,c3,c4,c5].map .int),.list ([c0,c1,c2,c3,c4].map .int),.list (os.map .str)])
  (fun i ℓ hp hi hI=>by
   refine Qe hI fun yq yr=>?_;refine ZW yq fun v2' yq=>?_;subst yq;subst yr;have hpl:=ZeM (cs:=[c0,c1,c2,c3,c4,c5]) (cl:=cl) hos hol hg i (by lia);have e:=st191 (l:=l) (v3:=v3) (os:=os) (cs:=[c0,c1,c2,c3,c4,c5]) (g:=g) (cl:=cl) (i:=i) (t:=t) (c5:=.cell none) (c7:=.cell none) (r:=[.list ([c0,c1,c2,c3,c4,c5].map .int),.list ([c0,c1,c2,c3,c4].map .int),.list (os.map .str)]) (page:=pageN os [c0,c1,c2,c3,c4,c5] g cl i) hos hol rfl hg hi (by lia) rfl rfl;refine p4_4 (LA l (some (.ref 9)) (some (.int i)) v3 (some (.str [cl])) (some (.ref 11)) (some (.str (pageN os [c0,c1,c2,c3,c4,c5] g cl i))) none none none none none) (HA (.cell none) (.cell none) (.cellk [g] t) [.list ([c0,c1,c2,c3,c4,c5].map .int),.list ([c0,c1,c2,c3,c4].map .int),.list (os.map .str)]) _ _ ?_ ?_ ⟨some (.int i),rfl⟩ rfl
   · rw[Int.zero_add];rfl
   · rw[Zl e];rfl) 100 0 _ _ ⟨⟨v2,rfl⟩,rfl⟩ (by decide) (by decide)
 have e4':s190 lamF 2 (LA l (some (.ref 9)) v2 v3 (some (.str [cl])) (some (.ref 11)) (some (.str [])) none none none none none) (HA (.cell none) (.cell none) (.cellk [g] t) [.list ([c0,c1,c2,c3,c4,c5].map .int),.list ([c0,c1,c2,c3,c4].map .int),.list (os.map .str)])=_:=e4;refine Qe (ZgX (cs:=[c0,c1,c2,c3,c4,c5]) hos hol hg hcl 5 (by decide)) fun h1 h2=>?_;have hpl:=ZeM (cs:=[c0,c1,c2,c3,c4,c5]) (cl:=cl) hos hol hg 5 (by decide);rw[List.take_of_length_le (by lia),ZoP] at h2;generalize pageN os [c0,c1,c2,c3,c4,c5] g cl 5=page at *;have hc:=lae ZdL cl hcl;rw[Bool.and_eq_true] at hc;have hcn:cl∉letters:=by simpa using hc.2
 have hsub:(perms4.all fun o=>o.all fun c=>letters.contains c)=true:=by decide +kernel
 have hfree:∀p∈os.map (fun (o:List Nat)=>o.filter (· != g))++[[]],cl∉p:=by
  intro p hp hm;rcases List.mem_append.mp hp with hp | hp
  · refine ZJ (List.mem_map.mp hp) fun o ho yq=>?_;subst yq;have:=lae (lae hsub o (hos o ho)) cl (List.mem_filter.mp hm).1;exact hcn (by simpa using this)
  · rw[lms hp] at hm;cases hm
 have hjl:∀L:List Nat,(∀c∈L,∃m,Zls c m=true∧m.length≤3)→(L.flatMap Zef).length≤3 * L.length:=by
  intro L;induction L with
  | nil=>intro υ;simp
  | cons a r ih=>
   intro h;refine ZJ (h a (.head _)) fun m hm hm3=>?_;have:=ih fun c hc=>h c (.tail _ hc);rw[List.flatMap_cons,List.length_append,Zez hm,List.length_cons];lia
 have e5:s192 lamF 2 (LA l (some (.ref 9)) v2' v3 (some (.str [cl])) (some (.ref 11)) (some (.str page)) none none none none none) (HA (.cell none) (.cell none) (.cellk [g] t) [.list ([c0,c1,c2,c3,c4,c5].map .int),.list ([c0,c1,c2,c3,c4].map .int),.list (os.map .str)])=some (.norm,LA l (some (.ref 9)) v2' v3 (some (.str [cl])) (some (.ref 11)) (some (.str page)) none none none none none,
  HA (.cell none) (.cell (some (.ref 12))) (.cellk [g] t) [.list ([c0,c1,c2,c3,c4,c5].map .int),.list ([c0,c1,c2,c3,c4].map .int),.list (os.map .str),.list ((os.map (fun (o:List Nat)=>o.filter (· != g))++[[]]).map .str)]):=by
  have ep:=ZhI h1 (by lia) (HA (.cell none) (.cell none) (.cellk [g] t) [.list ([c0,c1,c2,c3,c4,c5].map .int),.list ([c0,c1,c2,c3,c4].map .int),.list (os.map .str)]);have hle:=hjl page h1;rw[h2] at ep hle;have es:=Zka hfree (by simp) (show (Ql cl (os.map (fun (o:List Nat)=>o.filter (· != g))++[[]])).length≤1000 from Nat.le_trans hle (by lia)) (HA (.cell none) (.cell none) (.cellk [g] t) [.list ([c0,c1,c2,c3,c4,c5].map .int),.list ([c0,c1,c2,c3,c4].map .int),.list (os.map .str)]);unfold s192 asgC ZV Zr;rw[show Zd (Zf 6) Zp (LA l (some (.ref 9)) v2' v3 (some (.str [cl])) (some (.ref 11)) (some (.str page)) none none none none none) (HA (.cell none) (.cell none) (.cellk [g] t) [.list ([c0,c1,c2,c3,c4,c5].map .int),.list ([c0,c1,c2,c3,c4].map .int),.list (os.map .str)])=some ([.str page],HA (.cell none) (.cell none) (.cellk [g] t) [.list ([c0,c1,c2,c3,c4,c5].map .int),.list ([c0,c1,c2,c3,c4].map .int),.list (os.map .str)]) from rfl];simp only;rw[ep];simp only[tyOf.eq_def,if_true];rw[show Zd (Zf 4) Zp (LA l (some (.ref 9)) v2' v3 (some (.str [cl])) (some (.ref 11)) (some (.str page)) none none none none none) (HA (.cell none) (.cell none) (.cellk [g] t) [.list ([c0,c1,c2,c3,c4,c5].map .int),.list ([c0,c1,c2,c3,c4].map .int),.list (os.map .str)])=some ([.str [cl]],HA (.cell none) (.cell none) (.cellk [g] t) [.list ([c0,c1,c2,c3,c4,c5].map .int),.list ([c0,c1,c2,c3,c4].map .int),.list (os.map .str)]) from rfl];simp only;rw[es];rfl
 refine p4_3 os cl v2' page hos hol ?_;unfold Znh;rw[Zl e1,Zl e2,Zl e3,Zl e4',Zl e5];rfl
end
end
set_option tactic.hygienic true
set_option tactic.hygienic false
section
variable {nm:List Nat} {os:List (List Nat)} {ws:List Int} {ℓ:Loc} {hp:Hp} {N:Nat}
section
theorem Zkd:(perms4.all fun o=>letters.all fun g=>(Txt.replace (mkS o) (mkS [g]) (Str.ofString "")).cps.toList==o.filter (· != g)&&(permsOf (namesOf g)).contains (o.filter (· != g))&&PyData.strOk (mkS (o.filter (· != g)))&&decide (o.length=4)&&!(mkS [g]==Str.ofString ""))=true:=by decide +kernel
theorem Zpk:(Str.ofString "").length=0:=by decide +kernel
noncomputable def rid(g:Nat)(os:List (List Nat)):List (List Nat):=os.map fun o=>o.filter (· != g)
theorem law8_ok{l:Addr}{v1 v2 v3 v4 v6 v7 v8 v9 v10 v11:Option MV}{c5 c7:MO}{r:Hp}{g t:Nat}(ht:t≠0)(hg:g∈letters)(ho:∀o∈os,o∈perms4)(hol:os.length=5)(h11:(HA c5 c7 (.cellk [g] t) r)[11]?=some (.list (os.map .str))):
 Znj (t+1) 2 (LA l v1 v2 v3 v4 (some (.ref 11)) v6 v7 v8 v9 v10 v11) (HA c5 c7 (.cellk [g] t) r)=some (.norm,LA l v1 v2 v3 v4 (some (.ref (r.length+9))) v6 v7 v8 v9 v10 v11,HA c5 c7 (.cellk [g] t) (r++[.list ((rid g os).map .str)])):=by
 have ec:=Zdn (k:=11) (N:=100) (xs:=os.map .str) (it:=itE (Zf 5)) (f:=replE 0 8 (t+1) (Str.ofString "")) (ℓ:=LA l v1 v2 v3 v4 (some (.ref 11)) v6 v7 v8 v9 v10 v11) (hp:=HA c5 c7 (.cellk [g] t) r) (fun (v:MV)=>match v with | MV.str o=>MV.str (o.filter (· != g)) | v=>v) (by
  unfold itE;rw[show Zf 5 (LA l v1 v2 v3 v4 (some (.ref 11)) v6 v7 v8 v9 v10 v11) (HA c5 c7 (.cellk [g] t) r)=some (.ref 11,HA c5 c7 (.cellk [g] t) r) from rfl];simp only[h11]) h11 (by simp;lia) (by simp;lia) (fun x hx ys=>by
  refine ZJ (List.mem_map.mp hx) fun o ho' yq=>?_;subst yq;have hf:=lae (lae Zkd o (ho o ho')) g hg;simp only[Bool.and_eq_true,decide_eq_true_eq,Bool.not_eq_true'] at hf;unfold replE;rw[show (HA c5 c7 (.cellk [g] t) r++[MO.list ys])[8]?=some (.cellk [g] t) from rfl];simp only[List.getElem?_cons_zero];rw[if_pos ⟨⟨ht,by lia⟩,hf.2,by rw[Zpk];lia⟩,eq_of_beq hf.1.1.1.1])
 unfold Znj ZU;rw[ec];have e1:(HA c5 c7 (.cellk [g] t) r).length=r.length+9:=by kernel_rfl
 have e2:(os.map MV.str).map (fun (v:MV)=>match v with | MV.str o=>MV.str (o.filter (· != g)) | v=>v)=(rid g os).map .str:=by simp[rid]
 rw[e1,e2];rfl
noncomputable def wsOf(c0 c1 c2 c3:Int):List Int:=[c0 / 24 % 128,c1 / 24 % 128,c2 / 24 % 128,c3 / 24 % 128]
noncomputable def wsL(c0 c1 c2 c3:Int):List Int:=wsOf c0 c1 c2 c3++[511 - (wsOf c0 c1 c2 c3).sum]
theorem Zpm{g:Nat}{c0 c1 c2 c3:Int}(hg:g∈letters)(ho:∀o∈os,o∈perms4)(hol:os.length=5):Data (namesOf g) (rid g os) (wsL c0 c1 c2 c3):=by
 have a0:=Int.emod_nonneg (c0 / 24) (by decide:(128:Int)≠0);have b0:=Int.emod_lt_of_pos (c0 / 24) (by decide:(0:Int) < 128);have a1:=Int.emod_nonneg (c1 / 24) (by decide:(128:Int)≠0);have b1:=Int.emod_lt_of_pos (c1 / 24) (by decide:(0:Int) < 128);have a2:=Int.emod_nonneg (c2 / 24) (by decide:(128:Int)≠0);have b2:=Int.emod_lt_of_pos (c2 / 24) (by decide:(0:Int) < 128);have a3:=Int.emod_nonneg (c3 / 24) (by decide:(128:Int)≠0);have b3:=Int.emod_lt_of_pos (c3 / 24) (by decide:(0:Int) < 128);refine ⟨⟨g,hg,rfl⟩,fun o h=>?_,by simp[rid,hol],rfl,fun x hx=>?_,?_⟩
 · refine ZJ (List.mem_map.mp h) fun o' ho' yq=>?_;subst yq;have hf:=lae (lae Zkd o' (ho o' ho')) g hg;simp only[Bool.and_eq_true] at hf;simpa using hf.1.1.1.2
 · simp only[wsL,wsOf,List.sum_cons,List.sum_nil,List.cons_append,List.nil_append,List.mem_cons,List.not_mem_nil,or_false] at hx;rcases hx with rfl | rfl | rfl | rfl | rfl<;>lia
 · simp only[wsL,wsOf,List.sum_cons,List.sum_nil,List.cons_append,List.nil_append];lia
noncomputable abbrev sL(l:List (List Nat)):MO:=.list (l.map .str)
noncomputable abbrev zL(l:List Int):MO:=.list (l.map .int)
noncomputable abbrev LC(l:Addr)(v2 v3:Option MV)(cl:Nat)(page:List Nat)(v7 v8 v9 v10 v11:Option MV):Loc:=LA l (some (.ref 9)) v2 v3 (some (.str [cl])) (some (.ref 13)) (some (.str page)) v7 v8 v9 v10 v11
noncomputable abbrev HC(c5:MO)(k7:Nat)(g t:Nat)(cs:List Int)(os4:List (List Nat))(r:Hp):Hp:=HA c5 (.cell (some (.ref k7))) (.cellk [g] t) ([.list (cs.map .int),.list ((cs.take 5).map .int),.list (os4.map .str),sL (rid g os4++[[]]),sL (rid g os4)]++r)
theorem names_eq{c5:MO}{k7 g t:Nat}{cs:List Int}{os4:List (List Nat)}{r:Hp}(hg:g∈letters)(hr:r.length=5):
 s199 lamF 2 ℓ (HC c5 k7 g t cs os4 r)=some (.norm,ℓ.set 8 (some (.ref 19)),HC c5 k7 g t cs os4 (r++[.list ((namesOf g).map fun a=>.str [a])])):=by
 apply len5 hr;intro r0 r1 r2 r3 r4
 unfold s199 ZU;rw[show (Str.ofString "akmp").cps.toList=letters by decide +kernel];have hg':g=97∨g=107∨g=109∨g=112:=by simpa [letters] using hg
 rcases hg' with rfl | rfl | rfl | rfl<;>rfl
theorem lawC_ok{l:Addr}{v2 v3:Option MV}{cl g t:Nat}{page:List Nat}{c0 c1 c2 c3 c4 c5:Int}{os4:List (List Nat)}(hg:g∈letters)(ho:∀o∈os4,o∈perms4)(hol:os4.length=5):
 ∃ℓ' hp',Zpe lamF 2 (LC l v2 v3 cl page none none none none none) (HC (.cell none) 12 g t [c0,c1,c2,c3,c4,c5] os4 [])=some (.norm,ℓ',hp')∧PInv 0 (namesOf g) (rid g os4) (wsL c0 c1 c2 c3) [] ℓ' hp':=by
 have hok:∀s∈rid g os4++[[]],PyData.strOk (mkS s)=true:=by
  intro s hs;rcases List.mem_append.mp hs with hs | hs
  · refine ZJ (List.mem_map.mp hs) fun o h1 yq=>?_;subst yq;have hf:=lae (lae Zkd o (ho o h1)) g hg;simp only[Bool.and_eq_true] at hf;exact hf.1.1.2
  · rw[lms hs];decide +kernel
 have hrl:(rid g os4).length=5:=by simp[rid,hol]
 have e1:s194 lamF 2 (LC l v2 v3 cl page none none none none none) (HC (.cell none) 12 g t [c0,c1,c2,c3,c4,c5] os4 [])=some (.norm,LC l v2 v3 cl page none none none none none,HC (.cell none) 12 g t [c0,c1,c2,c3,c4,c5] os4 [sL [[]],sL (rid g os4++[[]])]):=by
  have eb:ZB .Add (Zf 5) (ZH (Zd (Zb (.str (Str.ofString "").cps.toList)) Zp)) (LC l v2 v3 cl page none none none none none) (HC (.cell none) 12 g t [c0,c1,c2,c3,c4,c5] os4 [])=some (.ref 15,HC (.cell none) 12 g t [c0,c1,c2,c3,c4,c5] os4 [sL [[]],sL (rid g os4++[[]])]):=by
   rw[Znm];have hb:((rid g os4).map MV.str).length+([[]].map MV.str).length≤100000:=by simp[hrl]
   have el:ZH (Zd (Zb (.str [])) Zp) (LC l v2 v3 cl page none none none none none) (HC (.cell none) 12 g t [c0,c1,c2,c3,c4,c5] os4 [])=some (.ref 14,HC (.cell none) 12 g t [c0,c1,c2,c3,c4,c5] os4 [sL [[]]]):=rfl;unfold ZB;rw[show Zf 5 (LC l v2 v3 cl page none none none none none) (HC (.cell none) 12 g t [c0,c1,c2,c3,c4,c5] os4 [])=some (.ref 13,HC (.cell none) 12 g t [c0,c1,c2,c3,c4,c5] os4 []) from rfl];simp only[el];unfold Zix;simp only[show (HC (.cell none) 12 g t [c0,c1,c2,c3,c4,c5] os4 [sL [[]]])[13]?=some (sL (rid g os4)) from rfl,show (HC (.cell none) 12 g t [c0,c1,c2,c3,c4,c5] os4 [sL [[]]])[14]?=some (sL [[]]) from rfl];rw[if_pos hb,← List.map_append];rfl
  exact Zdk (Zar rfl eb (congrArg ZkG (Znk hok rfl rfl)))
 have e2:s196 lamF 2 (LC l v2 v3 cl page none none none none none) (HC (.cell none) 12 g t [c0,c1,c2,c3,c4,c5] os4 [sL [[]],sL (rid g os4++[[]])])=some (.norm,LC l v2 v3 cl page none none none none none,HC (.cell none) 16 g t [c0,c1,c2,c3,c4,c5] os4 [sL [[]],sL (rid g os4++[[]]),sL (rid g os4)]):=by
  have es:ZgR (ZL 7) noP (Qj (Zb (.int 5))) (LC l v2 v3 cl page none none none none none) (HC (.cell none) 12 g t [c0,c1,c2,c3,c4,c5] os4 [sL [[]],sL (rid g os4++[[]])])=some (.ref 16,HC (.cell none) 12 g t [c0,c1,c2,c3,c4,c5] os4 [sL [[]],sL (rid g os4++[[]]),sL (rid g os4)]):=by
   unfold ZgR;rw[show ZL 7 (LC l v2 v3 cl page none none none none none) (HC (.cell none) 12 g t [c0,c1,c2,c3,c4,c5] os4 [sL [[]],sL (rid g os4++[[]])])=some (.ref 12,HC (.cell none) 12 g t [c0,c1,c2,c3,c4,c5] os4 [sL [[]],sL (rid g os4++[[]])]) from rfl];simp only[noP,Qj,Zb];unfold ZiQ;simp only[show (HC (.cell none) 12 g t [c0,c1,c2,c3,c4,c5] os4 [sL [[]],sL (rid g os4++[[]])])[12]?=some (sL (rid g os4++[[]])) from rfl];rw[if_pos (by simp[hrl]),← List.map_take,show ((5:Int).toNat)=5 from rfl,List.take_append_of_le_length (by lia),List.take_of_length_le (by lia)];rfl
  unfold s196 asgC;rw[es];rfl
 have e3:s197 lamF 2 (LC l v2 v3 cl page none none none none none) (HC (.cell none) 16 g t [c0,c1,c2,c3,c4,c5] os4 [sL [[]],sL (rid g os4++[[]]),sL (rid g os4)])=some (.norm,LC l v2 v3 cl page (some (.ref 18)) none none none none,HC (.cell none) 16 g t [c0,c1,c2,c3,c4,c5] os4 [sL [[]],sL (rid g os4++[[]]),sL (rid g os4),zL [c0,c1,c2,c3],zL (wsOf c0 c1 c2 c3)]):=rfl;have e4:s198 lamF 2 (LC l v2 v3 cl page (some (.ref 18)) none none none none) (HC (.cell none) 16 g t [c0,c1,c2,c3,c4,c5] os4 [sL [[]],sL (rid g os4++[[]]),sL (rid g os4),zL [c0,c1,c2,c3],zL (wsOf c0 c1 c2 c3)])=some (.norm,LC l v2 v3 cl page (some (.ref 18)) none none none none,HC (.cell none) 16 g t [c0,c1,c2,c3,c4,c5] os4 [sL [[]],sL (rid g os4++[[]]),sL (rid g os4),zL [c0,c1,c2,c3],zL (wsL c0 c1 c2 c3)]):=by
  have hD:=Zpm (c0:=c0) (c1:=c1) (c2:=c2) (c3:=c3) hg ho hol;have hb:∀x∈wsOf c0 c1 c2 c3,0≤x∧x≤1000:=fun x hx=>hD.wr x (List.mem_append_left _ hx);have hs:sumF [.ref 18] (HC (.cell none) 16 g t [c0,c1,c2,c3,c4,c5] os4 [sL [[]],sL (rid g os4++[[]]),sL (rid g os4),zL [c0,c1,c2,c3],zL (wsOf c0 c1 c2 c3)])=some (.int (wsOf c0 c1 c2 c3).sum,HC (.cell none) 16 g t [c0,c1,c2,c3,c4,c5] os4 [sL [[]],sL (rid g os4++[[]]),sL (rid g os4),zL [c0,c1,c2,c3],zL (wsOf c0 c1 c2 c3)]):=by
   have hb':(wsOf c0 c1 c2 c3).length≤1000∧(wsOf c0 c1 c2 c3).all (fun i=>decide (-1000000000≤i∧i≤1000000000))=true:=by
    refine ⟨by show 4≤1000;decide,?_⟩;rw[List.all_eq_true];intro x hx;have:=hb x hx;simp;lia
   unfold sumF;simp only[show (HC (.cell none) 16 g t [c0,c1,c2,c3,c4,c5] os4 [sL [[]],sL (rid g os4++[[]]),sL (rid g os4),zL [c0,c1,c2,c3],zL (wsOf c0 c1 c2 c3)])[18]?=some (zL (wsOf c0 c1 c2 c3)) from rfl,ZcD];rw[if_pos hb']
  have ec:Zr sumF (Zd (Zf 7) Zp) (LC l v2 v3 cl page (some (.ref 18)) none none none none) (HC (.cell none) 16 g t [c0,c1,c2,c3,c4,c5] os4 [sL [[]],sL (rid g os4++[[]]),sL (rid g os4),zL [c0,c1,c2,c3],zL (wsOf c0 c1 c2 c3)])=some (.int (wsOf c0 c1 c2 c3).sum,HC (.cell none) 16 g t [c0,c1,c2,c3,c4,c5] os4 [sL [[]],sL (rid g os4++[[]]),sL (rid g os4),zL [c0,c1,c2,c3],zL (wsOf c0 c1 c2 c3)]):=hs;unfold s198;generalize Zr sumF (Zd (Zf 7) Zp)=f at ec;unfold Zgu ZV;rw[show Zf 7 (LC l v2 v3 cl page (some (.ref 18)) none none none none) (HC (.cell none) 16 g t [c0,c1,c2,c3,c4,c5] os4 [sL [[]],sL (rid g os4++[[]]),sL (rid g os4),zL [c0,c1,c2,c3],zL (wsOf c0 c1 c2 c3)])=some (.ref 18,HC (.cell none) 16 g t [c0,c1,c2,c3,c4,c5] os4 [sL [[]],sL (rid g os4++[[]]),sL (rid g os4),zL [c0,c1,c2,c3],zL (wsOf c0 c1 c2 c3)]) from rfl];simp only[Zd,Zp,ZB,Zb,ec];rfl
 have e5:=names_eq (c5:=.cell none) (k7:=16) (t:=t) (cs:=[c0,c1,c2,c3,c4,c5]) (os4:=os4) (r:=[sL [[]],sL (rid g os4++[[]]),sL (rid g os4),zL [c0,c1,c2,c3],zL (wsL c0 c1 c2 c3)]) (ℓ:=LC l v2 v3 cl page (some (.ref 18)) none none none none) hg rfl;have e6:s200 lamF 2 (LC l v2 v3 cl page (some (.ref 18)) (some (.ref 19)) none none none) (HC (.cell none) 16 g t [c0,c1,c2,c3,c4,c5] os4 [sL [[]],sL (rid g os4++[[]]),sL (rid g os4),zL [c0,c1,c2,c3],zL (wsL c0 c1 c2 c3),.list ((namesOf g).map fun a=>.str [a])])=some (.norm,LC l v2 v3 cl page (some (.ref 18)) (some (.ref 19)) none none none,HC (.cell (some (.ref 20))) 16 g t [c0,c1,c2,c3,c4,c5] os4 [sL [[]],sL (rid g os4++[[]]),sL (rid g os4),zL [c0,c1,c2,c3],zL (wsL c0 c1 c2 c3),.list ((namesOf g).map fun a=>.str [a]),.list []]):=rfl;have e7:Zn (s201 lamF 2) (Zn (s202 lamF 2) (Zn (s203 lamF 2) ZA)) (LC l v2 v3 cl page (some (.ref 18)) (some (.ref 19)) none none none) (HC (.cell (some (.ref 20))) 16 g t [c0,c1,c2,c3,c4,c5] os4 [sL [[]],sL (rid g os4++[[]]),sL (rid g os4),zL [c0,c1,c2,c3],zL (wsL c0 c1 c2 c3),.list ((namesOf g).map fun a=>.str [a]),.list []]) =
  some (.norm,LC l v2 v3 cl page (some (.ref 18)) (some (.ref 19)) (some (.ref 21)) (some (.ref 22)) (some (.ref 23)),HC (.cell (some (.ref 20))) 16 g t [c0,c1,c2,c3,c4,c5] os4 [sL [[]],sL (rid g os4++[[]]),sL (rid g os4),zL [c0,c1,c2,c3],zL (wsL c0 c1 c2 c3),.list ((namesOf g).map fun a=>.str [a]),.list [],.dict [],.list [],.list []]):=rfl
 refine ZeN _ _ ((Zl e1).trans ((Zl e2).trans ((Zl e3).trans ((Zl e4).trans ((Zl e5).trans ((Zl e6).trans e7)))))) ?_;refine ⟨rfl,rfl,⟨rfl,rfl,rfl,rfl,rfl⟩,⟨rfl,rfl,rfl,rfl,rfl,rfl,rfl⟩,rfl,⟨_,rfl⟩,⟨_,rfl⟩,⟨_,rfl⟩,⟨_,rfl⟩,⟨[],rfl,by decide⟩,⟨[],rfl,rfl,fun ab h=>(by cases h)⟩,⟨[],rfl,rfl,rfl,fun i r ab h=>(by simp at h)⟩⟩
end
end
set_option tactic.hygienic true
set_option tactic.hygienic false
section
variable {nm:List Nat} {os:List (List Nat)} {ws:List Int} {ℓ:Loc} {hp:Hp} {N:Nat}
section
theorem three(h:nm.length=3):∃x y z,nm=[x,y,z]:=le3 h
theorem QInv.more{N M:Nat}(Q:QInv N nm os ws ℓ hp)(h:N≤M):QInv M nm os ws ℓ hp:=
 ⟨Q.t0,Q.t1,Q.P,Q.L,Q.hn,Q.said.imp fun bs hb=>⟨hb.1,Nat.le_trans hb.2 h⟩,Q.A,Q.came⟩
theorem law_plain(l:Addr)(is:List Int):LawP l (is.map MV.int):=by
 refine x3_3 (lawA_ok l is) fun cs v2 v3 eA hcs hnn=>?_;refine x6_1 (six hcs) fun c0 c1 c2 c3 c4 c5 yq=>?_;subst yq;obtain ⟨hz,g,hg,hgc⟩:=ZkQ c5;refine ⟨_,_,eA,c5 % 4,g,none,gone_ok,hz,hgc,rfl,fun t ht=>?_⟩;refine x4_3 (lawB_ok (l:=l) (c0:=c0) (c1:=c1) (c2:=c2) (c3:=c3) (c4:=c4) (c5:=c5) (v2:=v2) (v3:=v3) (t:=t) hg) fun os4 cl v2' page hos hol eB=>?_;refine ZeN _ _ eB ?_;have e8:=law8_ok (l:=l) (v1:=some (.ref 9)) (v2:=v2') (v3:=v3) (v4:=some (.str [cl])) (v6:=some (.str page)) (v7:=none) (v8:=none) (v9:=none) (v10:=none) (v11:=none) (c5:=.cell none) (c7:=.cell (some (.ref 12))) (r:=[.list ([c0,c1,c2,c3,c4,c5].map .int),.list ([c0,c1,c2,c3,c4].map .int),.list (os4.map .str),.list ((os4.map (fun (o:List Nat)=>o.filter (· != g))++[[]]).map .str)]) ht hg hos hol rfl;refine ZeN _ _ e8 ?_;have H:=Zpm (c0:=c0) (c1:=c1) (c2:=c2) (c3:=c3) hg hos hol;refine ZeF (lawC_ok (l:=l) (v2:=v2') (v3:=v3) (cl:=cl) (page:=page) (t:=t) (c0:=c0) (c1:=c1) (c2:=c2) (c3:=c3) (c4:=c4) (c5:=c5) hg hos hol) fun ℓ4 hp4 eC D0=>?_;refine ZeF (lawD_ok H D0 (by decide)) fun ℓ5 hp5 eD D1=>?_;refine ZiK (lawF_ok H D1 (by decide)) fun ℓ6 hp6 eF D2 l13=>?_;refine x3_1 (three H.nodup.2) fun x y z hn=>?_;rw[hn] at H D2 l13;refine x2_6 (lawG_ok H D2 (by decide) l13) fun ℓ7 hp7 eG D3 k13 k16 k17 k18=>?_;have Q:=D3.toQ rfl;have eH:∃ℓ8 hp8,ZfU lamF 2 ℓ7 hp7=some (.norm,ℓ8,hp8)∧QInv 200 [x,y,z] (rid g os4) (wsL c0 c1 c2 c3) ℓ8 hp8:=by
  cases hk:[x,y,z].any (Zgs (rid g os4)) with
  | true=>
   rw[hk] at k13;refine ZeF (ZoJ H Q k13 hk k16 k17 k18) fun ℓ8 hp8 e Q8=>?_;exact ZeN ℓ8 hp8 e (Q8.more (by decide))
  | false=>
   rw[hk] at k13;refine ZeF (ZoI H Q (by decide) k13 hk k16 k17 k18) fun ℓ8 hp8 e Q8=>?_;exact ZeN ℓ8 hp8 e (Q8.more (by decide))
 refine ZeF eH fun ℓ8 hp8 eH Q8=>?_;refine ZeF (lawI_ok H Q8 (by decide)) fun ℓ9 hp9 eI T=>?_;exact ⟨ℓ4,hp4,eC,ℓ5,hp5,eD,ℓ6,hp6,eF,ℓ7,hp7,eG,ℓ8,hp8,eH,ℓ9,hp9,eI,T⟩
end
end
set_option tactic.hygienic true
end Mine.Internal
theorem PySem.Challenge.cw_uk0019_01_holds : PySem.Challenge.rw_uk0019_01.Holds :=
  Mine.Internal.law_holds_of Mine.Internal.law_plain
