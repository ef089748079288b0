import PyProof.Rows.All
import Wide.All
import OpenK.AllK
import Wide.FinOn
import Lean
import PySem.Challenge.RW_rk0007_02
open PySem PySem.W PySem.W.X PyProof.Rows
set_option Elab.async false
set_option linter.unusedVariables false
set_option maxRecDepth 100000
set_option maxHeartbeats 0
set_option genSizeOf false
set_option genInjectivity false
set_option bootstrap.genMatcherCode false
open PySem.Calls
namespace Mine
noncomputable section
theorem ιI{α:Type}{x:α}{l k:List α}(h:x∈l)(H:∀ z∈l,z∈k):x∈k:=H x h
section
variable{a b c d e f g h i j:Nat}
theorem ω1:a≤max a b+0:=by grind
theorem ω2:a+b≤max c a+b:=by lia
theorem ω3:a≤max c d+e→a+b≤max c d+(e+b):=by lia
theorem ω4:a≤3→1+3*a≤10:=by lia
theorem ω5:a≤max a b+10*0:=by grind
theorem ω6:b≤10→a+b≤max c a+10*1:=by grind
theorem ω7:a≤max c d+10*e→b≤10→a+b≤max c d+10*(e+1):=by lia
theorem ω8:a≤max b c+10*d→a+1≤max b c+10*(d+1):=by lia
theorem ω9:c≤d→a≤max e f+c→max e f+d<b→a<b:=by lia
theorem ωa:e≤d→a≤max b c+10*e→a≤max b c+10*d:=by lia
theorem ωb:e≤d→a≤max b c+e→a≤max b c+d:=by lia
theorem ωc:a+1+b=a+(b+1):=by intros;subst_vars;simp +arith
theorem ωd:0≤-1+((a:Int)+1):=by grind
theorem ωe:Int.toNat (-1+((a:Int)+1))=a:=by intros;simp +arith
theorem ωf:b<c→a*0+b<c:=by intros;simp_all
theorem ωg:a%2=1→a=2*(a/2)+1:=by lia
theorem ωh:a+(b+c)=a+b+c:=by intros;simp +arith
theorem ωi:d+(e+b)<c→d+(e+b)=a+b→a+b<c:=by intros;simp_all
theorem ωj:a≠0→a%2≠1→a=2*(a/2-1)+2:=by lia
theorem ωk:a+(2*b+c)=a+2*b+c:=by intros;simp +arith
theorem ωl:d+(2*e+b)<c→d+(2*e+b)=a+b→a+b<c:=by intros;simp_all
theorem ωm:524≤a→¬1*a+0<524:=by intros;simp_all
theorem ωn:b≤d→a+d<c→a+b<c:=by lia
theorem ωo:b≤d→a+10*d<c→a+10*b<c:=by grind
theorem ωp:60≤c→a+c<b→max a a+60<b:=by lia
theorem ωq:max d e+f+b<c→a≤max d e+f→a+b<c:=by lia
theorem ωr:max d e+10*f+10*b<c→a≤max d e+10*f→a+10*b<c:=by lia
theorem ωu:b≤a→a+1-b=a-b+1:=by grind
theorem ωw:c≤1000→a<c→a-b≤16777216:=by omega
theorem ωx:a≤b→¬a<b→a=b:=by grind
theorem ωz:c≤1000→a<c→a-b+1≤16777216:=by omega
theorem ω00:b<a→a-b=a-(b+1)+1:=by grind
theorem ω01:d≤c→b<d-a→a+b<c:=by omega
theorem ω02:d≤1→a≤b+d+e+c→e=0→a≤b+(c+1):=by lia
theorem ω06:b=c-d→a<c-d→a<b:=by intros;simp_all
theorem ω07:a=c-d→c-d≤b→a≤b:=by intros;simp [*]
theorem ω08:a-c≤b→a≤b+c:=by intros;simp_all
theorem ω09:a≤c→c≤1000→a≤1000+b:=by grind
theorem ω0a:d≤b→c≤a∧a<c+(d-c)→a<b:=by lia
theorem ω0b:a≤d→d≤1000→c=16777216→a-(b+1)+1≤c:=by grind
theorem ω0d:a≤d→d≤1000→c=16777216→a-b≤c:=by lia
theorem ω0g:b=a+1→a≤b+(0+(c+0))+1:=by intros;subst_vars;simp +arith
theorem ω0i:a+(b+1)<c→a+0+b<c:=by lia
theorem ω0j:a<c→c≤1000→a-b≤16777216:=by omega
theorem ω0k:b≤160→a+10*399<c→max a a+10*30+10*b<c:=by grind
theorem ω0l:b≤160→a+399<c→max a a+30+b<c:=by lia
theorem ω0m:a<d+(c+1)→d≤b→a<b+1+c:=by lia
theorem ω0n:a<b+1+(a+1):=by intros;simp +arith
theorem ω0o:c=d+1→c≤b→a≤d→a<b:=by lia
theorem ω0p:524≤a→a=a-524+524:=by intros;simp_all
theorem ω0r:c=a+1→c≤b→a<b:=by grind
theorem ω0s:c=a+1→c≤d→e≤b→e=d+1→a<b:=by lia
theorem ω0t:a+(b+2)<c→a+0+1+b<c:=by lia
theorem ω0u:a+(b+3)<c→a+1+0+b<c:=by lia
theorem ω0v:a+(b+4)<c→a+1+0+b<c:=by lia
theorem ω0w:a<b+(a+1):=by intros;simp +arith
theorem ω0x:a+(b+1)-(b+1)=a:=by intros;simp_all
theorem ω0y:a<d+(c+1)→d<b→a<b+c:=by lia
theorem ω0z:a<0+(a+1):=by intros;subst_vars;simp +arith
theorem ω10:a+60<b→max a a+60<b:=by intros;simp_all
theorem ω11:c≤a→b<c→a≠b:=by omega
theorem ω12:c<d→a=c→d≤b→a<b:=by grind
theorem ω13:b-a=c+1→a<b:=by omega
theorem ω14:b<a→a-(a-b-1+1)=b:=by lia
theorem ω15:a-b=c+1→a-(b+1)=c:=by omega
theorem ω16:a≤b→b-a=0→a=b:=by lia
theorem ω17:b=c→a<c→a<b:=by intros;simp_all
theorem ω18:b≤1001→a=min c b→a≤1001:=by grind
theorem ω19:b<a→a+1-(b+1)<a+1-b:=by grind
theorem ω1b:a=b+4→a+1+1=b+6:=by grind
theorem ω1c:a=c→b<c→a≠b:=by omega
theorem ω1g:a=b→225<b→a≠225:=by grind
theorem ω1h:b=a→a+1≠b:=by intros;simp_all
theorem ω1i:225<a→a+1≠225:=by grind
theorem ω1j:a<b→b+1=a→False:=by omega
theorem ω1l:a=c+7→b=c+6→a=b+1:=by intros;subst_vars;simp +arith
theorem ω1m:a=b→b<a→False:=by intros;simp_all
theorem ω1n:a≤b→a+1≤b+1:=by intros;simp_all
theorem ω1p:a=b→a<b+3:=by intros;subst_vars;simp +arith
theorem ω1q:225<a→225<a+3:=by lia
theorem ω1r:225<a→225≠a+1:=by grind
theorem ω1s:a=b→225<b→225≠a:=by grind
theorem ω1t:h+1<h→a=b∨a=c∨a=d∨a=e∨a=f∨a=g∨a=225:=by intros;simp +arith at *
theorem ω1u:h=i→h<i→a=b∨a=c∨a=d∨a=e∨a=f∨a=g∨a=225:=by intros;simp_all
theorem ω1v:a+2=a+1→False:=by intros;simp_all
theorem ω1w:a<b→b+2=a→False:=by grind
theorem ω1x:a=b→b+2=a→False:=by intros;simp_all
theorem ω1y:225<a→a+2=225→False:=by intros;simp_all
theorem ω21:b≤1001→a=b→a≤1001:=by intros;simp_all
theorem ω22:c=a+3→c≤d→d≤b→a≤b:=by grind
theorem ω23:a=b+3→c<b+3→a≤c→False:=by lia
theorem ω24:c≤20→d+690<b→a≤max d d+c→a+200<b:=by grind
theorem ω25:c≤20→d+10*690<b→a≤max d d+10*c→a+10*200<b:=by grind
theorem ω27:c=a+13→c≤b→a+13≤b:=by intros;simp_all
theorem ω28:b=c→b<a→c=a+12→False:=by grind
theorem ω29:b=c→b<a→c=a+11→False:=by lia
theorem ω2a:a+13≤b→b<a→False:=by lia
theorem ω2b:a+13≤b→b=a+12→False:=by intros;simp_all
theorem ω2c:a+13≤b→b=a+11→False:=by intros;simp_all
theorem ω2d:c=a+13→c≤d→d<b→a+13≤b:=by omega
theorem ω2e:c=a+13→c≤d→d<e→e<b→a+13≤b:=by grind
theorem ω2f:c=a+13→c≤b→a≤b:=by grind
theorem ω2g:c=a+13→c≤d→d<b→a≤b:=by grind
theorem ω2h:c=a+13→c≤d→d<e→e<b→a≤b:=by grind
theorem ω2j:c=a+13→c≤b→a+11≠b:=by lia
theorem ω2k:c=a+13→c≤d→d<b→a+11≠b:=by grind
theorem ω2l:c=a+13→c≤d→d<e→e<b→a+11≠b:=by grind
theorem ω2m:a+13≤b→a+11≠b+15:=by lia
theorem ω2o:a<c→c<b→a≠b:=by omega
theorem ω2p:a<c→c<d→d<b→a≠b+15:=by lia
theorem ω2q:a<c→c<b→a≠b+15:=by grind
theorem ω2r:a≤b→c<a→c=b→False:=by lia
theorem ω2s:524≤a→a=225→False:=by grind
theorem ω2t:524≤a→a≠520:=by grind
theorem ω2u:524≤a→a≤b→b=225→False:=by grind
theorem ω2w:524≤a→a≠225:=by omega
theorem ω2x:524≤b→c≤a→b<c→a≠225:=by grind
theorem ω2y:524≤a→520=a→False:=by grind
theorem ω2z:524≤a→a≤b→520=b→False:=by lia
theorem ω30:520=225→False:=by intros;simp_all
theorem ω31:a+c≤b→a<b+1:=by lia
theorem ω32:a<b→min (a+1) b-a=1:=by grind
theorem ω33:a≤b→b≤a+0→a=b:=by grind
theorem ω34:a+(b+1)-a=b+1:=by intros;simp_all
theorem ω35:a≤b→a≠b→a<b:=by grind
theorem ω36:a≤b→a≠b→a+1≤b:=by grind
theorem ω37:a≤b+(c+1)→a≤b+1+c:=by lia
theorem ω38:a+1+b-c=a+(b+1)-c:=by intros;subst_vars;simp +arith
theorem ω39:a≤a+b:=by intros;subst_vars;simp +arith
theorem ω3a:a<b+1→a≠b→a<b:=by grind
theorem ω3b:a%2=0→(a+1+1)%2=0:=by grind
theorem ω3c:a%2=0→(a+1)%2=1:=by lia
theorem ω3d:a<b+2→a≠b→a≠b+1→a<b:=by lia
theorem ω3e:a<c→a≤b+(c-b):=by omega
theorem ω3f:c<b→0<a+(b-a)-c:=by omega
theorem ω3g:a<c+(b-c)→c≤b→a<b:=by intros;simp_all
theorem ω3h:a+(b+1)=c→a+1+b=c:=by intros;subst_vars;simp +arith
theorem ω3i:a<c→a+1≤b+(c-b):=by omega
theorem ω3k:a<c→b≤a→a+1+(b+(c-b)-(a+1))=c:=by lia
theorem ω3l:b+1=c→d≤b→a<d+(c-d)→a≠b→a<b:=by lia
theorem ω3m:a+1=b→¬a+1<b:=by intros;simp_all
theorem ω3n:c≤b→a=c+1→b≠c→a≤b:=by lia
theorem ω3o:c≤b→a=c→a≤b:=by intros;simp_all
theorem ω3p:a+(c+1)≤b→a<b:=by lia
theorem ω3q:a<a+(b+1):=by intros;simp +arith
theorem ω3r:a+(b+1)≤c→a+1+b≤c:=by lia
theorem ω3s:a<b+1+c→a<b+(c+1):=by grind
theorem ω3t:a+(b+1)=a+1+b:=by intros;subst_vars;simp +arith
theorem ω3u:c=d→a=c+1→d+1≤b→a≤b:=by intros;simp [*]
theorem ω3v:¬a<b→a≤b→a=b:=by lia
theorem ω3w:c=a+1→c<b→a+1<b:=by intros;simp_all
theorem ω3x:d=a+1→d+1≤b→b≤c→a+2+(b-(a+2))≤c:=by intros;simp_all
theorem ω3y:a=c+1→c+2≤b→a+1≤b:=by intros;simp_all
theorem ω3z:c=d+1→c+1≤b→a<d+2+(b-(d+2))→a<b:=by intros;simp_all
theorem ω40:c=a+1→c+1≤b→a+2+(b-(a+2))=b:=by intros;simp_all
theorem ω41:c=a+1→a<b→¬c<b→a+1=b:=by lia
theorem ω42:¬(a:Int)<0:=by intros;simp_all
theorem ω45:a<20→¬300<a/30+1:=by lia
theorem ω46:a<b→b<1000000→(a:Int)<9223372036854775808:=by lia
theorem ω48:c+(d+1)≤1000→b=16777216→a=c+1→a≤b:=by lia
theorem ω4a:((a+1:Nat):Int)-1=(a:Int):=by intros;simp +arith
theorem ω4b:0<a+1:=by intros;simp +arith
theorem ω4c:a+(b+1)≤1000→a+1+b≤1000:=by lia
theorem ω4d:a≤900→(a:Int)<1000000:=by grind
theorem ω4e:c≤20→d+200<b→a≤max d d+c→a+110<b:=by lia
theorem ω4f:c≤20→d+10*200<b→a≤max (d+1) d+10*c→a+10*110<b:=by grind
theorem ω4h:a+1≤900→1+a≤1000:=by lia
theorem ω4i:c≤20→d+300<b→a≤max d d+c→a+200<b:=by grind
theorem ω4j:c≤20→d+10*300<b→a≤max (d+1) d+10*c→a+10*200<b:=by grind
theorem ω4k:a/10%4=0∨a/10%4=1∨a/10%4=2∨a/10%4=3:=by grind
theorem ω4l:a+b+c=a+(c+b):=by intros;simp +arith
theorem ω4m:c≤9→a=c→b=16777216→a≤b:=by grind
theorem ω4n:2≤a→¬(a:Int)<1:=by omega
theorem ω4o:2≤a→¬(a:Int)=1:=by lia
theorem ω4p:a≤9→(a:Int)<1000000:=by lia
theorem ω4q:2≤a→a≤9→a=2∨a=3∨a=4∨a=5∨a=6∨a=7∨a=8∨a=9:=by grind
theorem ω4r:1+a/10%3<1000000:=by omega
theorem ω4s:1+a/10%3≤900:=by grind
theorem ω4t:a=1+b/10%3→a≤12:=by grind
theorem ω4u:1+a/10%4<1000000:=by omega
theorem ω4v:1+a/10%4≤900:=by grind
theorem ω4w:a=1+b/10%4→0<a:=by intros;subst_vars;simp +arith
theorem ω4x:c=1+d/10%4→a=1+c→b=16777216→a≤b:=by grind
theorem ω4y:b=1+c/10%4→a=1+b→a≤12:=by grind
theorem ω4z:a/10%4≤900:=by grind
theorem ω50:a≠0→0<a:=by grind
theorem ω51:c=d/10%4→a=2+c→b=16777216→a≤b:=by omega
theorem ω52:b=c/10%4→a=2+b→a≤12:=by lia
theorem ω53:a/10%3≤900:=by grind
theorem ω54:c=d/10%3→a=1+c→b=16777216→a≤b:=by lia
theorem ω55:b=c/10%3→a=1+b→a≤12:=by lia
theorem ω56:a/10%2=0∨a/10%2=1:=by grind
theorem ω57:a/10/2%9≤900:=by grind
theorem ω58:c=d/10/2%9→a=2+c→b=16777216→a≤b:=by lia
theorem ω59:b=c/10/2%9→a=2+b→a≤12:=by lia
theorem ω5a:a/10/5%2=0∨a/10/5%2=1:=by lia
theorem ω5b:a=1+b/10%5→0<a:=by intros;subst_vars;simp +arith
theorem ω5c:a/10%5≠0→2≤1+a/10%5:=by grind
theorem ω5d:1+a/10%5≤9:=by grind
theorem ω5e:1+a/10%5<1000000:=by omega
theorem ω5f:a=1+b/10%5→a≤12:=by omega
theorem ω5g:c=1+d/10%5→b=16777216→a=c+1→a≤b:=by grind
theorem ω5h:b=1+c/10%5→a=b+1→a≤12:=by grind
theorem ω5i:a%10=0∨a%10=1∨a%10=2∨a%10=3∨a%10=4∨a%10=5∨a%10=6∨a%10=7∨a%10=8∨a%10=9:=by lia
theorem ω5j:a<b→a+1<b+1:=by intros;simp_all
theorem ω5k:0+b=a→a≤b:=by intros;subst_vars;simp +arith
theorem ω5l:0+a=b→a=b:=by intros;subst_vars;simp +arith
theorem ω5m:0+c=b→a=c→a=b:=by intros;subst_vars;simp +arith
theorem ω5n:c+1+a=b→a<b:=by grind
theorem ω5o:a+1+b=c→a+(b+1)=c:=by intros;subst_vars;simp +arith
theorem ω5p:c≤100→d+1+e=c→a=e→b=16777216→a≤b:=by lia
theorem ω5q:max 0 (min 11 (a:Int))=((min 11 a:Nat):Int):=by grind
theorem ω5r:max 0 (min 1 ((a+1:Nat):Int))=(1:Int):=by grind
theorem ω5t:min 11 a≤100:=by lia
theorem ω5u:a<b→a=b+4→False:=by grind
theorem ω5v:a<b→a=b+3→False:=by grind
theorem ω5w:min 11 a≤11:=by lia
theorem ω5x:c=a+5→c≤b→a≤b:=by lia
theorem ω5y:a≤11→a<1000000:=by lia
theorem ω5z:a%4=0∨a%4=1∨a%4=2∨a%4=3:=by grind
theorem ω60:a≤10→b=16777216→a+1≤b:=by grind
theorem ω61:a%4<1000000:=by grind
theorem ω63:a<b→a=b+7→False:=by grind
theorem ω64:a<b→a=b+6→False:=by grind
theorem ω65:a<b→a=b+2→False:=by grind
theorem ω66:c=a+8→c≤b→a≤b:=by grind
theorem ω67:a≤10→a+1≤11:=by intros;simp_all
theorem ω68:c≤10→b=16777216→a=c→1+a+1≤b:=by grind
theorem ω69:a/4%4<1000000:=by grind
theorem ω6a:c≤10→b=16777216→a=c→1+a≤b:=by grind
theorem ω6b:a=b→c<b→c=a→False:=by intros;simp_all
theorem ω6c:b<c→a=c→524≤b→524≤a:=by grind
theorem ω6d:d+(c+1)≤1000→b=16777216→a=d→a≤b:=by lia
theorem ω6e:b=c→a=c+1→524≤b→524≤a:=by grind
theorem ω6f:d+c≤1000→b=16777216→a=d→a≤b:=by lia
theorem ω6g:0<a→a-1+1=a:=by lia
theorem ω6h:0<b→a+b≤1000→a+1+(b-1)≤1000:=by lia
theorem ω6i:a<c→b=c+1→a≠b+4:=by lia
theorem ω6j:a<c→b=c+1→a≠b+3:=by lia
theorem ω6k:b<c→a=c+1→a+4≠b:=by omega
theorem ω6l:b<c→a=c+1→a+3≠b:=by omega
theorem ω6m:b=c→a=c+1→524≤b→524≤a+4:=by grind
theorem ω6n:b=c→a=c+1→524≤b→524≤a+3:=by grind
theorem ω6o:a+12*(c+1)≤900→b≤12→a+b≤1000:=by lia
theorem ω6p:b=a+1→c<a→c=b+4→False:=by lia
theorem ω6q:b=a+1→c<a→c=b+3→False:=by lia
theorem ω6r:b=a+1→a≤b+4:=by intros;subst_vars;simp +arith
theorem ω6s:b=a+1→a≤b+3:=by intros;subst_vars;simp +arith
theorem ω6t:a+12*(c+1)≤900→b≤12→a+b+12*c≤900:=by grind
theorem ω6u:a<b→a≠b+c:=by lia
theorem ω6v:b≠c→a+b≠a+c:=by intros;simp [*]
theorem ω6x:524≤b→c=b+8→a=c→524≤a:=by grind
theorem ω6y:a<b→c=b+8→d=c→a=d→False:=by lia
theorem ω6z:a=b+8→c=a→d<b+8→d=c→False:=by intros;simp_all
theorem ω70:a<c→d=c+8→b=d+1→a≠b+4:=by omega
theorem ω71:a<c→d=c+8→b=d+1→a≠b+3:=by omega
theorem ω72:c=b+8→a=c+1→a+4≠b+1:=by grind
theorem ω73:c=b+8→a=c+1→a+4≠b:=by intros;subst_vars;simp +arith
theorem ω74:c=b+8→a=c+1→a+3≠b+1:=by intros;subst_vars;simp +arith
theorem ω75:c=b+8→a=c+1→a+3≠b:=by grind
theorem ω76:524≤b→c=b+8→a=c+1→524≤a+4:=by grind
theorem ω77:524≤b→c=b+8→a=c+1→524≤a+3:=by grind
theorem ω78:b<a→a≠b:=by omega
theorem ω79:a≤12→0+a≤1000:=by lia
theorem ω7a:a=b+8→c=a+1→d<b+8→d=c+4→False:=by intros;simp_all
theorem ω7b:a=b+8→c=a+1→d<b+8→d=c+3→False:=by intros;simp_all
theorem ω7d:a=c→d=c+8→b=d→a≤b:=by intros;simp [*]
theorem ω7e:a=c→d=c+8→b=d+1→a≤b+4:=by intros;subst_vars;simp +arith
theorem ω7f:a=c→d=c+8→b=d+1→a≤b+3:=by intros;subst_vars;simp +arith
theorem ω7h:a=b+8→c=a→b+7=c→False:=by intros;simp_all
theorem ω7j:b≤11→a≤12→a+12*b≤900:=by lia
theorem ω7k:a=b+8→c=a→b+6=c→False:=by intros;simp_all
theorem ω7l:b+0=a→(a:Int)-(b:Int)=(0:Int):=by intros;subst_vars;simp +arith
theorem ω7m:b≤c→c<1000→a+(d+1)=b→a+1<1000000:=by lia
theorem ω7n:c≤b→d+(a+1)=c→a<b:=by grind
theorem ω7o:((a+1:Nat):Int)-(1:Int)=(a:Int):=by grind
theorem ω7p:b+(c+1)=a→(a:Int)-(b:Int)=((c+1:Nat):Int):=by intros;subst_vars;simp +arith
theorem ω7q:a≤b→(a:Int)<(b:Int)+1:=by omega
theorem ω7r:¬b≤a→(a:Int)+1≤(b:Int):=by omega
theorem ω7s:a+(c+1)=b→a<b:=by grind
theorem ω7t:a+(c+1)=b→a≤b:=by intros;subst_vars;simp +arith
theorem ω7u:a≤b→(a:Int)≤(b:Int):=by intros;simp_all
theorem ω7v:a<1000→(a:Int)<1000000:=by lia
theorem ω7w:b≤a→(a:Int)-(b:Int)=((a-b:Nat):Int):=by grind
theorem ω7x:¬b+c<a→a-b≤c:=by omega
theorem ω7y:¬b+c<a→a-b≤c+1:=by omega
theorem ω7z:¬b+c<a→a≤b+c:=by grind
theorem ω80:a≤b→max 0 (min (a:Int) (b:Int))=(a:Int):=by grind
theorem ω81:max 0 (min (a:Int) (b:Int))=((min a b:Nat):Int):=by grind
theorem ω82:Int.toNat (((min a b:Nat):Int)-(c:Int)+1-1)=min a b-c:=by intros;simp_all
theorem ω83:Int.toNat ((a:Int)+1*(b:Int))=a+b:=by grind
theorem ω84:min b c-a=c→0<c→a=0:=by omega
theorem ω85:a=c→min b c-0=c→a≤b-0:=by grind
theorem ω86:¬b≤a→a≤b:=by grind
theorem ω87:¬c≤a→a-b≤c-b:=by omega
theorem ω88:c≤1000→d=16777216→min (a-b) (c-b)≤d:=by lia
theorem ω89:c≤b→a+(d+1)=c→a<b:=by grind
theorem ω8a:c≤b→a+(d+1)=c→a+1≤b:=by grind
theorem ω8c:c≤b→a+(d+1)=c→¬min (a+2) b-(a+1)=b:=by omega
theorem ω8d:b<1000→c≤b→a+(d+1)=c→a+2<1000000:=by lia
theorem ω8e:b<1000→c≤b→a+(d+1)=c→a+1<1000000:=by lia
theorem ω8f:c≤b→a+(d+1)=c→a≤b:=by omega
theorem ω8g:a≤b→b<1000→(a:Int)<1000000:=by omega
theorem ω8i:b<1000→a<b→a+2<1000000:=by lia
theorem ω8j:a<b→0<a→¬min (a+2) b-a=b:=by lia
theorem ω8k:b<1000→a<b→a+1<1000000:=by omega
theorem ω8l:a=16777216→2+2≤a:=by intros;subst_vars;simp +arith
theorem ω8m:b<1000→a<b→a<1000000:=by omega
theorem ω8n:min (a+2-a) (b-a)=2→a+2≤b:=by lia
theorem ω8o:a<b→a+0≤b:=by grind
theorem ω8p:c<1000→a+b≤c→a+b<1000000:=by lia
theorem ω8q:c<1000→a+b≤d→d≤c→a+b<1000000:=by lia
theorem ω8r:a+10*100<b→a<b:=by lia
theorem ω8s:a≤2000→b=16777216→a+1≤b:=by lia
theorem ω8t:a=16777216→1+2≤a:=by intros;subst_vars;simp +arith
theorem ω8u:a≤a∧a<a+(b+1):=by intros;subst_vars;simp +arith
theorem ω8v:a+1≤b∧b<a+1+c→a≤b∧b<a+(c+1):=by lia
theorem ω8w:a≤b∧b<a+(c-a)→a≤b∧b≤c:=by lia
theorem ω8x:a≤900→a<1000:=by grind
theorem ω8y:b≤900→a≤c→c<b→a≤2000:=by lia
theorem ω8z:a<b+(c+1)→a<b+1+c:=by grind
theorem ω90:b≤900→a<b→a<1000:=by lia
theorem ω91:a≠b→¬(a:Int)=(b:Int):=by omega
theorem ω92:c+d≤a∧a≤b→a≠b→a<b:=by grind
theorem ω93:a<d+(c+1)→d+e≤b∧b≤a→a<b+1+c:=by lia
theorem ω94:c+d≤a∧a≤b→a≠b→a+1≤b:=by grind
theorem ω95:a≤c→c+d≤b∧b≤e→a≤b:=by lia
theorem ω96:b≤12*c→a≤12→a+b≤12*(c+1):=by lia
theorem ω97:c≤100→b=16777216→a≤12*c→a≤b:=by lia
theorem ω98:b≤100→b=a→a*12+a*0≤16777216:=by lia
theorem ω99:c≤b→a<c+(b-c)→a<b:=by intros;simp_all
theorem ω9a:c≤d→d≤b→a<c+(d-c)→a<b:=by lia
theorem ω9b:¬b+1<a→a≤b+1:=by intros;simp_all
theorem ω9c:a+b-a=b:=by intros;simp_all
theorem ω9d:a+(d+1)≤b∧b≤c→b≠c→a+(b+1-a)≤c:=by lia
theorem ω9e:a+(c+1)≤b∧b≤d→a+(b+1-a)=b+1:=by grind
theorem ω9f:a+10*690<b→a<b:=by grind
theorem ω9g:a+10*690<b→a+1<b:=by lia
theorem ω9h:¬(63:Int)<(b:Int)→a=b→a≤100:=by lia
end
theorem ω0{a b:Nat}(h:a≤b):a+(b-a)=b:=Nat.add_sub_cancel' h
theorem ωs{a b:Nat}(h:b=a):a≤b:=Nat.le_of_eq h.symm
theorem ωt{a b c:Nat}(h:a+c<b):a<b:=Nat.lt_of_le_of_lt (Nat.le_add_right a c) h
theorem ωv{a b i:Nat}(h:a≤b):a≤b+i:=Nat.le_add_right_of_le h
theorem ωy{a b:Nat}(h:¬b<a):a≤b:=Nat.le_of_not_lt h
theorem ω03{a b i:Nat}(h:a+i<b):a<b:=Nat.lt_of_le_of_lt (Nat.le_add_right a i) h
theorem ω04{a b i j k:Nat}(h:a+i<b)(g:j+k≤i:=by decide):a+j+k<b:=Nat.add_assoc a j k ▸ Nat.lt_of_le_of_lt (Nat.add_le_add_left g a) h
theorem ω05{a b i j k:Nat}(h:a+i<b)(g:j+k≤i:=by decide):a+j+k<b:=Nat.add_assoc a j k ▸ Nat.lt_of_le_of_lt (Nat.add_le_add_left g a) h
theorem ω0c{a b n m:Nat}(h:a≤n)(e:b=m)(k:n≤m:=by decide):a≤b:=e ▸ Nat.le_trans h k
theorem ω0e{a b i j k:Nat}(h:a+i<b)(g:j+k≤i:=by decide):max a a+j+k<b:=by rw [Nat.max_self,Nat.add_assoc];exact Nat.lt_of_le_of_lt (Nat.add_le_add_left g a) h
theorem ω0f{a b i j k:Nat}(h:a+i<b)(g:j+k≤i:=by decide):max a a+j+k<b:=by rw [Nat.max_self,Nat.add_assoc];exact Nat.lt_of_le_of_lt (Nat.add_le_add_left g a) h
theorem ω0h{a b i l j k:Nat}(h:a+i<b)(g:l+j+k≤i:=by decide):max (a+l) a+j+k<b:=by rw [Nat.max_eq_left (Nat.le_add_right a l),Nat.add_assoc,Nat.add_assoc,←Nat.add_assoc l];exact Nat.lt_of_le_of_lt (Nat.add_le_add_left g a) h
theorem ω0q{a i j:Nat}(h:i<j:=by decide):a+i<a+j:=Nat.add_lt_add_left h a
theorem ω1a{a b i j:Nat}(h:a+i<b)(k:j≤i:=by decide):a+j<b:=Nat.lt_of_le_of_lt (Nat.add_le_add_left k a) h
theorem ω1d{a b c:Nat}(h:b=c)(k:a<c):a≠b:=h ▸ Nat.ne_of_lt k
theorem ω1e{a i:Nat}:a≤a+i:=Nat.le_add_right a i
theorem ω1f{a b i:Nat}(h:b<a):a+i≠b:=(Nat.ne_of_lt (Nat.lt_add_right i h)).symm
theorem ω1k{a b i:Nat}(h:a<b):a≠b+i:=Nat.ne_of_lt (Nat.lt_add_right i h)
theorem ω1o{a b i:Nat}(h:a<b):a<b+i:=Nat.lt_add_right i h
theorem ω1z{a b i:Nat}(h:a+i≤b):a≤b:=Nat.le_trans (Nat.le_add_right a i) h
theorem ω20{a b i:Nat}(h:b=a+i):a≤b:=h ▸ Nat.le_add_right a i
theorem ω26{a n i:Nat}(h:n≤a):n≤a+i:=Nat.le_add_right_of_le h
theorem ω2i{a b i j:Nat}(h:a+i≤b):a≤b+j:=Nat.le_add_right_of_le (Nat.le_trans (Nat.le_add_right a i) h)
theorem ω2n{a b:Nat}(h:a<b):a≠b:=Nat.ne_of_lt h
theorem ω2v{a b c:Nat}(h:c≤b)(k:a<c):a≠b:=Nat.ne_of_lt (Nat.lt_of_lt_of_le k h)
theorem ω3j{a i:Nat}(h:0<i:=by decide):a<a+i:=Nat.lt_add_of_pos_right h
theorem ω43{a:Nat}:(0:Int)≤(a:Int):=Int.natCast_nonneg a
theorem ω44{a n m:Nat}(h:n<a)(k:m≤n:=by decide):a≠m:=(Nat.ne_of_lt (Nat.lt_of_le_of_lt k h)).symm
theorem ω47{a n m:Nat}(h:a<n)(k:n≤m:=by decide):a<m:=Nat.lt_of_lt_of_le h k
theorem ω49{a:Nat}:(0:Int)<((a+1:Nat):Int):=Int.natCast_pos.mpr (Nat.succ_pos a)
theorem ω4g{a i:Nat}(h:0<i:=by decide):a≠a+i:=Nat.ne_of_lt (Nat.lt_add_of_pos_right h)
theorem ω5s{a i j:Nat}(h:i≠j:=by decide):a+i≠a+j:=fun e=>h (Nat.add_left_cancel e)
theorem ω62{a n m:Nat}(h:a≤n)(k:n≤m:=by decide):a≤m:=Nat.le_trans h k
theorem ω6w{a i:Nat}(h:0<i:=by decide):a+i≠a:=(Nat.ne_of_lt (Nat.lt_add_of_pos_right h)).symm
theorem ω7c{a b i:Nat}(h:a=b):a≤b+i:=h ▸ Nat.le_add_right b i
theorem ω7g{a b:Nat}(h:a=b):a≤b:=Nat.le_of_eq h
theorem ω7i{a b:Nat}(h:¬b=a):¬a=b:=fun e=>h e.symm
theorem ω8b{a n m:Nat}(h:a<n)(k:n≤m+1:=by decide):a≤m:=Nat.le_of_lt_succ (Nat.lt_of_lt_of_le h k)
theorem ω8h{a b:Nat}(h:a<b):a≤b:=Nat.le_of_lt h
theorem ω9i{α:Type}{a b c d:α}:[a,b,c,d].Nodup↔(¬a=b∧¬a=c∧¬a=d)∧(¬b=c∧¬b=d)∧¬c=d∧¬False∧([]:List α).Nodup:=by simp only [List.nodup_cons,List.mem_cons,List.not_mem_nil,or_false,not_or]
theorem ω9j{α:Type}{a b c:α}:[a,b,c].Nodup↔(¬a=b∧¬a=c)∧¬b=c∧¬False∧([]:List α).Nodup:=by simp only [List.nodup_cons,List.mem_cons,List.not_mem_nil,or_false,not_or]
theorem ω9k{α:Type}{x a b c:α}(y:x∈[a,b,c]):x=a∨x=b∨x=c:=by simpa only [List.mem_cons,List.not_mem_nil,or_false] using y
theorem ω9l{α:Type}{a b c d e:α}:[a,b,c,d,e].Nodup↔(¬a=b∧¬a=c∧¬a=d∧¬a=e)∧(¬b=c∧¬b=d∧¬b=e)∧(¬c=d∧¬c=e)∧¬d=e∧¬False∧([]:List α).Nodup:=by simp only [List.nodup_cons,List.mem_cons,List.not_mem_nil,or_false,not_or]
theorem ω9m{α:Type}{a b c d e f g:α}:[a,b,c,d,e,f,g].Nodup↔(¬a=b∧¬a=c∧¬a=d∧¬a=e∧¬a=f∧¬a=g)∧(¬b=c∧¬b=d∧¬b=e∧¬b=f∧¬b=g)∧(¬c=d∧¬c=e∧¬c=f∧¬c=g)∧(¬d=e∧¬d=f∧¬d=g)∧(¬e=f∧¬e=g)∧¬f=g∧¬False∧([]:List α).Nodup:=by simp only [List.nodup_cons,List.mem_cons,List.not_mem_nil,or_false,not_or]
theorem ω9n{α:Type}{a b c d e f:α}:[a,b,c,d,e,f].Nodup↔(¬a=b∧¬a=c∧¬a=d∧¬a=e∧¬a=f)∧(¬b=c∧¬b=d∧¬b=e∧¬b=f)∧(¬c=d∧¬c=e∧¬c=f)∧(¬d=e∧¬d=f)∧¬e=f∧¬False∧([]:List α).Nodup:=by simp only [List.nodup_cons,List.mem_cons,List.not_mem_nil,or_false,not_or]
theorem ω9o{α:Type}{x a b:α}(y:x∈[a,b]):x=a∨x=b:=by simpa only [List.mem_cons,List.not_mem_nil,or_false] using y
theorem ω9p{α:Type}{a b c d e f:α}:[a,b,c,d,e,f].Nodup↔(¬a=b∧¬a=c∧¬a=d∧¬a=e∧¬a=f∧¬a∈([]:List α))∧(¬b=c∧¬b=d∧¬b=e∧¬b=f∧¬b∈([]:List α))∧(¬c=d∧¬c=e∧¬c=f∧¬c∈([]:List α))∧(¬d=e∧¬d=f∧¬d∈([]:List α))∧(¬e=f∧¬e∈([]:List α))∧¬f∈([]:List α)∧([]:List α).Nodup:=by simp only [List.nodup_cons,List.mem_cons,not_or]
theorem ω9q{α:Type}{x a b c d e:α}(y:x∈[a,b,c,d,e]):x=a∨x=b∨x=c∨x=d∨x=e:=by simpa only [List.mem_cons,List.not_mem_nil,or_false] using y
theorem ω9r{α:Type}{x a b c d e f g:α}(y:x∈[a,b,c,d,e,f,g]):x=a∨x=b∨x=c∨x=d∨x=e∨x=f∨x=g:=by simpa only [List.mem_cons,List.not_mem_nil,or_false] using y
theorem ω9s{α:Type}{x a b c d e f g h i:α}(y:x∈[a,b,c,d,e,f,g,h,i]):x=a∨x=b∨x=c∨x=d∨x=e∨x=f∨x=g∨x=h∨x=i:=by simpa only [List.mem_cons,List.not_mem_nil,or_false] using y
theorem ω9t{α:Type}{a b c d e:α}:[a,b,c,d,e].Nodup↔(¬a=b∧¬a=c∧¬a=d∧¬a=e)∧(¬b=c∧¬b=d∧¬b=e)∧(¬c=d∧¬c=e)∧¬d=e:=by simp only [List.nodup_cons,List.mem_cons,List.not_mem_nil,or_false,not_or,List.nodup_nil,and_true,not_false_eq_true]
theorem ω9u{α:Type}{a b c d e f g:α}:[a,b,c,d,e,f,g].Nodup↔(¬a=b∧¬a=c∧¬a=d∧¬a=e∧¬a=f∧¬a=g)∧(¬b=c∧¬b=d∧¬b=e∧¬b=f∧¬b=g)∧(¬c=d∧¬c=e∧¬c=f∧¬c=g)∧(¬d=e∧¬d=f∧¬d=g)∧(¬e=f∧¬e=g)∧¬f=g:=by simp only [List.nodup_cons,List.mem_cons,List.not_mem_nil,or_false,not_or,List.nodup_nil,and_true,not_false_eq_true]
theorem ω9v{α:Type}{x a b c d e f:α}(y:x∈[a,b,c,d,e,f]):x=a∨x=b∨x=c∨x=d∨x=e∨x=f:=by simpa only [List.mem_cons,List.not_mem_nil,or_false] using y
theorem sZ:sizeLine=16777216:=by decide
noncomputable def ιx(n m:Nat):List Nat:=Nat.rec (motive:=fun _=>Nat→List Nat) (fun _=>[]) (fun _ ih m=>Nat.mod m 16::ih (Nat.div m 16)) n m
theorem ιF{es:List DictEntry}{k:Nat}(vs:Array Value):(⟨.type "frame",none,.dict ⟨es⟩ k,#[]⟩:Obj).data≠.fields vs:=nofun
noncomputable abbrev ιa:Str:=⟨⟨[48,49,50,51,52,53,54,55,56,57,97,98,99,100,101,102,65,66,67,68,69,70]⟩⟩
noncomputable abbrev ιb:Str:=⟨⟨[39,34,63,92,97,98,102,110,114,116,118,101]⟩⟩
noncomputable abbrev ιc:Str:=⟨⟨[39,34,63,92,97,98,102,110,114,116,118,101,48,49,50,51,52,53,54,55,120,117,85]⟩⟩
noncomputable abbrev ιd:Str:=⟨⟨[76,34]⟩⟩
noncomputable abbrev ιe:Str:=⟨⟨[96,96]⟩⟩
noncomputable abbrev ιf:Str:=⟨⟨[48,49,50,51,52,53,54,55]⟩⟩
noncomputable abbrev ιg:Str:=⟨⟨[82,69,70,85,83,69,68]⟩⟩
noncomputable abbrev ιh:Str:=⟨⟨[83,84,82,73,78,71]⟩⟩
noncomputable abbrev ιi:Str:=⟨⟨[113,56,32,57,99,65,69,76,88,64,233,1635]⟩⟩
noncomputable abbrev ιj:Str:=⟨⟨[92,120]⟩⟩
noncomputable abbrev ιk:Str:=⟨⟨[34,64]⟩⟩
theorem ιS{α:Type}{a b:α}(h:a∈[b]):a=b:=List.mem_singleton.mp h
theorem ιN{α:Type}:([]:List α).Nodup:=List.Pairwise.nil
theorem ιC{α:Type}{a b:α}{l:List α}(h:a∈b::l):a=b∨a∈l:=List.mem_cons.mp h
theorem ιL{n m k:Nat}(h:n<m)(h':m≤k):n<k:=Nat.lt_of_lt_of_le h h'
theorem ιA(n k:Nat):n≤n+k:=Nat.le_add_right n k
theorem ιH{h:Heap}{a:Addr}{o:Obj}(e:h.get? a=some o):a<h.objs.size:=Heap.lt_size e
theorem ιp{α:Type}{M:Model}{A:Around}{a:α}{Q:α→Shared→Prop}{E:Value→Shared→Prop}{s:Shared}(h:Q a s):wpAny M A (pure a) Q E s:=wpAny_pure h
theorem ιT{a b c:Nat}(h:a≤b)(k:b≤c):a≤c:=Nat.le_trans h k
theorem ιR(a:Nat):a≤a:=Nat.le_refl a
theorem ιM{α:Type}{a:α}{l k:List α}(h:a∈l++k):a∈l∨a∈k:=List.mem_append.mp h
theorem μ0{α:Type}{a:α}{l:List α}:a∈a::l:=.head _
theorem μ1{α:Type}{a b:α}{l:List α}:a∈b::a::l:=.tail _ μ0
theorem μ2{α:Type}{a b c:α}{l:List α}:a∈b::c::a::l:=.tail _ μ1
theorem μ3{α:Type}{a b c d:α}{l:List α}:a∈b::c::d::a::l:=.tail _ μ2
theorem μ4{α:Type}{a b c d e:α}{l:List α}:a∈b::c::d::e::a::l:=.tail _ μ3
theorem μ5{α:Type}{a b c d e f:α}{l:List α}:a∈b::c::d::e::f::a::l:=.tail _ μ4
theorem μ6{α:Type}{a b c d e f g:α}{l:List α}:a∈b::c::d::e::f::g::a::l:=.tail _ μ5
theorem μ7{α:Type}{a b c d e f g h:α}{l:List α}:a∈b::c::d::e::f::g::h::a::l:=.tail _ μ6
theorem μ8{α:Type}{a b c d e f g h i:α}{l:List α}:a∈b::c::d::e::f::g::h::i::a::l:=.tail _ μ7
theorem μ9{α:Type}{a b c d e f g h i j:α}{l:List α}:a∈b::c::d::e::f::g::h::i::j::a::l:=.tail _ μ8
theorem μ10{α:Type}{a b c d e f g h i j k:α}{l:List α}:a∈b::c::d::e::f::g::h::i::j::k::a::l:=.tail _ μ9
theorem μ11{α:Type}{a b c d e f g h i j k m:α}{l:List α}:a∈b::c::d::e::f::g::h::i::j::k::m::a::l:=.tail _ μ10
noncomputable abbrev pw:Program:=PySem.Challenge.pw_rk0007_02
noncomputable def goQ(ok:Thread→Bool)(st:SharedT→Thread→Option (SharedT×Thread))(n:Nat):SharedT→Thread→Option SharedT:=
 Nat.rec (motive:=fun _=>SharedT→Thread→Option SharedT) (fun _ _=>none) (fun _ ih s t=>match through t with
  | true=>some s
  | false=>match ok t with
   | false=>none
   | true=>match st s t with
    | some r=>ih r.1 r.2
    | none=>none) n
theorem Hn{tb:String→Option Builtin}{p:Program}{w:World}{n₀:Nat}{ann:Option Value}:∀ {n:Nat} {s s':SharedT} {t:Thread},goQ (stepOk n₀ ann) (stepT (denote tb) p w) n s t=some s'→topRun tb p w n₀ ann n s.abs t=some s'.abs
 | 0,_,_,_,h=>by cases h
 | n+1,s,s',t,h=>by
  change (match through t with
   | true=>some s
   | false=>match stepOk n₀ ann t with
    | false=>none
    | true=>match stepT (denote tb) p w s t with
     | some r=>goQ (stepOk n₀ ann) (stepT (denote tb) p w) n r.1 r.2
     | none=>none)=some s' at h
  unfold topRun
  cases ht:through t with
  | true=>rw [ht] at h; cases h; rfl
  | false=>
   rw [ht] at h
   cases hk:stepOk n₀ ann t with
   | false=>rw [hk] at h; cases h
   | true=>
    rw [hk] at h
    cases hs:stepT (denote tb) p w s t with
    | none=>rw [hs] at h; cases h
    | some r=>obtain⟨s₂,t₂⟩:=r; rw [hs] at h; dsimp only; rw [stepT_spec hs]; exact Hn h
theorem left_one{p q:Program}{loose:List Str}{Xt:Shared→Bool}{α:Type}{Yf:Shared→α}{Ya:World→α}{N:Nat}{g0:Bool}{H₀:Params→Heap}{gs₀:Array GenState}{d₀:Drawn}{k₀:Nat}{m₀:Nat}{ann:Option Value}{M:Nat}
  (open_:∀ w:World,(fencedOpening treeTable p w N).map (fun s=>(s.heap,s.gens,s.drawn,s.toks))=some (H₀ w.params,gs₀,d₀,k₀))
  (size:∀ w:World,((H₀ w.params).isNs mainGlobals&&gs₀.size == 0,(H₀ w.params).objs.size,(H₀ w.params).nsMap mainGlobals "__annotations__")=(true,m₀,ann))
  (le:Nat.ble M N=true)
  (run:∀ (w:World) (os:OsState),(topRun treeTable p w m₀ ann M ⟨H₀ w.params,gs₀,d₀,k₀,os⟩ (topStub p)).map (fun s=>(staticsOk (importedModules p.main.body) (H₀ w.params) s.heap&&namesBound p s.heap&&gensDone s&&laidKept (H₀ w.params) s.heap,
    openSeen q loose (importedModules p.main.body) Xt g0 s,Yf s))=some (true,openGood q loose,Ya w)):LeftO p q loose Xt Yf Ya N g0:=fun w=>by
 obtain⟨⟨h,gs,d,k,os⟩,e,e'⟩:=Option.map_eq_some_iff.mp (open_ w)
 obtain⟨rfl,rfl,rfl,rfl⟩:h=H₀ w.params∧gs=gs₀∧d=d₀∧k=k₀:=by simpa using e'
 obtain⟨z1,z2,z3⟩:_∧_∧_:=by simpa only [Prod.mk.injEq] using size w
 obtain⟨s₁,r,l⟩:=Option.map_eq_some_iff.mp (run w os)
 obtain⟨l1,l2,l3⟩:_∧_∧_:=by simpa only [Prod.mk.injEq] using l
 have r:=topRun_mono (N-M) _ _ _ _ r
 rw [show M+(N-M)=N by have:=Nat.le_of_ble_eq_true le; exact ω0 this] at r
 have t:topFrom treeTable p w N ⟨H₀ w.params,gs,d,k,os⟩=some s₁:=by
  unfold topFrom
  dsimp only
  rw [z1,z2,z3,r]
  show(match staticsOk (importedModules p.main.body) (H₀ w.params) s₁.heap&&namesBound p s₁.heap&&gensDone s₁&&laidKept (H₀ w.params) s₁.heap with | true=>_ | false=>_)=_
  rw [l1]
 unfold openEnds
 rw [e]
 show(topFrom treeTable p w N _).map _=_
 rw [t]
 exact congrArg some (Prod.ext l2 l3)
noncomputable def qv:Program:=view pw [0,2,3,5,7,9,10,12,14,16,17,18,19,20,21,22,23,24,25,26,27,28,29]
noncomputable def EG:List Str:=["Token","SourceLocation","CToken","CompilerError","CLexer"]
noncomputable def Xt0(s:Shared):Bool:=xlAt qv [] s&&recOk (RowW.records PySem.Challenge.rw_rk0007_02.row.toRowW) s
noncomputable def Hv(P:Params):BT:=.node (boot_o_0 P) (.node (boot_o_1 P) (.node (boot_o_3 P) (.node (boot_o_7 P) .nil .nil) .nil) (.node (boot_o_5 P) (.node (boot_o_9 P) .nil .nil) .nil))
 (.node (boot_o_2 P) (.node (boot_o_4 P) (.node (boot_o_8 P) .nil .nil) .nil) (.node (boot_o_6 P) (.node (boot_o_10 P) .nil .nil) .nil))
theorem bootT_eq(P:Params):absHeap (Hv P) 11 {}=boot_heap P:=by kernel_rfl
noncomputable abbrev S(s:String):Str:=Str.ofString s
noncomputable abbrev pth:Str:=S "/claim/cut.py"
noncomputable def en(P:Params)(s:String)(k:Nat)(v:Value):DictEntry:=⟨PyData.keyHash P (S s),.str (S s) k,v⟩
noncomputable def Mz(l:List Stmt):Nat→Stmt:=List.rec (motive:=fun _=>Nat→Stmt) (fun _=>default) (fun s _ ih n=>Nat.rec (motive:=fun _=>Stmt) s (fun m _=>ih m) n) l
noncomputable def fS(i:Nat):Stmt:=Mz pw.main.body i
noncomputable def mS(i j:Nat):Stmt:=match fS i with | .ClassDef _ _ _ b ..=>Mz b j | _=>default
noncomputable def mkF(s:Stmt)(q:Str)(cl:List (Str×Addr))(dv pm code ct:Value):Obj:=match s with
 | .FunctionDef n a b _ _ _ sc _ _ _=>⟨.type "function",none,.func {name:=n,qualname:=q,params:=a,body:=.stmts b,scope:=sc,globals:=3,closure:=cl,defaults:=dv,kwdefaults:=.none,pyModule:=pm,code:=code,closureTuple:=ct},#[]⟩
 | _=>default
def o0(P:Params):Obj:=⟨.type "dict",none,.dict ⟨[en P "__name__" 1 (.str (S "builtins") 160),en P "__doc__" 2 (.builtin "builtins.__doc__:str#opaque"),en P "__package__" 3 (.builtin "builtins.__package__:str#opaque"),en P "__loader__" 4 (.builtin "builtins.__loader__:shared#opaque"),en P "__spec__" 5 (.builtin "builtins.__spec__#opaque"),en P "__build_class__" 6 (.builtin "__build_class__"),en P "__import__" 7 (.builtin "__import__"),en P "abs" 8 (.builtin "abs"),en P "all" 9 (.builtin "all"),en P "any" 10 (.builtin "any"),en P "ascii" 11 (.builtin "ascii"),en P "bin" 12 (.builtin "bin"),en P "breakpoint" 13 (.builtin "breakpoint"),en P "callable" 14 (.builtin "callable"),en P "chr" 15 (.builtin "chr"),en P "compile" 16 (.builtin "compile"),en P "delattr" 17 (.builtin "delattr"),en P "dir" 18 (.builtin "dir"),en P "divmod" 19 (.builtin "divmod"),en P "eval" 20 (.builtin "eval"),en P "exec" 21 (.builtin "exec"),en P "format" 22 (.builtin "format"),en P "getattr" 23 (.builtin "getattr"),en P "globals" 24 (.builtin "globals"),en P "hasattr" 25 (.builtin "hasattr"),en P "hash" 26 (.builtin "hash"),en P "hex" 27 (.builtin "hex"),en P "id" 28 (.builtin "id"),en P "input" 29 (.builtin "input"),en P "isinstance" 30 (.builtin "isinstance"),en P "issubclass" 31 (.builtin "issubclass"),en P "iter" 32 (.builtin "iter"),en P "aiter" 33 (.builtin "aiter"),en P "len" 34 (.builtin "len"),en P "locals" 35 (.builtin "locals"),en P "max" 36 (.builtin "max"),en P "min" 37 (.builtin "min"),en P "next" 38 (.builtin "next"),en P "anext" 39 (.builtin "anext"),en P "oct" 40 (.builtin "oct"),en P "ord" 41 (.builtin "ord"),en P "pow" 42 (.builtin "pow"),en P "print" 43 (.builtin "print"),en P "repr" 44 (.builtin "repr"),en P "round" 45 (.builtin "round"),en P "setattr" 46 (.builtin "setattr"),en P "sorted" 47 (.builtin "sorted"),en P "sum" 48 (.builtin "sum"),en P "vars" 49 (.builtin "vars"),en P "None" 50 .none,en P "Ellipsis" 51 .ellipsis,en P "NotImplemented" 52 .notImplemented,en P "False" 53 (.bool false),en P "True" 54 (.bool true),en P "bool" 55 (.type "bool"),en P "memoryview" 56 (.type "memoryview"),en P "bytearray" 57 (.type "bytearray"),en P "bytes" 58 (.type "bytes"),en P "classmethod" 59 (.type "classmethod"),en P "complex" 60 (.type "complex"),en P "dict" 61 (.type "dict"),en P "enumerate" 62 (.type "enumerate"),en P "filter" 63 (.type "filter"),en P "float" 64 (.type "float"),en P "frozenset" 65 (.type "frozenset"),en P "property" 66 (.type "property"),en P "int" 67 (.type "int"),en P "list" 68 (.type "list"),en P "map" 69 (.type "map"),en P "object" 70 (.type "object"),en P "range" 71 (.type "range"),en P "reversed" 72 (.type "reversed"),en P "set" 73 (.type "set"),en P "slice" 74 (.type "slice"),en P "staticmethod" 75 (.type "staticmethod"),en P "str" 76 (.type "str"),en P "super" 77 (.type "super"),en P "tuple" 78 (.type "tuple"),en P "type" 79 (.type "type"),en P "zip" 80 (.type "zip"),en P "__debug__" 81 (.bool true),en P "BaseException" 82 (.type "BaseException"),en P "BaseExceptionGroup" 83 (.type "BaseExceptionGroup"),en P "Exception" 84 (.type "Exception"),en P "GeneratorExit" 85 (.type "GeneratorExit"),en P "KeyboardInterrupt" 86 (.type "KeyboardInterrupt"),en P "SystemExit" 87 (.type "SystemExit"),en P "ArithmeticError" 88 (.type "ArithmeticError"),en P "AssertionError" 89 (.type "AssertionError"),en P "AttributeError" 90 (.type "AttributeError"),en P "BufferError" 91 (.type "BufferError"),en P "EOFError" 92 (.type "EOFError"),en P "ImportError" 93 (.type "ImportError"),en P "LookupError" 94 (.type "LookupError"),en P "MemoryError" 95 (.type "MemoryError"),en P "NameError" 96 (.type "NameError"),en P "OSError" 97 (.type "OSError"),en P "ReferenceError" 98 (.type "ReferenceError"),en P "RuntimeError" 99 (.type "RuntimeError"),en P "StopAsyncIteration" 100 (.type "StopAsyncIteration"),en P "StopIteration" 101 (.type "StopIteration"),en P "SyntaxError" 102 (.type "SyntaxError"),en P "SystemError" 103 (.type "SystemError"),en P "TypeError" 104 (.type "TypeError"),en P "ValueError" 105 (.type "ValueError"),en P "Warning" 106 (.type "Warning"),en P "FloatingPointError" 107 (.type "FloatingPointError"),en P "OverflowError" 108 (.type "OverflowError"),en P "ZeroDivisionError" 109 (.type "ZeroDivisionError"),en P "BytesWarning" 110 (.type "BytesWarning"),en P "DeprecationWarning" 111 (.type "DeprecationWarning"),en P "EncodingWarning" 112 (.type "EncodingWarning"),en P "FutureWarning" 113 (.type "FutureWarning"),en P "ImportWarning" 114 (.type "ImportWarning"),en P "PendingDeprecationWarning" 115 (.type "PendingDeprecationWarning"),en P "ResourceWarning" 116 (.type "ResourceWarning"),en P "RuntimeWarning" 117 (.type "RuntimeWarning"),en P "SyntaxWarning" 118 (.type "SyntaxWarning"),en P "UnicodeWarning" 119 (.type "UnicodeWarning"),en P "UserWarning" 120 (.type "UserWarning"),en P "BlockingIOError" 121 (.type "BlockingIOError"),en P "ChildProcessError" 122 (.type "ChildProcessError"),en P "ConnectionError" 123 (.type "ConnectionError"),en P "FileExistsError" 124 (.type "FileExistsError"),en P "FileNotFoundError" 125 (.type "FileNotFoundError"),en P "InterruptedError" 126 (.type "InterruptedError"),en P "IsADirectoryError" 127 (.type "IsADirectoryError"),en P "NotADirectoryError" 128 (.type "NotADirectoryError"),en P "PermissionError" 129 (.type "PermissionError"),en P "ProcessLookupError" 130 (.type "ProcessLookupError"),en P "TimeoutError" 131 (.type "TimeoutError"),en P "IndentationError" 132 (.type "IndentationError"),en P "_IncompleteInputError" 133 (.type "_IncompleteInputError"),en P "IndexError" 134 (.type "IndexError"),en P "KeyError" 135 (.type "KeyError"),en P "ModuleNotFoundError" 136 (.type "ModuleNotFoundError"),en P "NotImplementedError" 137 (.type "NotImplementedError"),en P "PythonFinalizationError" 138 (.type "PythonFinalizationError"),en P "RecursionError" 139 (.type "RecursionError"),en P "UnboundLocalError" 140 (.type "UnboundLocalError"),en P "UnicodeError" 141 (.type "UnicodeError"),en P "BrokenPipeError" 142 (.type "BrokenPipeError"),en P "ConnectionAbortedError" 143 (.type "ConnectionAbortedError"),en P "ConnectionRefusedError" 144 (.type "ConnectionRefusedError"),en P "ConnectionResetError" 145 (.type "ConnectionResetError"),en P "TabError" 146 (.type "TabError"),en P "UnicodeDecodeError" 147 (.type "UnicodeDecodeError"),en P "UnicodeEncodeError" 148 (.type "UnicodeEncodeError"),en P "UnicodeTranslateError" 149 (.type "UnicodeTranslateError"),en P "ExceptionGroup" 150 (.type "ExceptionGroup"),en P "EnvironmentError" 151 (.type "OSError"),en P "IOError" 152 (.type "OSError"),en P "open" 153 (.builtin "open"),en P "quit" 154 (.builtin "builtins.quit#opaque"),en P "exit" 155 (.builtin "builtins.exit#opaque"),en P "copyright" 156 (.builtin "builtins.copyright#opaque"),en P "credits" 157 (.builtin "builtins.credits#opaque"),en P "license" 158 (.builtin "builtins.license#opaque"),en P "help" 159 (.builtin "builtins.help#opaque")]⟩ 159,#[]⟩
def o2(P:Params):Obj:=⟨.none,none,.dict ⟨[en P "type.__subclasses__.Exception.0" 397 (.int 156 0),en P "type.__subclasses__.Exception.n" 398 (.int 1 0)]⟩ 2,#[]⟩
def o3(P:Params):Obj:=⟨.type "dict",none,.dict ⟨[en P "__name__" 165 (.str (S "law_rk0007_02") 799),en P "__doc__" 166 .none,en P "__package__" 167 .none,en P "__loader__" 168 (.builtin "__main__.__loader__#opaque"),en P "__spec__" 169 .none,en P "__annotations__" 170 (.ref 6),en P "__builtins__" 171 (.ref 4),en P "__file__" 173 (.str pth 172),en P "__cached__" 174 .none,en P "_wall" 193 (.ref 21),en P "Token" 241 (.ref 47),en P "SourceLocation" 297 (.ref 79),en P "CToken" 358 (.ref 127),en P "CompilerError" 400 (.ref 156),en P "Char" 440 (.ref 183),en P "HandLexerBase" 562 (.ref 275),en P "CLexer" 707 (.ref 390),en P "COptions" 798 (.ref 458),en P "_law_OPENERS" 806 (.ref 469),en P "_law_ENDINGS" 812 (.ref 476),en P "_law_PLAIN" 814 (.str (S "aL7'/*?@`eé0u;x8 €😀٣") 813),en P "_law_SHORT" 816 (.str (S "'\"?\\abfnrtve") 815),en P "_law_NEVER" 818 (.str (S "q8 9cAELX@é٣") 817),en P "_law_AFTER" 820 (.str (S "'\"?\\abfnrtve01234567xuU") 819),en P "_law_HEX" 822 (.str (S "0123456789abcdefABCDEF") 821),en P "_law_signs" 833 (.ref 483),en P "_law_piece" 842 (.ref 490),en P "_law_run" 852 (.ref 497),en P "_law_close" 861 (.ref 504),en P "_law_wrong" 871 (.ref 511),en P "_law_read" 884 (.ref 518),en P "law" 890 (.ref 523)]⟩ 32,#[]⟩
def o4(P:Params):Obj:=⟨.type "module",(some 0),.plain,#[]⟩
def o35(P:Params):Obj:=⟨.type "code",none,.fields ⟨[.str (S "__init__") 212,.str (S "Token.__init__") 213,.str pth 214,.int 8 0,.int 4 0,.int 0 0,.int 0 0,.int 3 0,.ref 30,.bool true,.int 181 0,.ref 31,.none,.ref 32,.ref 33,.ref 34,.int 219 0,.int 8 0,.str pth 220]⟩,#[]⟩
def o36(P:Params):Obj:=mkF (mS 2 1) (S "Token.__init__") [] .none (.str (S "ppci.lang.common") 194) (.ref 35) .none
def o46(P:Params):Obj:=⟨.type "dict",none,.dict ⟨[en P "__module__" 203 (.str (S "ppci.lang.common") 194),en P "__firstlineno__" 207 (.int 5 206),en P "__slots__" 211 (.ref 29),en P "__init__" 221 (.ref 36),en P "__repr__" 228 (.ref 43),en P "__static_attributes__" 232 (.ref 44),en P "loc" 234 (.ref 48),en P "typ" 236 (.ref 49),en P "val" 238 (.ref 50),en P "__doc__" 239 .none]⟩ 5,#[]⟩
def o47(P:Params):Obj:=⟨.type "type",none,.cls {name:=S "Token",bases:=[.type "object"],mro:=[.ref 47,.type "object"],ns:=46,qualname:=S "Token",hasDict:=false,slotNames:=[S "loc",S "typ",S "val"],subclasses:=[.ref 127],abstract:=false,collection:=none,hasDel:=false},#[none,none,some (.str (S "Token") 196),some (.str (S "Token") 204),some (.builtin "object.__new__"),some (.bool false)]⟩
def o48(P:Params):Obj:=⟨.type "member_descriptor",none,.fields ⟨[.str (S "loc") 233,.ref 47,.builtin "proto.slot",.builtin "proto.slot#set",.int 2 0]⟩,#[]⟩
def o49(P:Params):Obj:=⟨.type "member_descriptor",none,.fields ⟨[.str (S "typ") 235,.ref 47,.builtin "proto.slot",.builtin "proto.slot#set",.int 1 0]⟩,#[]⟩
def o50(P:Params):Obj:=⟨.type "member_descriptor",none,.fields ⟨[.str (S "val") 237,.ref 47,.builtin "proto.slot",.builtin "proto.slot#set",.int 0 0]⟩,#[]⟩
def o61(P:Params):Obj:=⟨.type "tuple",none,.seq ⟨[.none]⟩,#[]⟩
def o67(P:Params):Obj:=⟨.type "code",none,.fields ⟨[.str (S "__init__") 260,.str (S "SourceLocation.__init__") 261,.str pth 262,.int 19 0,.int 6 0,.int 0 0,.int 0 0,.int 3 0,.ref 62,.bool true,.int 181 0,.ref 63,.none,.ref 64,.ref 65,.ref 66,.int 269 0,.int 19 0,.str pth 270]⟩,#[]⟩
def o68(P:Params):Obj:=mkF (mS 3 1) (S "SourceLocation.__init__") [] (.ref 61) (.str (S "ppci.lang.common") 194) (.ref 67) .none
def o78(P:Params):Obj:=⟨.type "dict",none,.dict ⟨[en P "__module__" 249 (.str (S "ppci.lang.common") 194),en P "__firstlineno__" 253 (.int 16 252),en P "__slots__" 259 (.ref 60),en P "__init__" 271 (.ref 68),en P "__repr__" 278 (.ref 75),en P "__static_attributes__" 284 (.ref 76),en P "col" 286 (.ref 80),en P "filename" 288 (.ref 81),en P "length" 290 (.ref 82),en P "row" 292 (.ref 83),en P "source" 294 (.ref 84),en P "__doc__" 295 .none]⟩ 7,#[]⟩
def o79(P:Params):Obj:=⟨.type "type",none,.cls {name:=S "SourceLocation",bases:=[.type "object"],mro:=[.ref 79,.type "object"],ns:=78,qualname:=S "SourceLocation",hasDict:=false,slotNames:=[S "col",S "filename",S "length",S "row",S "source"],subclasses:=[],abstract:=false,collection:=none,hasDel:=false},#[none,none,some (.str (S "SourceLocation") 242),some (.str (S "SourceLocation") 250),some (.builtin "object.__new__"),some (.bool false)]⟩
def o80(P:Params):Obj:=⟨.type "member_descriptor",none,.fields ⟨[.str (S "col") 285,.ref 79,.builtin "proto.slot",.builtin "proto.slot#set",.int 4 0]⟩,#[]⟩
def o81(P:Params):Obj:=⟨.type "member_descriptor",none,.fields ⟨[.str (S "filename") 287,.ref 79,.builtin "proto.slot",.builtin "proto.slot#set",.int 3 0]⟩,#[]⟩
def o82(P:Params):Obj:=⟨.type "member_descriptor",none,.fields ⟨[.str (S "length") 289,.ref 79,.builtin "proto.slot",.builtin "proto.slot#set",.int 2 0]⟩,#[]⟩
def o83(P:Params):Obj:=⟨.type "member_descriptor",none,.fields ⟨[.str (S "row") 291,.ref 79,.builtin "proto.slot",.builtin "proto.slot#set",.int 1 0]⟩,#[]⟩
def o84(P:Params):Obj:=⟨.type "member_descriptor",none,.fields ⟨[.str (S "source") 293,.ref 79,.builtin "proto.slot",.builtin "proto.slot#set",.int 0 0]⟩,#[]⟩
def My(P:Params):Obj:=⟨.type "code",none,.fields ⟨[.str (S "__init__") 312,.str (S "CToken.__init__") 313,.str pth 314,.int 31 0,.int 6 0,.int 0 0,.int 0 0,.int 3 0,.ref 96,.bool true,.int 181 0,.ref 97,.none,.ref 98,.ref 99,.ref 100,.int 322 0,.int 31 0,.str pth 323]⟩,#[]⟩
def Mx(P:Params):Obj:=mkF (mS 5 0) (S "CToken.__init__") [(S "__class__",90)] .none (.str (S "ppci.lang.c.token") 298) (.ref 101) (.ref 95)
def Mw(P:Params):Obj:=⟨.type "dict",none,.dict ⟨[en P "__module__" 307 (.str (S "ppci.lang.c.token") 298),en P "__firstlineno__" 311 (.int 29 310),en P "__init__" 324 (.ref 102),en P "__repr__" 331 (.ref 109),en P "__str__" 338 (.ref 116),en P "copy" 347 (.ref 124),en P "__static_attributes__" 350 (.ref 125),en P "__dict__" 353 (.ref 128),en P "__weakref__" 355 (.ref 129),en P "__doc__" 356 .none]⟩ 5,#[]⟩
def Mv(P:Params):Obj:=⟨.type "type",none,.cls {name:=S "CToken",bases:=[.ref 47],mro:=[.ref 127,.ref 47,.type "object"],ns:=126,qualname:=S "CToken",hasDict:=true,slotNames:=[S "loc",S "typ",S "val"],subclasses:=[],abstract:=false,collection:=none,hasDel:=false},#[some (.ref 87),none,some (.str (S "CToken") 300),some (.str (S "CToken") 308),some (.builtin "object.__new__"),some (.bool true)]⟩
def Mu(P:Params):Obj:=⟨.type "tuple",none,.seq ⟨[.none,.none]⟩,#[]⟩
def Mt(P:Params):Obj:=⟨.type "code",none,.fields ⟨[.str (S "__init__") 373,.str (S "CompilerError.__init__") 374,.str pth 375,.int 47 0,.int 4 0,.int 0 0,.int 0 0,.int 3 0,.ref 140,.bool true,.int 181 0,.ref 141,.none,.ref 142,.ref 143,.ref 144,.int 380 0,.int 47 0,.str pth 381]⟩,#[]⟩
def Ms(P:Params):Obj:=mkF (mS 7 0) (S "CompilerError.__init__") [] (.ref 139) (.str (S "ppci.common") 359) (.ref 145) .none
def Mr(P:Params):Obj:=⟨.type "dict",none,.dict ⟨[en P "__module__" 368 (.str (S "ppci.common") 359),en P "__firstlineno__" 372 (.int 45 371),en P "__init__" 382 (.ref 146),en P "__repr__" 389 (.ref 153),en P "__static_attributes__" 393 (.ref 154),en P "__weakref__" 395 (.ref 157),en P "__doc__" 396 .none]⟩ 3,#[]⟩
def Mq(P:Params):Obj:=⟨.type "type",none,.cls {name:=S "CompilerError",bases:=[.type "Exception"],mro:=[.ref 156,.type "Exception",.type "BaseException",.type "object"],ns:=155,qualname:=S "CompilerError",hasDict:=true,slotNames:=[],subclasses:=[],abstract:=false,collection:=none,hasDel:=false},#[some (.ref 132),none,some (.str (S "CompilerError") 361),some (.str (S "CompilerError") 369),some (.builtin "Exception.__new__"),some (.bool true)]⟩
def Mp(P:Params):Obj:=⟨.type "code",none,.fields ⟨[.str (S "__init__") 415,.str (S "Char.__init__") 416,.str pth 417,.int 61 0,.int 3 0,.int 0 0,.int 0 0,.int 3 0,.ref 167,.bool true,.int 181 0,.ref 168,.none,.ref 169,.ref 170,.ref 171,.int 421 0,.int 61 0,.str pth 422]⟩,#[]⟩
def Mo(P:Params):Obj:=mkF (mS 9 0) (S "Char.__init__") [] .none (.str (S "ppci.lang.tools.handlexer") 401) (.ref 172) .none
def Mn(P:Params):Obj:=⟨.type "dict",none,.dict ⟨[en P "__module__" 410 (.str (S "ppci.lang.tools.handlexer") 401),en P "__firstlineno__" 414 (.int 59 413),en P "__init__" 423 (.ref 173),en P "__repr__" 430 (.ref 180),en P "__static_attributes__" 433 (.ref 181),en P "__dict__" 435 (.ref 184),en P "__weakref__" 437 (.ref 185),en P "__doc__" 438 .none]⟩ 4,#[]⟩
def Mm(P:Params):Obj:=⟨.type "type",none,.cls {name:=S "Char",bases:=[.type "object"],mro:=[.ref 183,.type "object"],ns:=182,qualname:=S "Char",hasDict:=true,slotNames:=[],subclasses:=[],abstract:=false,collection:=none,hasDel:=false},#[none,none,some (.str (S "Char") 403),some (.str (S "Char") 411),some (.builtin "object.__new__"),some (.bool true)]⟩
def Ml(P:Params):Obj:=⟨.type "code",none,.fields ⟨[.str (S "__init__") 453,.str (S "HandLexerBase.__init__") 454,.str pth 455,.int 69 0,.int 1 0,.int 0 0,.int 0 0,.int 3 0,.ref 195,.bool true,.int 181 0,.ref 196,.none,.ref 197,.ref 198,.ref 199,.int 457 0,.int 69 0,.str pth 458]⟩,#[]⟩
def Mk(P:Params):Obj:=mkF (mS 10 0) (S "HandLexerBase.__init__") [] .none (.str (S "ppci.lang.tools.handlexer") 401) (.ref 200) .none
def Mj(P:Params):Obj:=⟨.type "code",none,.fields ⟨[.str (S "tokenize") 460,.str (S "HandLexerBase.tokenize") 461,.str pth 462,.int 74 0,.int 3 0,.int 0 0,.int 0 0,.int 35 0,.ref 202,.bool true,.int 181 0,.ref 203,.none,.ref 204,.ref 205,.ref 206,.int 467 0,.int 74 0,.str pth 468]⟩,#[]⟩
def Mi(P:Params):Obj:=mkF (mS 10 1) (S "HandLexerBase.tokenize") [] .none (.str (S "ppci.lang.tools.handlexer") 401) (.ref 207) .none
def Mh(P:Params):Obj:=⟨.type "tuple",none,.seq ⟨[.bool true]⟩,#[]⟩
def Mg(P:Params):Obj:=⟨.type "code",none,.fields ⟨[.str (S "next_char") 470,.str (S "HandLexerBase.next_char") 471,.str pth 472,.int 82 0,.int 2 0,.int 0 0,.int 0 0,.int 3 0,.ref 210,.bool true,.int 181 0,.ref 211,.none,.ref 212,.ref 213,.ref 214,.int 476 0,.int 82 0,.str pth 477]⟩,#[]⟩
def Mf(P:Params):Obj:=mkF (mS 10 2) (S "HandLexerBase.next_char") [] (.ref 209) (.str (S "ppci.lang.tools.handlexer") 401) (.ref 215) .none
def Me(P:Params):Obj:=⟨.type "code",none,.fields ⟨[.str (S "backup_char") 479,.str (S "HandLexerBase.backup_char") 480,.str pth 481,.int 93 0,.int 2 0,.int 0 0,.int 0 0,.int 3 0,.ref 217,.bool true,.int 181 0,.ref 218,.none,.ref 219,.ref 220,.ref 221,.int 484 0,.int 93 0,.str pth 485]⟩,#[]⟩
def Md(P:Params):Obj:=mkF (mS 10 3) (S "HandLexerBase.backup_char") [] .none (.str (S "ppci.lang.tools.handlexer") 401) (.ref 222) .none
def Jn(P:Params):Obj:=⟨.type "code",none,.fields ⟨[.str (S "emit") 487,.str (S "HandLexerBase.emit") 488,.str pth 489,.int 98 0,.int 2 0,.int 0 0,.int 0 0,.int 3 0,.ref 224,.bool true,.int 181 0,.ref 225,.none,.ref 226,.ref 227,.ref 228,.int 495 0,.int 98 0,.str pth 496]⟩,#[]⟩
def Mc(P:Params):Obj:=mkF (mS 10 4) (S "HandLexerBase.emit") [] .none (.str (S "ppci.lang.tools.handlexer") 401) (.ref 229) .none
def Mb(P:Params):Obj:=⟨.type "code",none,.fields ⟨[.str (S "ignore") 498,.str (S "HandLexerBase.ignore") 499,.str pth 500,.int 105 0,.int 1 0,.int 0 0,.int 0 0,.int 3 0,.ref 231,.bool true,.int 181 0,.ref 232,.none,.ref 233,.ref 234,.ref 235,.int 502 0,.int 105 0,.str pth 503]⟩,#[]⟩
def Ma(P:Params):Obj:=mkF (mS 10 5) (S "HandLexerBase.ignore") [] .none (.str (S "ppci.lang.tools.handlexer") 401) (.ref 236) .none
def LZ(P:Params):Obj:=⟨.type "code",none,.fields ⟨[.str (S "accept") 505,.str (S "HandLexerBase.accept") 506,.str pth 507,.int 108 0,.int 2 0,.int 0 0,.int 0 0,.int 3 0,.ref 238,.bool true,.int 181 0,.ref 239,.none,.ref 240,.ref 241,.ref 242,.int 511 0,.int 108 0,.str pth 512]⟩,#[]⟩
def LY(P:Params):Obj:=mkF (mS 10 6) (S "HandLexerBase.accept") [] .none (.str (S "ppci.lang.tools.handlexer") 401) (.ref 243) .none
def LX(P:Params):Obj:=⟨.type "code",none,.fields ⟨[.str (S "error") 533,.str (S "HandLexerBase.error") 534,.str pth 535,.int 133 0,.int 2 0,.int 0 0,.int 0 0,.int 3 0,.ref 259,.bool true,.int 181 0,.ref 260,.none,.ref 261,.ref 262,.ref 263,.int 540 0,.int 133 0,.str pth 541]⟩,#[]⟩
def LW(P:Params):Obj:=mkF (mS 10 9) (S "HandLexerBase.error") [] .none (.str (S "ppci.lang.tools.handlexer") 401) (.ref 264) .none
def LV(P:Params):Obj:=⟨.type "code",none,.fields ⟨[.str (S "expect") 543,.str (S "HandLexerBase.expect") 544,.str pth 545,.int 138 0,.int 2 0,.int 0 0,.int 0 0,.int 3 0,.ref 266,.bool true,.int 181 0,.ref 267,.none,.ref 268,.ref 269,.ref 270,.int 548 0,.int 138 0,.str pth 549]⟩,#[]⟩
def LU(P:Params):Obj:=mkF (mS 10 10) (S "HandLexerBase.expect") [] .none (.str (S "ppci.lang.tools.handlexer") 401) (.ref 271) .none
def LT(P:Params):Obj:=⟨.type "dict",none,.dict ⟨[en P "__module__" 448 (.str (S "ppci.lang.tools.handlexer") 401),en P "__firstlineno__" 452 (.int 67 451),en P "__init__" 459 (.ref 201),en P "tokenize" 469 (.ref 208),en P "next_char" 478 (.ref 216),en P "backup_char" 486 (.ref 223),en P "emit" 497 (.ref 230),en P "ignore" 504 (.ref 237),en P "accept" 513 (.ref 244),en P "accept_run" 521 (.ref 251),en P "accept_sequence" 532 (.ref 258),en P "error" 542 (.ref 265),en P "expect" 550 (.ref 272),en P "__static_attributes__" 555 (.ref 273),en P "__dict__" 557 (.ref 276),en P "__weakref__" 559 (.ref 277),en P "__doc__" 560 .none]⟩ 4,#[]⟩
def LR(P:Params):Obj:=⟨.type "type",none,.cls {name:=S "HandLexerBase",bases:=[.type "object"],mro:=[.ref 275,.type "object"],ns:=274,qualname:=S "HandLexerBase",hasDict:=true,slotNames:=[],subclasses:=[.ref 390],abstract:=false,collection:=none,hasDel:=false},#[none,none,some (.str (S "HandLexerBase") 441),some (.str (S "HandLexerBase") 449),some (.builtin "object.__new__"),some (.bool true)]⟩
def LQ(P:Params):Obj:=⟨.type "getset_descriptor",none,.fields ⟨[.str (S "__dict__") 556,.ref 275,.builtin "function.__dict__",.builtin "function.__dict__#set"]⟩,#[]⟩
def LP(P:Params):Obj:=⟨.type "cell",none,.cell (some (.ref 390)),#[]⟩
def JI(P:Params):Obj:=⟨.type "code",none,.fields ⟨[.str (S "__init__") 589,.str (S "CLexer.__init__") 590,.str pth 591,.int 150 0,.int 2 0,.int 0 0,.int 0 0,.int 3 0,.ref 289,.bool true,.int 181 0,.ref 290,.none,.ref 291,.ref 292,.ref 293,.int 595 0,.int 150 0,.str pth 596]⟩,#[]⟩
def LO(P:Params):Obj:=mkF (mS 12 6) (S "CLexer.__init__") [(S "__class__",283)] .none (.str (S "ppci.lang.c.lexer") 563) (.ref 294) (.ref 288)
def LN(P:Params):Obj:=⟨.type "code",none,.fields ⟨[.str (S "lex_c") 627,.str (S "CLexer.lex_c") 628,.str pth 629,.int 179 0,.int 1 0,.int 0 0,.int 0 0,.int 3 0,.ref 318,.bool true,.int 181 0,.ref 319,.none,.ref 320,.ref 321,.ref 322,.int 632 0,.int 179 0,.str pth 633]⟩,#[]⟩
def LM(P:Params):Obj:=mkF (mS 12 10) (S "CLexer.lex_c") [] .none (.str (S "ppci.lang.c.lexer") 563) (.ref 323) .none
def LL(P:Params):Obj:=⟨.type "code",none,.fields ⟨[.str (S "lex_string") 680,.str (S "CLexer.lex_string") 681,.str pth 682,.int 390 0,.int 1 0,.int 0 0,.int 0 0,.int 3 0,.ref 367,.bool true,.int 181 0,.ref 368,.none,.ref 369,.ref 370,.ref 371,.int 685 0,.int 390 0,.str pth 686]⟩,#[]⟩
def LK(P:Params):Obj:=mkF (mS 12 17) (S "CLexer.lex_string") [] .none (.str (S "ppci.lang.c.lexer") 563) (.ref 372) .none
def LJ(P:Params):Obj:=⟨.type "code",none,.fields ⟨[.str (S "_handle_escape_character") 695,.str (S "CLexer._handle_escape_character") 696,.str pth 697,.int 408 0,.int 1 0,.int 0 0,.int 0 0,.int 3 0,.ref 381,.bool true,.int 181 0,.ref 382,.none,.ref 383,.ref 384,.ref 385,.int 699 0,.int 408 0,.str pth 700]⟩,#[]⟩
def LI(P:Params):Obj:=mkF (mS 12 19) (S "CLexer._handle_escape_character") [] .none (.str (S "ppci.lang.c.lexer") 563) (.ref 386) .none
def LH(P:Params):Obj:=⟨.type "dict",none,.dict ⟨[en P "__module__" 572 (.str (S "ppci.lang.c.lexer") 563),en P "__firstlineno__" 576 (.int 142 575),en P "lower_letters" 578 (.str (S "abcdefghijklmnopqrstuvwxyz") 577),en P "upper_letters" 580 (.str (S "ABCDEFGHIJKLMNOPQRSTUVWXYZ") 579),en P "binary_numbers" 582 (.str (S "01") 581),en P "octal_numbers" 584 (.str (S "01234567") 583),en P "numbers" 586 (.str (S "0123456789") 585),en P "hex_numbers" 588 (.str (S "0123456789abcdefABCDEF") 587),en P "__init__" 597 (.ref 295),en P "lex" 606 (.ref 302),en P "lex_text" 614 (.ref 309),en P "tokenize" 626 (.ref 317),en P "lex_c" 634 (.ref 324),en P "lex_identifier" 642 (.ref 331),en P "lex_number" 650 (.ref 338),en P "lex_float" 657 (.ref 345),en P "lex_whitespace" 664 (.ref 352),en P "lex_linecomment" 672 (.ref 359),en P "lex_blockcomment" 679 (.ref 366),en P "lex_string" 687 (.ref 373),en P "lex_char" 694 (.ref 380),en P "_handle_escape_character" 701 (.ref 387),en P "__static_attributes__" 703 (.ref 388),en P "__doc__" 705 .none]⟩ 3,#[]⟩
def LG(P:Params):Obj:=⟨.type "type",none,.cls {name:=S "CLexer",bases:=[.ref 275],mro:=[.ref 390,.ref 275,.type "object"],ns:=389,qualname:=S "CLexer",hasDict:=true,slotNames:=[],subclasses:=[],abstract:=false,collection:=none,hasDel:=false},#[some (.ref 280),none,some (.str (S "CLexer") 565),some (.str (S "CLexer") 573),some (.builtin "object.__new__"),some (.bool true)]⟩
def LF(P:Params):Obj:=⟨.type "code",none,.fields ⟨[.str (S "__init__") 722,.str (S "COptions.__init__") 723,.str pth 724,.int 432 0,.int 1 0,.int 0 0,.int 0 0,.int 3 0,.ref 400,.bool true,.int 181 0,.ref 401,.none,.ref 402,.ref 403,.ref 404,.int 726 0,.int 432 0,.str pth 727]⟩,#[]⟩
def LE(P:Params):Obj:=mkF (mS 14 0) (S "COptions.__init__") [] .none (.str (S "ppci.lang.c.options") 708) (.ref 405) .none
def LD(P:Params):Obj:=⟨.type "code",none,.fields ⟨[.str (S "disable") 753,.str (S "COptions.disable") 754,.str pth 755,.int 451 0,.int 2 0,.int 0 0,.int 0 0,.int 3 0,.ref 428,.bool true,.int 181 0,.ref 429,.none,.ref 430,.ref 431,.ref 432,.int 758 0,.int 451 0,.str pth 759]⟩,#[]⟩
def LC(P:Params):Obj:=mkF (mS 14 4) (S "COptions.disable") [] .none (.str (S "ppci.lang.c.options") 708) (.ref 433) .none
def LB(P:Params):Obj:=⟨.type "code",none,.fields ⟨[.str (S "set") 761,.str (S "COptions.set") 762,.str pth 763,.int 454 0,.int 3 0,.int 0 0,.int 0 0,.int 3 0,.ref 435,.bool true,.int 181 0,.ref 436,.none,.ref 437,.ref 438,.ref 439,.int 767 0,.int 454 0,.str pth 768]⟩,#[]⟩
def LA(P:Params):Obj:=mkF (mS 14 5) (S "COptions.set") [] .none (.str (S "ppci.lang.c.options") 708) (.ref 440) .none
def L9(P:Params):Obj:=⟨.type "dict",none,.dict ⟨[en P "__module__" 717 (.str (S "ppci.lang.c.options") 708),en P "__firstlineno__" 721 (.int 430 720),en P "__init__" 728 (.ref 406),en P "add_include_path" 736 (.ref 413),en P "add_include_paths" 744 (.ref 420),en P "enable" 752 (.ref 427),en P "disable" 760 (.ref 434),en P "set" 769 (.ref 441),en P "__getitem__" 777 (.ref 448),en P "add_define" 786 (.ref 455),en P "__static_attributes__" 791 (.ref 456),en P "__dict__" 793 (.ref 459),en P "__weakref__" 795 (.ref 460),en P "__doc__" 796 .none]⟩ 4,#[]⟩
def L8(P:Params):Obj:=⟨.type "type",none,.cls {name:=S "COptions",bases:=[.type "object"],mro:=[.ref 458,.type "object"],ns:=457,qualname:=S "COptions",hasDict:=true,slotNames:=[],subclasses:=[],abstract:=false,collection:=none,hasDel:=false},#[none,none,some (.str (S "COptions") 710),some (.str (S "COptions") 718),some (.builtin "object.__new__"),some (.bool true)]⟩
def L7(P:Params):Obj:=⟨.type "code",none,.fields ⟨[.str (S "_law_OPENERS") 801,.str (S "_law_OPENERS") 802,.str pth 803,.int 463 0,.int 0 0,.int 0 0,.int 0 0,.int 3 0,.ref 463,.bool true,.int 181 0,.ref 464,.none,.ref 465,.ref 466,.ref 467,.int 804 0,.int 463 0,.str pth 805]⟩,#[]⟩
def L6(P:Params):Obj:=mkF (fS 16) (S "_law_OPENERS") [] .none (.str (S "law_rk0007_02") 799) (.ref 468) .none
def L5(P:Params):Obj:=⟨.type "code",none,.fields ⟨[.str (S "_law_ENDINGS") 807,.str (S "_law_ENDINGS") 808,.str pth 809,.int 465 0,.int 0 0,.int 0 0,.int 0 0,.int 3 0,.ref 470,.bool true,.int 181 0,.ref 471,.none,.ref 472,.ref 473,.ref 474,.int 810 0,.int 465 0,.str pth 811]⟩,#[]⟩
def L0(P:Params):Obj:=mkF (fS 17) (S "_law_ENDINGS") [] .none (.str (S "law_rk0007_02") 799) (.ref 475) .none
def Lz(P:Params):Obj:=⟨.type "code",none,.fields ⟨[.str (S "_law_signs") 823,.str (S "_law_signs") 824,.str pth 825,.int 472 0,.int 3 0,.int 0 0,.int 0 0,.int 3 0,.ref 477,.bool true,.int 181 0,.ref 478,.none,.ref 479,.ref 480,.ref 481,.int 831 0,.int 472 0,.str pth 832]⟩,#[]⟩
def Ly(P:Params):Obj:=mkF (fS 23) (S "_law_signs") [] .none (.str (S "law_rk0007_02") 799) (.ref 482) .none
def Lx(P:Params):Obj:=⟨.type "code",none,.fields ⟨[.str (S "_law_piece") 834,.str (S "_law_piece") 835,.str pth 836,.int 478 0,.int 1 0,.int 0 0,.int 0 0,.int 3 0,.ref 484,.bool true,.int 181 0,.ref 485,.none,.ref 486,.ref 487,.ref 488,.int 840 0,.int 478 0,.str pth 841]⟩,#[]⟩
def Lw(P:Params):Obj:=mkF (fS 24) (S "_law_piece") [] .none (.str (S "law_rk0007_02") 799) (.ref 489) .none
def Lv(P:Params):Obj:=⟨.type "code",none,.fields ⟨[.str (S "_law_run") 843,.str (S "_law_run") 844,.str pth 845,.int 499 0,.int 3 0,.int 0 0,.int 0 0,.int 3 0,.ref 491,.bool true,.int 181 0,.ref 492,.none,.ref 493,.ref 494,.ref 495,.int 850 0,.int 499 0,.str pth 851]⟩,#[]⟩
def Lu(P:Params):Obj:=mkF (fS 25) (S "_law_run") [] .none (.str (S "law_rk0007_02") 799) (.ref 496) .none
def Lt(P:Params):Obj:=⟨.type "code",none,.fields ⟨[.str (S "_law_close") 853,.str (S "_law_close") 854,.str pth 855,.int 504 0,.int 2 0,.int 0 0,.int 0 0,.int 3 0,.ref 498,.bool true,.int 181 0,.ref 499,.none,.ref 500,.ref 501,.ref 502,.int 859 0,.int 504 0,.str pth 860]⟩,#[]⟩
def Ls(P:Params):Obj:=mkF (fS 26) (S "_law_close") [] .none (.str (S "law_rk0007_02") 799) (.ref 503) .none
def Lr(P:Params):Obj:=⟨.type "code",none,.fields ⟨[.str (S "_law_wrong") 862,.str (S "_law_wrong") 863,.str pth 864,.int 509 0,.int 3 0,.int 0 0,.int 0 0,.int 3 0,.ref 505,.bool true,.int 181 0,.ref 506,.none,.ref 507,.ref 508,.ref 509,.int 869 0,.int 509 0,.str pth 870]⟩,#[]⟩
def Lq(P:Params):Obj:=mkF (fS 27) (S "_law_wrong") [] .none (.str (S "law_rk0007_02") 799) (.ref 510) .none
def Lp(P:Params):Obj:=⟨.type "code",none,.fields ⟨[.str (S "_law_read") 872,.str (S "_law_read") 873,.str pth 874,.int 514 0,.int 2 0,.int 0 0,.int 0 0,.int 3 0,.ref 512,.bool true,.int 181 0,.ref 513,.none,.ref 514,.ref 515,.ref 516,.int 882 0,.int 514 0,.str pth 883]⟩,#[]⟩
def Lo(P:Params):Obj:=mkF (fS 28) (S "_law_read") [] .none (.str (S "law_rk0007_02") 799) (.ref 517) .none
def KQ(P:Params):Obj:=⟨.type "code",none,.fields ⟨[.str (S "law") 885,.str (S "law") 886,.str pth 887,.int 531 0,.int 1 0,.int 0 0,.int 0 0,.int 3 0,.ref 519,.bool true,.int 181 0,.ref 520,.none,.none,.none,.ref 521,.int 888 0,.int 531 0,.str pth 889]⟩,#[]⟩
def Ln(P:Params):Obj:=mkF (fS 29) (S "law") [] .none (.str (S "law_rk0007_02") 799) (.ref 522) .none
noncomputable def keysY:List Nat:=[0,2,3,4,35,36,46,47,48,49,50,61,67,68,78,79,80,81,82,83,84,101,102,126,127,139,145,146,155,156,172,173,182,183,200,201,207,208,209,215,216,222,223,229,230,236,237,243,244,264,265,271,272,274,275,276,283,294,295,323,324,372,373,386,387,389,390,405,406,433,434,440,441,457,458,468,469,475,476,482,483,489,490,496,497,503,504,510,511,517,518,522,523]
noncomputable def Jg(P:Params):Frag:=[(0,o0 P),(2,o2 P),(3,o3 P),(4,o4 P),(35,o35 P),(36,o36 P),(46,o46 P),(47,o47 P),(48,o48 P),(49,o49 P),(50,o50 P),(61,o61 P),(67,o67 P),(68,o68 P),(78,o78 P),(79,o79 P),(80,o80 P),(81,o81 P),(82,o82 P),(83,o83 P),(84,o84 P),(101,My P),(102,Mx P),(126,Mw P),(127,Mv P),(139,Mu P),(145,Mt P),(146,Ms P),(155,Mr P),(156,Mq P),(172,Mp P),(173,Mo P),(182,Mn P),(183,Mm P),(200,Ml P),(201,Mk P),(207,Mj P),(208,Mi P),(209,Mh P),(215,Mg P),(216,Mf P),(222,Me P),(223,Md P),(229,Jn P),(230,Mc P),(236,Mb P),(237,Ma P),(243,LZ P),(244,LY P),(264,LX P),(265,LW P),(271,LV P),(272,LU P),(274,LT P),(275,LR P),(276,LQ P),(283,LP P),(294,JI P),(295,LO P),(323,LN P),(324,LM P),(372,LL P),(373,LK P),(386,LJ P),(387,LI P),(389,LH P),(390,LG P),(405,LF P),(406,LE P),(433,LD P),(434,LC P),(440,LB P),(441,LA P),(457,L9 P),(458,L8 P),(468,L7 P),(469,L6 P),(475,L5 P),(476,L0 P),(482,Lz P),(483,Ly P),(489,Lx P),(490,Lw P),(496,Lv P),(497,Lu P),(503,Lt P),(504,Ls P),(510,Lr P),(511,Lq P),(517,Lp P),(518,Lo P),(522,KQ P),(523,Ln P)]
noncomputable def ktY(P:Params):KT:=.node (some (o0 P)) (.node none (.node (some (o3 P)) (.node none (.node none (.node none (.node none (.node (some (Mv P)) (.node none (.node (some (Lq P)) .nil .nil) .nil) .nil) .nil) (.node none .nil (.node (some (Md P)) .nil .nil))) (.node (some (o47 P)) (.node (some (o79 P)) (.node none (.node (some (LV P)) .nil .nil) .nil) (.node (some (Mj P)) .nil .nil)) .nil)) (.node none (.node none .nil (.node none (.node none (.node (some (LO P)) .nil .nil) .nil) .nil)) (.node none (.node none .nil (.node (some (Mg P)) .nil .nil)) (.node none (.node (some (Mm P)) .nil .nil) (.node none .nil (.node (some (Lt P)) .nil .nil)))))) (.node none (.node none (.node (some (o35 P)) (.node (some (o67 P)) (.node none .nil (.node (some (LI P)) .nil .nil)) (.node none (.node (some (LN P)) .nil .nil) .nil)) (.node none .nil (.node none .nil (.node (some (Ly P)) .nil .nil)))) (.node none (.node (some (o83 P)) (.node none (.node (some (LR P)) .nil .nil) .nil) .nil) (.node none .nil (.node (some (LZ P)) .nil .nil)))) (.node none (.node none (.node none (.node (some (Mu P)) (.node none (.node (some (Ln P)) .nil .nil) .nil) .nil) .nil) .nil) (.node none (.node none (.node (some (Mr P)) (.node (some (LP P)) .nil .nil) .nil) (.node none .nil (.node (some (L5 P)) .nil .nil))) .nil)))) (.node none (.node none (.node none .nil (.node (some (o49 P)) (.node (some (o81 P)) (.node (some (Mt P)) .nil .nil) (.node (some (Mh P)) .nil .nil)) (.node none (.node none .nil (.node (some (LD P)) .nil .nil)) (.node none .nil (.node (some (Lu P)) .nil .nil))))) (.node none (.node none (.node none (.node none (.node (some (LW P)) .nil .nil) .nil) (.node (some (Mk P)) .nil (.node (some (L9 P)) .nil .nil))) (.node none .nil (.node none .nil (.node (some (Lx P)) .nil .nil)))) (.node none .nil (.node none (.node none .nil (.node (some (LA P)) .nil .nil)) .nil)))) (.node none (.node none (.node none (.node none (.node none (.node none (.node (some (Lp P)) .nil .nil) .nil) (.node (some (LH P)) .nil .nil)) .nil) (.node (some (My P)) .nil (.node (some (Jn P)) .nil .nil))) (.node none (.node none (.node none .nil (.node (some (LF P)) .nil .nil)) (.node none .nil (.node (some (L6 P)) .nil .nil))) (.node none .nil (.node none (.node (some (LK P)) .nil .nil) .nil)))) (.node none (.node none .nil (.node none (.node (some (Mo P)) .nil .nil) (.node (some (Ma P)) .nil .nil))) (.node (some (o61 P)) .nil .nil))))) (.node (some (o2 P)) (.node (some (o4 P)) (.node none (.node none .nil (.node (some (o48 P)) (.node (some (o80 P)) (.node none (.node (some (LU P)) .nil .nil) .nil) (.node (some (Mi P)) .nil .nil)) (.node none .nil (.node none .nil (.node (some (Lv P)) .nil .nil))))) (.node none (.node none (.node none (.node none (.node (some (LX P)) .nil .nil) .nil) (.node (some (Ml P)) .nil .nil)) .nil) (.node none (.node none .nil (.node (some (Mf P)) .nil .nil)) (.node none (.node none .nil (.node (some (LB P)) .nil .nil)) (.node none .nil (.node (some (Ls P)) .nil .nil)))))) (.node none (.node none (.node (some (o36 P)) (.node (some (o68 P)) .nil (.node none (.node (some (LM P)) .nil .nil) .nil)) .nil) (.node none (.node (some (o84 P)) (.node none (.node (some (LQ P)) .nil .nil) .nil) (.node none .nil (.node (some (L7 P)) .nil .nil))) (.node none .nil (.node (some (LY P)) (.node (some (LL P)) .nil .nil) .nil)))) (.node none (.node none .nil (.node none (.node (some (Mp P)) .nil .nil) (.node (some (Mb P)) .nil .nil))) (.node none (.node none (.node (some (Mq P)) .nil .nil) (.node none .nil (.node (some (L0 P)) .nil .nil))) .nil)))) (.node none (.node none (.node none (.node none (.node none (.node none .nil (.node (some (LJ P)) .nil .nil)) .nil) (.node none .nil (.node none .nil (.node (some (Lz P)) .nil .nil)))) (.node (some (o50 P)) (.node (some (o82 P)) (.node (some (Ms P)) (.node (some (LT P)) .nil .nil) .nil) .nil) (.node none (.node none .nil (.node (some (LC P)) .nil .nil)) .nil))) (.node none (.node none (.node none (.node none (.node none (.node (some (KQ P)) .nil .nil) .nil) .nil) (.node none .nil (.node (some (L8 P)) .nil .nil))) (.node none .nil (.node none .nil (.node (some (Lw P)) .nil .nil)))) .nil)) (.node none (.node none (.node none (.node none (.node none (.node none (.node (some (Lo P)) .nil .nil) .nil) (.node (some (LG P)) .nil .nil)) .nil) (.node (some (Mx P)) (.node none (.node (some (JI P)) .nil .nil) .nil) (.node (some (Mc P)) .nil .nil))) (.node none (.node none (.node none .nil (.node (some (LE P)) .nil .nil)) .nil) (.node none (.node (some (Mn P)) .nil .nil) .nil))) (.node none (.node (some (o46 P)) (.node (some (o78 P)) .nil .nil) .nil) (.node none (.node none .nil (.node (some (Me P)) .nil .nil)) (.node (some (Mw P)) .nil (.node none .nil (.node (some (Lr P)) .nil .nil))))))))
theorem ktY_eq(P:Params):KT.of (Jg P)=ktY P:=by kernel_rfl
theorem opn02:opening pw=plainProg pw.main.scope.names:=by kernel_rfl
theorem fnc02(s:Shared):fenceModules? pw s=some s:=by kernel_rfl
theorem siz02(w:World):((boot_heap w.params).isNs mainGlobals&&(#[]:Array GenState).size == 0,(boot_heap w.params).objs.size,(boot_heap w.params).nsMap mainGlobals "__annotations__")=(true,11,some (.ref 6)):=by kernel_rfl
theorem boot_abs(w:World)(os:OsState):(⟨Hv w.params,11,{},#[],boot_drawn,boot_toks,os⟩:SharedT).abs=⟨boot_heap w.params,#[],boot_drawn,boot_toks,os⟩:=by
 show Shared.mk (absHeap (Hv w.params) 11 {}) _ _ _ _=_
 rw [bootT_eq]
theorem top_of{p:Program}{ann:Option Value}{α:Type}{w:World}{os:OsState}{t:Thread}{M:Nat}{G:Shared→α}{r:α}(h:(goQ (PySem.W.Fast.tw6613529449190102663 11 ann) (PySem.W.Fast.tw10156331382660048174 (PySem.W.Fast.tw11892475500146522536 PySem.W.Fast.tw14364793385576792824) p w) M ⟨Hv w.params,11,{},#[],boot_drawn,boot_toks,os⟩ t).map (fun s=>G s.abs)=some r) :
  (topRun treeTable p w 11 ann M ⟨boot_heap w.params,#[],boot_drawn,boot_toks,os⟩ t).map G=some r:=by
 rw [←PySem.W.Fast.te6613529449190102663,←PySem.W.Fast.te10156331382660048174,←PySem.W.Fast.te11892475500146522536,←PySem.W.Fast.te14364793385576792824] at h
 obtain⟨s',e,l⟩:=Option.map_eq_some_iff.mp h
 have r:=Hn e
 rw [boot_abs] at r
 rw [r]
 exact congrArg some l
theorem well02:PySem.Challenge.rw_rk0007_02.wellSaid=true:=by rw [PySem.W.Fast.te9446332074065402090]; kernel_rfl
noncomputable def M8:DefRec:=match defOf qv PySem.Challenge.rw_rk0007_02.row.name with | some r=>r.1 | none=>⟨default,default,default,default,default⟩
noncomputable def Gm:List Nat:=225::520::keysY
noncomputable def He(P:Params):Frag:=(225,⟨.none,none,.fields ⟨[]⟩,#[]⟩)::(520,⟨.none,none,.fields ⟨[]⟩,#[]⟩)::Jg P
theorem run_oneZ(w:World):(fun os=>(goQ (PySem.W.Fast.tw6613529449190102663 11 (some (.ref 6))) (PySem.W.Fast.tw10156331382660048174 (PySem.W.Fast.tw11892475500146522536 PySem.W.Fast.tw14364793385576792824) pw w) 3700 ⟨Hv w.params,11,{},#[],boot_drawn,boot_toks,os⟩ (topStub pw)).map
  (fun s=>(staticsOk (importedModules pw.main.body) (boot_heap w.params) s.abs.heap&&namesBound pw s.abs.heap&&gensDone s.abs&&laidKept (boot_heap w.params) s.abs.heap,
    PySem.W.Fast.tw4187177175401517315 qv EG (importedModules pw.main.body) Xt0 true s.abs,obsZ Gm s.abs)))=fun _=>some (true,openGood qv EG,valZ He 524 891 w):=by kernel_rfl
theorem left02Z:LeftO pw qv EG Xt0 (obsZ Gm) (valZ He 524 891) 7470:=
 left_one (M:=3700) (boot_open opn02 rfl fnc02) (m₀:=11) (ann:=some (.ref 6)) siz02 rfl fun w os=>by
  rw [PySem.W.Fast.te4187177175401517315]
  exact top_of (G:=fun s=>(staticsOk (importedModules pw.main.body) (boot_heap w.params) s.heap&&namesBound pw s.heap&&gensDone s&&laidKept (boot_heap w.params) s.heap,
    PySem.W.Fast.tw4187177175401517315 qv EG (importedModules pw.main.body) Xt0 true s,obsZ Gm s)) (congrFun (run_oneZ w) os)
theorem top02Z(call:WalkX qv EG (XL qv []) (obsZ Gm) (valZ He 524 891) PySem.Challenge.rw_rk0007_02.row.toRowW M8 [] fun f vs=>PySem.call f vs):PySem.Challenge.rw_rk0007_02.Holds:=by
 w_on
 refine holds_law well02 fun said=>?_
 refine holds_openX (q:=qv) (loose:=EG) (Xt:=Xt0) (XP:=XL qv []) (Yf:=obsZ Gm) (Ya:=valZ He 524 891) (d:=M8) (kwd:=[]) (N:=7470) left02Z (fun s e=>xl_of s (Bool.and_eq_true_iff.mp e).1) XL.keeps (by kernel_rfl) (by kernel_rfl) (by kernel_rfl)
  (fun s e=>recFacts_of (Bool.and_eq_true_iff.mp e).2) (by rfl) (by first | assumption | decide +kernel) (by decide +kernel) ⟨rfl,rfl,rfl,rfl,rfl,by decide +kernel⟩ ?hw call
 case hw=>w_witness2
theorem keysZ_eq(P:Params):Gm=(He P).map (·.1):=by kernel_rfl
noncomputable abbrev Led:=List (Addr×Obj)
inductive Ko where
 | tree
 | code (c:Code)
 | call (c:Code) (hd:Option Value) (k:Result→Sem PySem.Fin) (κ:Ko)
 | enter (hd:Option Value) (k:Result→Sem PySem.Fin) (κ:Ko)
structure Ans where
 r:Nat→Nat→Result
 dk:Nat:=0
 upd:List (Nat×Obj):=[]
 news:Nat→List Obj:=fun _=>[]
 grow:Nat:=0
 reads:List Nat:=[]
structure Obl where
 c:Code
 u:Nat
 d:Nat
 hd:Option Value
 pre:Led
 size:Nat
 tok:Nat
 x:Ans
inductive Out where
 | fail (why:Nat)
 | done (r:Result)
 | again (c:Code)
 | call (c:Code)
 | «at» (t:Sem PySem.Fin)
structure Res where
 out:Out
 led:Led:=[]
 m:Nat:=0
 k:Nat:=0
 ko:Ko:=.tree
 hd:Option Value:=none
 kk:Result→Sem PySem.Fin:=fun _=>.unsupported ""
 act:List Nat:=[]
 exp:List Nat:=[]
 obl:List Obl:=[]
noncomputable def B5(o:Option Obj):FuncData:=match o with
 | some ⟨_,_,.func fd,_⟩=>fd
 | _=>default
noncomputable def DJ(fd:FuncData):List Stmt:=match fd.body with | .stmts b=>b | _=>[]
noncomputable def FR(fd:FuncData)(f L:Addr)(cells:List (Str×Addr)):Env:=
 {scope:=fd.scope,locals:=L,globals:=fd.globals,cells,qual:=fd.qualname++".<locals>.",func:=some f,code:=fd.code,frame:=some L,builtins:=fd.builtins}
noncomputable def FO(look:Addr→Option Obj)(o:Option Obj):Bool:=match o with
 | some ⟨_,_,.func fd,_⟩=>!fd.scope.isCoroutine&&!fd.scope.isGenerator&&(match fd.body with | .stmts _=>true | _=>false) &&
  (match fd.code with
   | .ref c=>(match look c with
    | some ⟨.type n,_,.fields vs,_⟩=>(match vs.toList with | _::.str q _::_=>q == fd.qualname | _=>false)
    | _=>false)
   | _=>false)
 | _=>false
noncomputable def BB(fd:FuncData)(f:Addr)(args:Args):Sem PySem.Fin:=
 PySem.W.R.bindR (PySem.W.Fast.tw9782568553167038054 fd args) fun binds=>
  PySem.W.R.bindR (PySem.W.Fast.tw11113344188204177931 fd.scope fd.globals fd.closure binds (fd.qualname++".<locals>.") (some f) fd.code none fd.builtins) fun env=>
   Sem.pure (.again (.func (DJ fd) env))
structure Par where
 look:Addr→Option Obj
 den:Code→Sem PySem.Fin
 S:Setting
 hd:Option Value
 n:Nat
 t:Nat
 ro:Nat:=0
 dmax:Nat:=0
 fns:Addr→Bool:=fun _=>false
 ent:Bool:=true
noncomputable def Cn:Ko→Nat
 | .tree=>0
 | .code _=>1
 | .call _ _ _ κ=>Cn κ+1
 | .enter _ _ κ=>Cn κ+1
noncomputable def AX:Ko→Nat
 | .tree=>0
 | .code c=>c.weight
 | .call c _ _ κ=>AX κ+c.weight
 | .enter _ _ κ=>AX κ
noncomputable def AE(hd:Option Value):Ko→Option Value
 | .tree=>hd
 | .code _=>hd
 | .call _ h _ κ=>h.or (AE hd κ)
 | .enter h _ κ=>h.or (AE hd κ)
noncomputable def FW(ro:Nat):List (Nat×Obj)→Bool
 | []=>true
 | p::l=>Nat.ble ro p.1&&FW ro l
noncomputable def Fa(ro:Nat)(x:Ans):Bool:=FW ro x.upd
noncomputable def GA(hd:Option Value):Bool:=match hd with
 | none=>true
 | some v=>!decide (v=byPass)
noncomputable abbrev EA:=List Nat→List Ans→Led→Nat→Nat→Ko→Sem PySem.Fin→List Nat→List Nat→List Obl→Res
noncomputable def Aq:Led→Nat→Option (Addr×Obj)
 | [],_=>none
 | p::l,i=>match i with
  | 0=>some p
  | j+1=>Aq l j
noncomputable def Bw:Led→Nat→Obj→Led
 | [],_,_=>[]
 | p::l,i,o=>match i with
  | 0=>(p.1,o)::l
  | j+1=>p::Bw l j o
noncomputable def CC:Led→List (Nat×Obj)→Led
 | σ,[]=>σ
 | σ,p::l=>CC (Bw σ p.1 p.2) l
noncomputable def FH:Led→Nat→List Obj→Led
 | σ,_,[]=>σ
 | σ,a,o::r=>FH (σ++[(a,o)]) (a+1) r
noncomputable def FV(σ:Led)(a:Addr)(x:Ans):Led:=FH (CC σ x.upd) a (x.news a)
noncomputable def HG:List Obj→Nat
 | []=>0
 | _::l=>HG l+1
noncomputable def KS(ih:EA)(r:Result):EA:=fun hs as σ m k κ _ ac ex ob=>match κ with
 | .tree=>{out:=.done r,led:=σ,m,k,ko:=κ,act:=ac,exp:=ex,obl:=ob}
 | .code _=>{out:=.done r,led:=σ,m,k,ko:=κ,act:=ac,exp:=ex,obl:=ob}
 | .call _ _ kk κ=>ih hs as σ m k κ (kk r) ac ex ob
 | .enter _ kk κ=>ih hs as σ m k κ (kk r) ac ex ob
noncomputable def GJ(P:Par)(ih:EA)(c':Code)(hd:Option Value)(kk:Result→Sem PySem.Fin)(κ:Ko)(hs:List Nat)(as:List Ans)(σ:Led)(m k:Nat)(ac ex:List Nat)(ob:List Obl):Res:=match c' with
 | .call f args=>match f with
  | .ref a=>match P.fns a with
   | true=>match Nat.ble (AX κ) P.dmax with
    | true=>ih hs as σ m k (.enter hd kk κ) (BB (B5 (P.look a)) a args) ac ex ob
    | false=>{out:=.fail 40}
   | false=>{out:=.fail 41}
  | _=>{out:=.fail 42}
 | _=>{out:=.fail 43}
noncomputable def Ds(P:Par)(ih:EA):EA:=fun hs as σ m k κ t ac ex ob=>match t with
 | .pure fin=>match fin with
  | .done f=>KS ih (.ok f) hs as σ m k κ t ac ex ob
  | .again c'=>match κ with
   | .tree=>match c'.quiet with
    | true=>match hs with
     | []=>{out:=.again c',led:=σ,m,k,ko:=κ,act:=ac,exp:=ex,obl:=ob}
     | h::hs=>match h with
      | 0=>match P.ent with
       | true=>ih hs as σ m k (.code c') (P.den c') ac ex ob
       | false=>{out:=.fail 34}
      | _+1=>{out:=.again c',led:=σ,m,k,ko:=κ,act:=ac,exp:=ex,obl:=ob}
    | false=>{out:=.fail 33}
   | .enter hd kk κ'=>match c'.quiet with
    | true=>match hs with
     | []=>{out:=.fail 44}
     | h::hs=>match h with
      | 0=>ih hs as σ m k (.call c' hd kk κ') (P.den c') ac ex ob
      | _+1=>{out:=.fail 45}
    | false=>{out:=.fail 46}
   | .code _=>match c'.quiet with
    | true=>match hs with
     | []=>{out:=.again c',led:=σ,m,k,ko:=κ,act:=ac,exp:=ex,obl:=ob}
     | h::hs=>match h with
      | 0=>ih hs as σ m k (.code c') (P.den c') ac ex ob
      | _+1=>{out:=.again c',led:=σ,m,k,ko:=κ,act:=ac,exp:=ex,obl:=ob}
    | false=>{out:=.fail 1}
   | .call _ hd kk κ'=>match c'.quiet with
    | true=>match hs with
     | []=>{out:=.call c',led:=σ,m,k,ko:=κ',hd:=hd,kk:=kk,act:=ac,exp:=ex,obl:=ob}
     | h::hs=>match h with
      | 0=>ih hs as σ m k (.call c' hd kk κ') (P.den c') ac ex ob
      | 1=>{out:=.call c',led:=σ,m,k,ko:=κ',hd:=hd,kk:=kk,act:=ac,exp:=ex,obl:=ob}
      | 3=>GJ P ih c' hd kk κ' hs as σ m k ac ex ob
      | _=>match hd with
       | some _=>{out:=.fail 16}
       | none=>match as with
       | []=>{out:=.fail 2}
       | x::as=>match Fa P.ro x with
        | false=>{out:=.fail 17}
        | true=>ih hs as (FV σ (P.n+m) x) (m+(x.grow+HG (x.news (P.n+m)))) (k+x.dk) κ' (kk (x.r (P.n+m) (P.t+k))) ac ex
         (⟨c',Cn κ',AX κ',AE P.hd κ',σ,P.n+m,P.t+k,x⟩::ob)
    | false=>{out:=.fail 3}
 | .raise e=>KS ih (.error e) hs as σ m k κ t ac ex ob
 | .rule _ kk=>ih hs as σ m k κ (kk ()) ac ex ob
 | .at _ kk=>ih hs as σ m k κ (kk ()) ac ex ob
 | .point _ kk=>ih hs as σ m k κ (kk ()) ac ex ob
 | .ask kk=>ih hs as σ m k κ (kk P.S) ac ex ob
 | .load a _ kk=>match hs with
  | []=>{out:=.fail 4}
  | h::hs=>match h with
   | 0=>match P.look a with
    | some o=>ih hs as σ m k κ (kk o) ac ex ob
    | none=>{out:=.fail 5}
   | i+1=>match Aq σ i with
    | some p=>ih hs as σ m k κ (kk p.2) (a::ac) (p.1::ex) ob
    | none=>{out:=.fail 6}
 | .loadIfAlive a kk=>match hs with
  | []=>{out:=.fail 4}
  | h::hs=>match h with
   | 0=>match P.look a with
    | some o=>ih hs as σ m k κ (kk (some o)) ac ex ob
    | none=>{out:=.fail 5}
   | i+1=>match Aq σ i with
    | some p=>ih hs as σ m k κ (kk (some p.2)) (a::ac) (p.1::ex) ob
    | none=>{out:=.fail 6}
 | .update a _ f kk=>match hs with
  | []=>{out:=.fail 7}
  | h::hs=>match h with
   | 0=>{out:=.fail 8}
   | i+1=>match Nat.ble P.ro i with
    | false=>{out:=.fail 19}
    | true=>match Aq σ i with
     | some p=>match (f p.2).isFreed with
      | true=>{out:=.fail 9}
      | false=>ih hs as (Bw σ i (f p.2)) m k κ (kk ()) (a::ac) (p.1::ex) ob
     | none=>{out:=.fail 10}
 | .alloc o kk=>match o.isFreed with
  | true=>{out:=.fail 11}
  | false=>ih hs as (σ++[(P.n+m,o)]) (m+1) k κ (kk (P.n+m)) ac ex ob
 | .fresh kk=>ih hs as σ m (k+1) κ (kk (P.t+k)) ac ex ob
 | .handled own kk=>match own with
  | false=>ih hs as σ m k κ (kk (AE P.hd κ)) ac ex ob
  | true=>{out:=.fail 12}
 | .call c' hd _ _ kk=>match GA hd with
  | false=>{out:=.fail 13}
  | true=>match hs with
   | []=>{out:=.call c',led:=σ,m,k,ko:=κ,hd:=hd,kk:=kk,act:=ac,exp:=ex,obl:=ob}
   | h::hs=>match h with
    | 0=>ih hs as σ m k (.call c' hd kk κ) (P.den c') ac ex ob
    | 1=>{out:=.call c',led:=σ,m,k,ko:=κ,hd:=hd,kk:=kk,act:=ac,exp:=ex,obl:=ob}
    | 3=>GJ P ih c' hd kk κ hs as σ m k ac ex ob
    | _=>match hd with
     | none=>match as with
      | []=>{out:=.fail 14}
      | x::as=>match Fa P.ro x with
       | false=>{out:=.fail 18}
       | true=>ih hs as (FV σ (P.n+m) x) (m+(x.grow+HG (x.news (P.n+m)))) (k+x.dk) κ (kk (x.r (P.n+m) (P.t+k))) ac ex
         (⟨c',Cn κ,AX κ,AE P.hd κ,σ,P.n+m,P.t+k,x⟩::ob)
     | some _=>{out:=.fail 15}
 | .unsupported _=>{out:=.fail 20}
 | .finish _=>{out:=.fail 21}
 | .register ..=>{out:=.fail 22}
 | .choose ..=>{out:=.fail 23}
 | .os ..=>{out:=.fail 24}
 | .fork ..=>{out:=.fail 25}
 | .thread _=>{out:=.fail 26}
 | .await ..=>{out:=.fail 27}
 | .stack kk=>{out:=.at (.stack kk),led:=σ,m,k,ko:=κ,act:=ac,exp:=ex,obl:=ob}
 | .newGen c kk=>{out:=.at (.newGen c kk),led:=σ,m,k,ko:=κ,act:=ac,exp:=ex,obl:=ob}
 | .genState q kk=>{out:=.at (.genState q kk),led:=σ,m,k,ko:=κ,act:=ac,exp:=ex,obl:=ob}
 | .resume q r l kk=>{out:=.at (.resume q r l kk),led:=σ,m,k,ko:=κ,act:=ac,exp:=ex,obl:=ob}
 | .yield v b l kk=>{out:=.at (.yield v b l kk),led:=σ,m,k,ko:=κ,act:=ac,exp:=ex,obl:=ob}
noncomputable def run(P:Par)(fuel:Nat):EA:=
 Nat.rec (motive:=fun _=>EA) (fun _ _ σ m k κ t ac ex ob=>{out:=.at t,led:=σ,m,k,ko:=κ,act:=ac,exp:=ex,obl:=ob}) (fun _ ih=>Ds P ih) fuel
noncomputable def AV(AT A:Around):Ko→Around
 | .tree=>AT
 | .code c=>A.under c
 | .call c hd _ κ=>((AV AT A κ).mark hd).under c
 | .enter hd _ κ=>((AV AT A κ).mark hd).in1
structure Bq where
 prog:Program
 w:World
 AT:Around
 A:Around
 J:Sem PySem.Fin→Shared→Prop
 R:Result→Shared→Prop
noncomputable def GN(g:Bq)(κ:Ko)(P:Result→Shared→Prop)(c':Code)(s:Shared):Prop:=match κ with
 | .tree=>g.J (.pure (.again c')) s
 | .code _=>c'.quiet=true∧codeAny (model g.prog g.w) g.A c' g.R s
 | .call _ hd _ κ'=>c'.quiet=true∧codeAny (model g.prog g.w) ((AV g.AT g.A κ').mark hd) c' P s
 | .enter hd _ κ'=>s.heap.NoLimit∧c'.quiet=true∧codeAny (model g.prog g.w) ((AV g.AT g.A κ').mark hd) c' P s
noncomputable def finK(g:Bq)(κ:Ko)(P:Result→Shared→Prop)(fin:PySem.Fin)(s:Shared):Prop:=match fin with
 | .done f=>P (.ok f) s
 | .again c'=>GN g κ P c' s
noncomputable def La(P:Result→Shared→Prop)(e:Value)(s:Shared):Prop:=P (.error e) s
noncomputable def HC(g:Bq)(κ:Ko)(P:Result→Shared→Prop)(t:Sem PySem.Fin)(s:Shared):Prop:=match κ with
 | .tree=>g.J t s
 | κ=>wpAny (model g.prog g.w) (AV g.AT g.A κ) t (finK g κ P) (La P) s
noncomputable def DZ(g:Bq):Ko→Result→Shared→Prop
 | .tree=>fun r s=>g.J (leafOf r) s
 | .code _=>g.R
 | .enter _ k κ=>fun r s=>HC g κ (DZ g κ) (k r) s
 | .call _ _ k κ=>fun r s=>HC g κ (DZ g κ) (k r) s
noncomputable def Bn(g:Bq)(κ:Ko)(t:Sem PySem.Fin)(s:Shared):Prop:=HC g κ (DZ g κ) t s
structure By(a b:Array GenState):Prop where
 keep:∀ (i:Nat) (x:GenState),a[i]? = some x→b[i]? = some x
 bare:∀ (i:Nat) (x:GenState),b[i]? = some x→a[i]? = some x∨x.bare=true
theorem By.refl(a:Array GenState):By a a:=⟨fun _ _ e=>e,fun _ _ e=>.inl e⟩
theorem By.trans{a b c:Array GenState}(x:By a b)(y:By b c):By a c:=⟨fun i g e=>y.keep i g (x.keep i g e),fun i g e=>(y.bare i g e).elim (x.bare i g) .inr⟩
structure Inv(look:Addr→Option Obj)(ro:Nat)(s₀:Shared)(D:List Addr)(σ:Led)(N T:Nat)(s:Shared):Prop where
 same:s={s₀ with heap:=s.heap,toks:=s.toks}
 toks:s.toks=T
 own:∀ p∈σ,s.heap.get? p.1=some p.2
 nd:(σ.map (·.1)).Nodup
 size:s.heap.objs.size=N
 stat:∀ a o,look a=some o→s.heap.get? a=some o
 apart:∀ i p,Aq σ i=some p→ro≤i→look p.1=none
 keep:∀ b o,s₀.heap.get? b=some o→b∉D→s.heap.get? b=some o
 mine:∀ i p,Aq σ i=some p→ro≤i→p.1∈D∨s₀.heap.objs.size≤p.1
 top:s₀.heap.objs.size≤N
structure Cx(P:Par)(g:Bq):Prop where
 den:P.den=denote table
 S:P.S=⟨g.prog,g.w.params⟩
 hd:P.hd=g.A.handled
 hdT:P.hd=g.AT.handled
 new:∀ a,P.n≤a→P.look a=none
 nolim:∀ h:Heap,(∀ a o,P.look a=some o→h.get? a=some o)→h.NoLimit
 fns:∀ a,P.fns a=true→FO P.look (P.look a)=true
 dmax:∀ a,P.fns a=true→max g.AT.depth g.A.depth+P.dmax<recursionLimit
 bind:∀ {α:Type} (m:Sem α) (K:α→Sem PySem.Fin) s,wpAny (model g.prog g.w) g.AT m (fun a s'=>g.J (K a) s') (fun e s'=>g.J (.raise e) s') s→g.J (m >>= K) s
 enter:P.ent=true→∀ c s,(∀ a o,P.look a=some o→s.heap.get? a=some o)→c.quiet=true→codeAny (model g.prog g.w) g.A c g.R s→g.J (.pure (.again c)) s
noncomputable def Hz(P:Par)(g:Bq)(o:Obl):Prop:=
 P.n≤o.size→∀ A s₀ D s R,A.units≤max g.AT.units g.A.units+10*o.u→A.depth≤max g.AT.depth g.A.depth+o.d→A.handled=o.hd→Inv P.look P.ro s₀ D o.pre o.size o.tok s→
  (∀ s',Inv P.look P.ro s₀ D (FV o.pre o.size o.x) (o.size+(o.x.grow+HG (o.x.news o.size))) (o.tok+o.x.dk) s'→R (o.x.r o.size o.tok) s')→
  codeAny (model g.prog g.w) A o.c R s
noncomputable def Fb(P:Par)(g:Bq)(R:Res)(s:Shared):Prop:=match R.out with
 | .fail _=>False
 | .done r=>DZ g R.ko r s
 | .again c'=>GN g R.ko (DZ g R.ko) c' s
 | .at t=>Bn g R.ko t s
 | .call c'=>codeAny (model g.prog g.w) ((AV g.AT g.A R.ko).mark R.hd) c' (fun r s'=>Bn g R.ko (R.kk r) s') s
theorem BW(AT A:Around)(e:AT.handled=A.handled):∀ κ,(AV AT A κ).handled=AE A.handled κ
 | .tree=>e
 | .code _=>rfl
 | .call _ h _ κ=>by
  show(((AV AT A κ).mark h).under _).handled=_
  show h.or (AV AT A κ).handled=h.or (AE A.handled κ)
  rw [BW AT A e κ]
 | .enter h _ κ=>by
  show h.or (AV AT A κ).handled=h.or (AE A.handled κ)
  rw [BW AT A e κ]
theorem CH(AT A:Around):∀ κ,(AV AT A κ).depth≤max AT.depth A.depth+AX κ
 | .tree=>by show AT.depth≤_+0; exact ω1
 | .code c=>by show A.depth+c.weight≤_+c.weight; exact ω2
 | .call c h _ κ=>by
  have:=CH AT A κ
  show(AV AT A κ).depth+c.weight≤_+(AX κ+c.weight)
  exact ω3 this
 | .enter h _ κ=>CH AT A κ
theorem frs(b:Bool):(if b=true then 1 else 0)≤3:=by cases b <;> decide
theorem dle{p:Prop}{_:Decidable p}{f:p→Nat}{g:¬p→Nat}(h:∀ q,f q≤3)(k:∀ q,g q≤3):dite p f g≤3:=by
 by_cases q:p
 ·rw [dif_pos q]; exact h q
 ·rw [dif_neg q]; exact k q
theorem frames_le(c:Code):c.frames≤3:=by
 cases c with
 | builtin s a=>
  delta Code.frames Code.frames.match_1
  dsimp only
  repeat (refine dle (fun q=>by subst q; decide) fun _=>?_)
  exact frs _
 | _=>delta Code.frames Code.frames.match_1; exact frs _
theorem BD(c:Code):c.cUnits≤10:=by
 have:=frames_le c
 cases c with
 | builtin s a=>exact(show 1+3*Code.frames (.builtin s a)≤10 from ω4 this)
 | call f a=>exact(show 1≤10 by decide)
 | _=>exact ιT (Nat.mul_le_mul_left 3 this) (by decide)
theorem De(AT A:Around):∀ κ,(AV AT A κ).units≤max AT.units A.units+10*Cn κ
 | .tree=>by show AT.units≤_+10*0; exact ω5
 | .code c=>by
  show A.units+c.cUnits≤max AT.units A.units+10*1
  have:=BD c; exact ω6 this
 | .call c h _ κ=>by
  have ih:=De AT A κ
  show(AV AT A κ).units+c.cUnits≤max AT.units A.units+10*(Cn κ+1)
  have:=BD c; exact ω7 ih this
 | .enter h _ κ=>by
  have ih:=De AT A κ
  show(AV AT A κ).units+1≤max AT.units A.units+10*(Cn κ+1)
  exact ω8 ih
theorem Bx{σ:Led}:∀ {i:Nat} {p:Addr×Obj},Aq σ i=some p→p∈σ:=by
 induction σ with
 | nil=>intro i p h; simp [Aq] at h
 | cons x l ih=>
  intro i p h
  cases i with
  | zero=>simp only [Aq,Option.some.injEq] at h; rw [←h]; exact List.mem_cons_self
  | succ i=>simp only [Aq] at h; exact List.mem_cons_of_mem _ (ih h)
theorem Ej(σ:Led):∀ (i:Nat) (o:Obj),(Bw σ i o).map (·.1)=σ.map (·.1):=by
 induction σ with
 | nil=>intro i o; rfl
 | cons x l ih=>
  intro i o
  cases i with
  | zero=>rfl
  | succ i=>simp only [Bw,List.map_cons,ih]
theorem Cm{σ τ:Led}:∀ {i:Nat} {p:Addr×Obj},Aq (σ++τ) i=some p→Aq σ i=some p∨p∈τ:=by
 induction σ with
 | nil=>intro i p h; exact .inr (Bx h)
 | cons x l ih=>
  intro i p h
  cases i with
  | zero=>exact .inl h
  | succ i=>exact ih (i:=i) h
theorem Do{σ:Led}:∀ {i j:Nat} {o:Obj} {p:Addr×Obj},Aq (Bw σ i o) j=some p→∃ q,Aq σ j=some q∧q.1=p.1:=by
 induction σ with
 | nil=>intro i j o p h; simp [Bw,Aq] at h
 | cons x l ih=>
  intro i j o p h
  cases i with
  | zero=>
   cases j with
   | zero=>simp only [Bw,Aq,Option.some.injEq] at h; exact⟨x,rfl,by rw [←h]⟩
   | succ j=>exact⟨p,h,rfl⟩
  | succ i=>
   cases j with
   | zero=>exact⟨p,h,rfl⟩
   | succ j=>exact ih h
theorem FG{σ:Led}:∀ {i:Nat} {p:Addr×Obj} {o:Obj} {q:Addr×Obj},Aq σ i=some p→(σ.map (·.1)).Nodup→q∈Bw σ i o→q=(p.1,o)∨(q∈σ∧q.1≠p.1):=by
 induction σ with
 | nil=>intro i p o q h; simp [Aq] at h
 | cons x l ih=>
  intro i p o q h hn hq
  rw [List.map_cons,List.nodup_cons] at hn
  cases i with
  | zero=>
   simp only [Aq,Option.some.injEq] at h
   subst h
   simp only [Bw] at hq
   rcases ιC hq with e | hq
   ·exact .inl e
   ·exact .inr ⟨List.mem_cons_of_mem _ hq,fun e=>hn.1 (e▸List.mem_map_of_mem hq)⟩
  | succ i=>
   simp only [Aq] at h
   simp only [Bw] at hq
   rcases ιC hq with e | hq
   ·subst e
    exact .inr ⟨List.mem_cons_self,fun e=>hn.1 (e▸List.mem_map_of_mem (Bx h))⟩
   ·rcases ih h hn.2 hq with e | ⟨e,n⟩
    ·exact .inl e
    ·exact .inr ⟨List.mem_cons_of_mem _ e,n⟩
theorem smO{a b:Shared}(d:b.drawn=a.drawn)(o:b.os=a.os):b={a with heap:=b.heap,toks:=b.toks,gens:=b.gens}:=by
 cases a; cases b; cases d; cases o; rfl
theorem smd{a b:Shared}(h:b={a with heap:=b.heap,toks:=b.toks,gens:=b.gens}):b.drawn=a.drawn:=(congrArg Shared.drawn h :)
theorem smo{a b:Shared}(h:b={a with heap:=b.heap,toks:=b.toks,gens:=b.gens}):b.os=a.os:=(congrArg Shared.os h :)
theorem smV{a b a' b':Shared}(h:b={a with heap:=b.heap,toks:=b.toks,gens:=b.gens})(p:b'.drawn=b.drawn)(q:a.drawn=a'.drawn)(r:b'.os=b.os)(s:a.os=a'.os):b'={a' with heap:=b'.heap,toks:=b'.toks,gens:=b'.gens}:=
 smO (p.trans ((smd h).trans q)) (r.trans ((smo h).trans s))
theorem smT{a b c:Shared}(h:b={a with heap:=b.heap,toks:=b.toks,gens:=b.gens})(k:c={b with heap:=c.heap,toks:=c.toks,gens:=c.gens}):c={a with heap:=c.heap,toks:=c.toks,gens:=c.gens}:=
 smO ((smd k).trans (smd h)) ((smo k).trans (smo h))
section
variable{look:Addr→Option Obj}{ro:Nat}{s₀:Shared}{D:List Addr}{σ:Led}{N T:Nat}{s:Shared}
theorem Inv.tok(I:Inv look ro s₀ D σ N T s):Inv look ro s₀ D σ N (T+1) {s with toks:=s.toks+1} where
 same:=by
  have h:=I.same
  cases s; cases s₀
  simp only [Shared.mk.injEq] at h ⊢
  exact⟨trivial,h.2.1,h.2.2.1,trivial,h.2.2.2.2⟩
 toks:=by show s.toks+1=_; rw [I.toks]
 own:=I.own
 nd:=I.nd
 size:=I.size
 stat:=I.stat
 apart:=I.apart
 keep:=I.keep
 mine:=I.mine
 top:=I.top
theorem Inv.alloc(I:Inv look ro s₀ D σ N T s){o:Obj}(hf:o.isFreed=false)(hn:look N=none):Inv look ro s₀ D (σ++[(N,o)]) (N+1) T {s with heap:=s.heap.push o} where
 same:=by
  have h:=I.same
  cases s; cases s₀
  simp only [Shared.mk.injEq] at h ⊢
  exact⟨trivial,h.2.1,h.2.2.1,trivial,h.2.2.2.2⟩
 toks:=I.toks
 own:=fun p hp=>by
  rcases ιM hp with hp | hp
  ·exact Heap.get?_push_of_some _ (I.own p hp)
  ·obtain rfl:=ιS hp
   have:=Heap.get?_push_size s.heap hf
   rw [I.size] at this
   exact this
 nd:=by
  rw [List.map_append,List.nodup_append]
  refine⟨I.nd,by simp,fun a ha b hb=>?_⟩
  obtain⟨p,hp,rfl⟩:=List.mem_map.mp ha
  obtain rfl:b=N:=by simpa using hb
  have:=ιH (I.own p hp)
  rw [I.size] at this
  exact Nat.ne_of_lt this
 size:=by show(s.heap.push o).objs.size=_; rw [Heap.size_push,I.size]
 stat:=fun a o' e=>Heap.get?_push_of_some _ (I.stat a o' e)
 apart:=fun i p hp hr=>by
  rcases Cm hp with hp | hp
  ·exact I.apart i p hp hr
  ·obtain rfl:=ιS hp; exact hn
 keep:=fun b o' e hb=>Heap.get?_push_of_some _ (I.keep b o' e hb)
 mine:=fun i p hp hr=>by
  rcases Cm hp with hp | hp
  ·exact I.mine i p hp hr
  ·obtain rfl:=ιS hp; exact .inr I.top
 top:=Nat.le_succ_of_le I.top
theorem Inv.update(I:Inv look ro s₀ D σ N T s){i:Nat}{p:Addr×Obj}{f:Obj→Obj}(hr:ro≤i)(hi:Aq σ i=some p)(hf:(f p.2).isFreed=false):Inv look ro s₀ D (Bw σ i (f p.2)) N T {s with heap:=s.heap.update p.1 f} where
 same:=by
  have h:=I.same
  cases s; cases s₀
  simp only [Shared.mk.injEq] at h ⊢
  exact⟨trivial,h.2.1,h.2.2.1,trivial,h.2.2.2.2⟩
 toks:=I.toks
 own:=fun q hq=>by
  rcases FG hi I.nd hq with rfl | ⟨hq,hne⟩
  ·exact Heap.get?_update_self f (I.own p (Bx hi)) hf
  ·exact(Heap.get?_update_other s.heap f (Ne.symm hne)).trans (I.own q hq)
 nd:=by rw [Ej]; exact I.nd
 size:=by show(s.heap.update p.1 f).objs.size=_; rw [Heap.size_update,I.size]
 stat:=fun a o e=>(Heap.get?_update_other s.heap f (fun q=>by rw [←q,I.apart i p hi hr] at e; cases e)).trans (I.stat a o e)
 apart:=fun j q hq hj=>by
  obtain⟨q',hq',e⟩:=Do hq
  rw [←e]; exact I.apart j q' hq' hj
 keep:=fun b o e hb=>by
  refine(Heap.get?_update_other s.heap f fun q=>?_).trans (I.keep b o e hb)
  subst q
  rcases I.mine i p hi hr with h | h
  ·exact hb h
  ·exact Nat.lt_irrefl _ (ιL (ιH e) h)
 mine:=fun j q hq hj=>by
  obtain⟨q',hq',e⟩:=Do hq
  rw [←e]; exact I.mine j q' hq' hj
 top:=I.top
end
theorem BL{M:Model}{A:Around}{α β:Type}{m:Sem α}{f:α→Sem β}{Q:β→Shared→Prop}{E:Value→Shared→Prop}{s:Shared}
  (h:wpAny M A m (fun a s'=>wpAny M A (f a) Q E s') (fun e s'=>wpAny M A (.raise e:Sem β) Q E s') s):wpAny M A (m >>= f) Q E s:=fun Γ p hΓ=>by
 rw [Sem.wp_bind']
 exact Sem.wp_mono M Γ m (fun a p' s' h'=>h' Γ p' hΓ) (fun e p' s' h'=>h' Γ p' hΓ) p s (h Γ p hΓ)
theorem Bn.bind{P:Par}{g:Bq}(O:Cx P g){α:Type}{κ:Ko}(m:Sem α)(K:α→Sem PySem.Fin){s:Shared}
  (h:wpAny (model g.prog g.w) (AV g.AT g.A κ) m (fun a s'=>Bn g κ (K a) s') (fun e s'=>Bn g κ (.raise e) s') s):Bn g κ (m >>= K) s:=by
 cases κ with
 | tree=>exact O.bind m K s h
 | code c=>exact BL h
 | call c hd k κ=>exact BL h
 | enter hd k κ=>exact BL h
theorem okMark_ne{hd:Option Value}(h:GA hd=true):hd≠some byPass:=by
 rintro rfl
 simp [GA] at h
noncomputable def Out.bad:Out→Bool
 | .fail _=>true
 | _=>false
noncomputable def Ap(P:Par)(g:Bq)(σ:Led)(m k:Nat)(κ:Ko)(t:Sem PySem.Fin)(ac ex:List Nat)(ob:List Obl)(R:Res):Prop:=
 R.out.bad=false→∃ pa pe po,R.act=pa++ac∧R.exp=pe++ex∧pa.length=pe.length∧R.obl=po++ob∧
  (pa=pe→(∀ o∈po,Hz P g o)→∀ s₀ D s,Inv P.look P.ro s₀ D σ (P.n+m) (P.t+k) s→
   (∀ s',Inv P.look P.ro s₀ D R.led (P.n+R.m) (P.t+R.k) s'→Fb P g R s')→Bn g κ t s)
section
variable{P:Par}{g:Bq}{σ σ':Led}{m m' k k':Nat}{κ κ':Ko}{t t':Sem PySem.Fin}{ac ex:List Nat}{ob:List Obl}{R:Res}
theorem Ap.step(h:Ap P g σ' m' k' κ' t' ac ex ob R)
  (f:∀ s₀ D s,Inv P.look P.ro s₀ D σ (P.n+m) (P.t+k) s→(∀ s',Inv P.look P.ro s₀ D σ' (P.n+m') (P.t+k') s'→Bn g κ' t' s')→Bn g κ t s) :
  Ap P g σ m k κ t ac ex ob R:=fun hb=>by
 obtain⟨pa,pe,po,e1,e2,e3,e4,H⟩:=h hb
 exact⟨pa,pe,po,e1,e2,e3,e4,fun hp ho s₀ D s I hE=>f s₀ D s I fun s' I'=>H hp ho s₀ D s' I' hE⟩
theorem Ap.look{a b:Nat}(h:Ap P g σ' m' k' κ' t' (a::ac) (b::ex) ob R)
  (f:a=b→∀ s₀ D s,Inv P.look P.ro s₀ D σ (P.n+m) (P.t+k) s→(∀ s',Inv P.look P.ro s₀ D σ' (P.n+m') (P.t+k') s'→Bn g κ' t' s')→Bn g κ t s) :
  Ap P g σ m k κ t ac ex ob R:=fun hb=>by
 obtain⟨pa,pe,po,e1,e2,e3,e4,H⟩:=h hb
 refine⟨pa++[a],pe++[b],po,by simp [e1],by simp [e2],by simp [e3],e4,fun hp ho s₀ D s I hE=>?_⟩
 obtain⟨h1,h2⟩:=List.append_inj hp e3
 exact f (by simpa using h2) s₀ D s I fun s' I'=>H h1 ho s₀ D s' I' hE
theorem Ap.obl{o:Obl}(h:Ap P g σ' m' k' κ' t' ac ex (o::ob) R)
  (f:Hz P g o→∀ s₀ D s,Inv P.look P.ro s₀ D σ (P.n+m) (P.t+k) s→(∀ s',Inv P.look P.ro s₀ D σ' (P.n+m') (P.t+k') s'→Bn g κ' t' s')→Bn g κ t s) :
  Ap P g σ m k κ t ac ex ob R:=fun hb=>by
 obtain⟨pa,pe,po,e1,e2,e3,e4,H⟩:=h hb
 exact⟨pa,pe,po++[o],e1,e2,e3,by simp [e4],fun hp ho s₀ D s I hE=>
  f (ho o (by simp)) s₀ D s I fun s' I'=>H hp (fun x hx=>ho x (List.mem_append_left _ hx)) s₀ D s' I' hE⟩
theorem Ap.end(e1:R.act=ac)(e2:R.exp=ex)(e3:R.obl=ob)
  (f:∀ s₀ D s,Inv P.look P.ro s₀ D σ (P.n+m) (P.t+k) s→(∀ s',Inv P.look P.ro s₀ D R.led (P.n+R.m) (P.t+R.k) s'→Fb P g R s')→Bn g κ t s) :
  Ap P g σ m k κ t ac ex ob R:=fun _=>⟨[],[],[],e1,e2,rfl,e3,fun _ _ s₀ D s I hE=>f s₀ D s I hE⟩
theorem Ap.bad(h:R.out.bad=true):Ap P g σ m k κ t ac ex ob R:=fun hb=>by rw [h] at hb; cases hb
end
theorem Db{look:Addr→Option Obj}{h:Heap}(hs:∀ a o,look a=some o→h.get? a=some o){o:Option Obj}(e:FO look o=true) :
  ∃ c d fd sl,o=some ⟨c,d,.func fd,sl⟩∧fd.scope.isCoroutine=false∧fd.scope.isGenerator=false∧fd.body=.stmts (DJ fd)∧h.CodeRec fd.code fd.qualname:=by
 unfold FO at e
 split at e
 ·rename_i c d fd sl
  simp only [Bool.and_eq_true,Bool.not_eq_true'] at e
  obtain⟨⟨⟨e1,e2⟩,e3⟩,e4⟩:=e
  refine⟨c,d,fd,sl,rfl,e1,e2,?_,?_⟩
  ·unfold DJ; split at e3
   ·rename_i b hb; rw [hb]
   ·cases e3
  ·split at e4
   ·rename_i cc hc
    split at e4
    ·rename_i n d' vs sl' hl
     split at e4
     ·rename_i x q t r hv
      have:q=fd.qualname:=by simpa using e4
      subst this
      exact⟨cc,_,vs,t,hc,hs _ _ hl,rfl,by rw [←Array.getElem?_toList,hv]; rfl⟩
     ·cases e4
    ·cases e4
   ·cases e4
 ·cases e
theorem EM(fd:FuncData)(f:Addr)(args:Args):BB fd f args =
  (bindArgs fd args >>= fun binds=>newFunctionEnv fd.scope fd.globals fd.closure binds (fd.qualname++".<locals>.") (some f) fd.code none fd.builtins >>= fun env=>pure (PySem.Fin.again (.func (DJ fd) env))):=by
 unfold BB
 rw [←PySem.W.R.bindR_eq,←PySem.W.Fast.te9782568553167038054,←PySem.W.Fast.te11113344188204177931]
 rfl
noncomputable def Sim{α:Type}(M:Model)(A:Around)(t:Sem α)(Q:α→Shared→Prop){β:Type}(t':Sem β)(Q':β→Shared→Prop)(E:Value→Shared→Prop):Prop:=
 ∀ Γ p s,Γ.In A→Sem.wp M Γ t (fun a _ s'=>Q a s') (fun e _ s'=>E e s') p s→Sem.wp M Γ t' (fun a _ s'=>Q' a s') (fun e _ s'=>E e s') p s
theorem Sim.bind{α β γ:Type}{M:Model}{A:Around}{m:Sem α}{k:α→Sem β}{k':α→Sem γ}{Q:β→Shared→Prop}{Q':γ→Shared→Prop}{E:Value→Shared→Prop}
  (h:∀ x,Sim M A (k x) Q (k' x) Q' E):Sim M A (m >>= k) Q (m >>= k') Q' E:=fun Γ p s hΓ hw=>by
 rw [Sem.wp_bind'] at hw ⊢
 exact Sem.wp_mono M Γ m (fun a p' s' h'=>h a Γ p' s' hΓ h') (fun _ _ _ h'=>h') p s hw
theorem Sim.to{α β:Type}{M:Model}{A:Around}{t:Sem α}{Q:α→Shared→Prop}{t':Sem β}{Q':β→Shared→Prop}{E:Value→Shared→Prop}(h:Sim M A t Q t' Q' E){s:Shared}(hw:wpAny M A t Q E s):wpAny M A t' Q' E s:=
 fun Γ p hΓ=>h Γ p s hΓ (hw Γ p hΓ)
theorem Sim.pure{α β:Type}{M:Model}{A:Around}{a:α}{Q:α→Shared→Prop}{t':Sem β}{Q':β→Shared→Prop}{E:Value→Shared→Prop}(h:∀ s,Q a s→wpAny M A t' Q' E s):Sim M A (pure a) Q t' Q' E:=
 fun Γ p s hΓ hw=>h s hw Γ p hΓ
noncomputable def Gu(g:Bq)(A:Around)(R:Result→Shared→Prop)(fin:PySem.Fin)(s':Shared):Prop:=match fin with
 | .done r=>R (.ok r) s'
 | .again c'=>s'.heap.NoLimit∧c'.quiet=true∧codeAny (model g.prog g.w) A c' R s'
theorem enter_code{g:Bq}{A:Around}{look:Addr→Option Obj}{f:Addr}{args:Args}{s:Shared}{R:Result→Shared→Prop}(hs:∀ a o,look a=some o→s.heap.get? a=some o)(hf:FO look (look f)=true)(hroom:A.depth<recursionLimit)
  (h:wpAny (model g.prog g.w) A.in1 (BB (B5 (look f)) f args) (Gu g A R) (La R) s) :
  codeAny (model g.prog g.w) A (.call (.ref f) args) R s:=by
 obtain⟨c,d,fd,sl,e,hco,hgen,hbody,hcd⟩:=Db hs hf
 have ho:=hs _ _ e
 rw [e] at h
 change wpAny _ _ (BB fd f args) _ _ s at h
 rw [EM] at h
 refine codeAny_of_tree ?_
 show wpAny _ A.in1 (callAny (.ref f) args) _ _ s
 simp only [callAny]
 refine wpAny_bind (wpAny_load ho ?_)
 obtain⟨cc,oc,vs,tq,hc,hoc,hdc,hq⟩:=hcd
 simp only [callFunction,hco,hgen,hbody,hc]
 refine wpAny_bind (m:=field (.ref cc) 1) (wpAny_field hoc hdc hq (wpAny_bind (ιp ?_)))
 refine Sim.to (Q:=Gu g A R) (E:=La R) (Sim.bind fun binds=>Sim.bind fun env=>Sim.pure fun s' hq=>?_) (by rw [hc] at h; exact h)
 obtain⟨hn,hqt,hcode⟩:=hq
 exact wpAny_bind (wpAny_enterFrame hn hroom (ιp ⟨rfl,hcode⟩))
theorem E5{P:Par}{g:Bq}(O:Cx P g){ih:EA}(IH:∀ hs as σ m k κ t ac ex ob,Ap P g σ m k κ t ac ex ob (ih hs as σ m k κ t ac ex ob))(c' hd kk κ hs as σ m k ac ex ob){κ':Ko}{t:Sem PySem.Fin}
  (key:∀ s,codeAny (model g.prog g.w) ((AV g.AT g.A κ).mark hd) c' (fun r s'=>Bn g κ (kk r) s') s→Bn g κ' t s) :
  Ap P g σ m k κ' t ac ex ob (GJ P ih c' hd kk κ hs as σ m k ac ex ob):=by
 unfold GJ
 split
 ·split
  ·rename_i args f0 a
   cases hf:P.fns a with
   | false=>exact Ap.bad rfl
   | true=>
    dsimp only
    cases hd':Nat.ble (AX κ) P.dmax with
    | false=>exact Ap.bad rfl
    | true=>
     dsimp only
     refine(IH hs as σ m k (.enter hd kk κ) (BB (B5 (P.look a)) a args) ac ex ob).step fun s₀ D s I h=>key s ?_
     have hle:=Nat.le_of_ble_eq_true hd'
     have hdep:=CH g.AT g.A κ
     have hmx:=O.dmax a hf
     refine enter_code (g:=g) I.stat (O.fns a hf) (by show(AV g.AT g.A κ).depth<recursionLimit; exact ω9 hle hdep hmx) ?_
     refine wpAny_mono (h s I) (fun fin s' hq=>?_) fun e s' he=>he
     cases fin with
     | done r=>exact hq
     | again c=>exact hq
  ·exact Ap.bad rfl
 ·exact Ap.bad rfl
section
variable{P:Par}{g:Bq}(O:Cx P g){ih:EA}
 (IH:∀ hs as σ m k κ t ac ex ob,Ap P g σ m k κ t ac ex ob (ih hs as σ m k κ t ac ex ob))
include IH
theorem FI(r:Result)(hs as σ m k κ t ac ex ob)(ht:t=leafOf r):Ap P g σ m k κ t ac ex ob (KS ih r hs as σ m k κ t ac ex ob):=by
 have key:∀ s,DZ g κ r s→Bn g κ t s:=fun s h=>by
  subst ht
  cases κ with
  | tree=>exact h
  | code c=>cases r with
   | ok f=>exact ιp h
   | error e=>exact wpAny_throw h
  | call c hd k κ=>cases r with
   | ok f=>exact ιp h
   | error e=>exact wpAny_throw h
  | enter hd k κ=>cases r with
   | ok f=>exact ιp h
   | error e=>exact wpAny_throw h
 cases κ with
 | tree=>exact Ap.end rfl rfl rfl fun s₀ D s I hE=>key s (hE s I)
 | code c=>exact Ap.end rfl rfl rfl fun s₀ D s I hE=>key s (hE s I)
 | call c hd kk κ=>
  exact(IH hs as σ m k κ (kk r) ac ex ob).step fun s₀ D s I h=>key s (h s I)
 | enter hd kk κ=>
  exact(IH hs as σ m k κ (kk r) ac ex ob).step fun s₀ D s I h=>key s (h s I)
include O
theorem step_tells(hs as σ m k κ t ac ex ob):Ap P g σ m k κ t ac ex ob (Ds P ih hs as σ m k κ t ac ex ob):=by
 cases t with
 | pure fin=>
  cases fin with
  | done f=>exact FI IH (.ok f) hs as σ m k κ _ ac ex ob rfl
  | again c'=>
   have key:∀ s,GN g κ (DZ g κ) c' s→Bn g κ (.pure (.again c')) s:=fun s h=>by
    cases κ with
    | tree=>exact h
    | code c=>exact ιp h
    | call c hd k κ=>exact ιp h
    | enter hd k κ=>exact ιp h
   cases κ with
   | tree=>
    delta Ds; dsimp only
    cases hq:c'.quiet with
    | false=>exact Ap.bad rfl
    | true=>
     cases hs with
     | nil=>exact Ap.end rfl rfl rfl fun s₀ D s I hE=>key s (hE s I)
     | cons h hs=>
      cases h with
      | zero=>
       dsimp only
       cases hent:P.ent with
       | false=>exact Ap.bad rfl
       | true=>
        refine(IH hs as σ m k (.code c') (P.den c') ac ex ob).step fun s₀ D s I h=>key s ?_
        have:=h s I
        rw [O.den] at this
        exact O.enter hent c' s I.stat hq (codeAny_of_tree (wpAny_mono this (fun fin s' hf=>by cases fin <;> exact hf) fun e s' he=>he))
      | succ i=>exact Ap.end rfl rfl rfl fun s₀ D s I hE=>key s (hE s I)
   | enter hd kk κ'=>
    delta Ds; dsimp only
    cases hq:c'.quiet with
    | false=>exact Ap.bad rfl
    | true=>
     cases hs with
     | nil=>exact Ap.bad rfl
     | cons h hs=>
      cases h with
      | zero=>
       refine(IH hs as σ m k (.call c' hd kk κ') (P.den c') ac ex ob).step fun s₀ D s I h=>key s ⟨O.nolim _ I.stat,hq,?_⟩
       have:=h s I
       rw [O.den] at this
       exact codeAny_of_tree (wpAny_mono this (fun fin s' hf=>by cases fin <;> exact hf) fun e s' he=>he)
      | succ i=>exact Ap.bad rfl
   | code c=>
    delta Ds; dsimp only
    cases hq:c'.quiet with
    | false=>exact Ap.bad rfl
    | true=>
     cases hs with
     | nil=>exact Ap.end rfl rfl rfl fun s₀ D s I hE=>key s (hE s I)
     | cons h hs=>
      cases h with
      | zero=>
       refine(IH hs as σ m k (.code c') (P.den c') ac ex ob).step fun s₀ D s I h=>key s ⟨hq,?_⟩
       have:=h s I
       rw [O.den] at this
       exact codeAny_of_tree (wpAny_mono this (fun fin s' hf=>by cases fin <;> exact hf) fun e s' he=>he)
      | succ i=>exact Ap.end rfl rfl rfl fun s₀ D s I hE=>key s (hE s I)
   | call c hd kk κ'=>
    delta Ds; dsimp only
    cases hq:c'.quiet with
    | false=>exact Ap.bad rfl
    | true=>
     cases hs with
     | nil=>exact Ap.end rfl rfl rfl fun s₀ D s I hE=>key s ⟨hq,hE s I⟩
     | cons h hs=>
      match h with
      | 0=>
       refine(IH hs as σ m k (.call c' hd kk κ') (P.den c') ac ex ob).step fun s₀ D s I h=>key s ⟨hq,?_⟩
       have:=h s I
       rw [O.den] at this
       exact codeAny_of_tree (wpAny_mono this (fun fin s' hf=>by cases fin <;> exact hf) fun e s' he=>he)
      | 1=>exact Ap.end rfl rfl rfl fun s₀ D s I hE=>key s ⟨hq,hE s I⟩
      | 3=>exact E5 O IH c' hd kk κ' hs as σ m k ac ex ob fun s h=>key s ⟨hq,h⟩
      | 2 | _+4=>
       cases hd with
       | some _=>exact Ap.bad rfl
       | none=>
        cases as with
        | nil=>exact Ap.bad rfl
        | cons x as=>
         dsimp only
         cases hx:Fa P.ro x with
         | false=>exact Ap.bad rfl
         | true=>
          refine Ap.obl (IH hs as _ _ _ κ' (kk (x.r (P.n+m) (P.t+k))) ac ex _) fun ho s₀ D s I h=>key s ⟨hq,?_⟩
          exact ho (ιA ..) _ s₀ D s _ (De g.AT g.A κ') (CH g.AT g.A κ') (by show none.or (AV g.AT g.A κ').handled=AE P.hd κ'; rw [BW _ _ (O.hdT.symm.trans O.hd),←O.hd]; rfl) I fun s' I'=>h s' (by rw [←Nat.add_assoc P.n,←Nat.add_assoc P.t]; exact I')
 | raise e=>exact FI IH (.error e) hs as σ m k κ _ ac ex ob rfl
 | rule tag kk=>exact(IH hs as σ m k κ (kk ()) ac ex ob).step fun s₀ D s I h=>Bn.bind O (rule tag) kk (x_rule (ιp (h s I)))
 | «at» q kk=>exact(IH hs as σ m k κ (kk ()) ac ex ob).step fun s₀ D s I h=>Bn.bind O (Sem.at q .pure) kk (x_at (ιp (h s I)))
 | point l kk=>exact(IH hs as σ m k κ (kk ()) ac ex ob).step fun s₀ D s I h=>Bn.bind O (Sem.point l .pure) kk (x_point (ιp (h s I)))
 | ask kk=>
  refine(IH hs as σ m k κ (kk P.S) ac ex ob).step fun s₀ D s I h=>Bn.bind O (Sem.ask .pure) kk (x_ask (ιp ?_))
  have:=h s I
  rw [O.S] at this
  exact this
 | load a q kk=>
  delta Ds; dsimp only
  cases hs with
  | nil=>exact Ap.bad rfl
  | cons h hs=>
   cases h with
   | zero=>
    dsimp only
    cases hl:P.look a with
    | none=>exact Ap.bad rfl
    | some o=>exact(IH hs as σ m k κ (kk o) ac ex ob).step fun s₀ D s I h=>Bn.bind O (Sem.load a q .pure) kk (x_load (I.stat a o hl) (ιp (h s I)))
   | succ i=>
    dsimp only
    cases hl:Aq σ i with
    | none=>exact Ap.bad rfl
    | some p=>exact Ap.look (IH hs as σ m k κ (kk p.2) (a::ac) (p.1::ex) ob) fun e s₀ D s I h=>Bn.bind O (Sem.load a q .pure) kk (x_load (by rw [e]; exact I.own p (Bx hl)) (ιp (h s I)))
 | loadIfAlive a kk=>
  delta Ds; dsimp only
  have key:∀ (o:Obj) s,s.heap.get? a=some o→Bn g κ (kk (some o)) s→Bn g κ (.loadIfAlive a kk) s:=fun o s ho h=>Bn.bind O (Sem.loadIfAlive a .pure) kk fun Γ p hΓ=>by
   have h2:Bn g κ (kk (s.heap.get? a)) s:=by rw [ho]; exact h
   exact h2
  cases hs with
  | nil=>exact Ap.bad rfl
  | cons h hs=>
   cases h with
   | zero=>
    dsimp only
    cases hl:P.look a with
    | none=>exact Ap.bad rfl
    | some o=>exact(IH hs as σ m k κ (kk (some o)) ac ex ob).step fun s₀ D s I h=>key o s (I.stat a o hl) (h s I)
   | succ i=>
    dsimp only
    cases hl:Aq σ i with
    | none=>exact Ap.bad rfl
    | some p=>exact Ap.look (IH hs as σ m k κ (kk (some p.2)) (a::ac) (p.1::ex) ob) fun e s₀ D s I h=>key p.2 s (by rw [e]; exact I.own p (Bx hl)) (h s I)
 | update a q f kk=>
  delta Ds; dsimp only
  cases hs with
  | nil=>exact Ap.bad rfl
  | cons h hs=>
   cases h with
   | zero=>exact Ap.bad rfl
   | succ i=>
    dsimp only
    cases hr:Nat.ble P.ro i with
    | false=>exact Ap.bad rfl
    | true=>
     dsimp only
     cases hl:Aq σ i with
     | none=>exact Ap.bad rfl
     | some p=>
      dsimp only
      cases hf:(f p.2).isFreed with
      | true=>exact Ap.bad rfl
      | false=>
       refine Ap.look (IH hs as _ m k κ (kk ()) (a::ac) (p.1::ex) ob) fun e s₀ D s I h=>?_
       subst e
       exact Bn.bind O (updatePart p.1 q f) kk (wpAny_updatePart (I.own p (Bx hl)) (h _ (I.update (Nat.le_of_ble_eq_true hr) hl hf)))
 | alloc o kk=>
  delta Ds; dsimp only
  cases hf:o.isFreed with
  | true=>exact Ap.bad rfl
  | false=>
   refine(IH hs as _ (m+1) k κ (kk (P.n+m)) ac ex ob).step fun s₀ D s I h=>?_
   refine Bn.bind O (alloc o) kk (wpAny_alloc ?_)
   rw [I.size]
   exact h _ (I.alloc hf (O.new _ (ιA ..)))
 | fresh kk=>
  refine(IH hs as σ m (k+1) κ (kk (P.t+k)) ac ex ob).step fun s₀ D s I h=>Bn.bind O (Sem.fresh .pure) kk (x_fresh (ιp ?_))
  have:=h _ I.tok
  rw [I.toks]
  rw [I.toks] at this
  exact this
 | handled own kk=>
  delta Ds; dsimp only
  cases own with
  | true=>exact Ap.bad rfl
  | false=>
   refine(IH hs as σ m k κ (kk (AE P.hd κ)) ac ex ob).step fun s₀ D s I h=>Bn.bind O (Sem.handled false .pure) kk (x_handled (ιp ?_))
   rw [BW _ _ (O.hdT.symm.trans O.hd),←O.hd]
   exact h s I
 | call c' hd gd l kk=>
  delta Ds; dsimp only
  cases hm:GA hd with
  | false=>exact Ap.bad rfl
  | true=>
   have key:∀ s,codeAny (model g.prog g.w) ((AV g.AT g.A κ).mark hd) c' (fun r s'=>Bn g κ (kk r) s') s→Bn g κ (.call c' hd gd l kk) s:=fun s h=>Bn.bind O (Sem.call c' hd gd l .pure) kk (x_call (codeAny_mono h fun r s' q=>ιp q) (okMark_ne hm))
   cases hs with
   | nil=>exact Ap.end rfl rfl rfl fun s₀ D s I hE=>key s (hE s I)
   | cons h hs=>
    match h with
    | 0=>
     refine(IH hs as σ m k (.call c' hd kk κ) (P.den c') ac ex ob).step fun s₀ D s I h=>key s ?_
     have:=h s I
     rw [O.den] at this
     exact codeAny_of_tree (wpAny_mono this (fun fin s' hf=>by cases fin <;> exact hf) fun e s' he=>he)
    | 1=>exact Ap.end rfl rfl rfl fun s₀ D s I hE=>key s (hE s I)
    | 3=>exact E5 O IH c' hd kk κ hs as σ m k ac ex ob key
    | 2 | _+4=>
     cases hd with
     | some _=>exact Ap.bad rfl
     | none=>
      cases as with
      | nil=>exact Ap.bad rfl
      | cons x as=>
       dsimp only
       cases hx:Fa P.ro x with
       | false=>exact Ap.bad rfl
       | true=>
        refine Ap.obl (IH hs as _ _ _ κ (kk (x.r (P.n+m) (P.t+k))) ac ex _) fun ho s₀ D s I h=>key s ?_
        exact ho (ιA ..) _ s₀ D s _ (De g.AT g.A κ) (CH g.AT g.A κ) (by show none.or (AV g.AT g.A κ).handled=AE P.hd κ; rw [BW _ _ (O.hdT.symm.trans O.hd),←O.hd]; rfl) I fun s' I'=>h s' (by rw [←Nat.add_assoc P.n,←Nat.add_assoc P.t]; exact I')
 | unsupported=>exact Ap.bad rfl
 | finish=>exact Ap.bad rfl
 | register=>exact Ap.bad rfl
 | choose=>exact Ap.bad rfl
 | os=>exact Ap.bad rfl
 | fork=>exact Ap.bad rfl
 | thread=>exact Ap.bad rfl
 | await=>exact Ap.bad rfl
 | «stack»=>exact Ap.end rfl rfl rfl fun s₀ D s I hE=>hE s I
 | «newGen»=>exact Ap.end rfl rfl rfl fun s₀ D s I hE=>hE s I
 | «genState»=>exact Ap.end rfl rfl rfl fun s₀ D s I hE=>hE s I
 | «resume»=>exact Ap.end rfl rfl rfl fun s₀ D s I hE=>hE s I
 | «yield»=>exact Ap.end rfl rfl rfl fun s₀ D s I hE=>hE s I
end
theorem Gd{P:Par}{g:Bq}(O:Cx P g):∀ fuel hs as σ m k κ t ac ex ob,Ap P g σ m k κ t ac ex ob (run P fuel hs as σ m k κ t ac ex ob)
 | 0=>fun _ _ _ _ _ _ _ _ _ _=>Ap.end rfl rfl rfl fun s₀ D s I hE=>hE s I
 | n+1=>step_tells O (Gd O n)
theorem Df{P:Par}{g:Bq}(O:Cx P g){fuel hs as σ m k κ t s₀ D s}(R:Res)(hR:run P fuel hs as σ m k κ t [] [] []=R)(hb:R.out.bad=false)(he:R.act=R.exp)
  (ho:∀ o∈R.obl,Hz P g o) (I:Inv P.look P.ro s₀ D σ (P.n+m) (P.t+k) s) (hE:∀ s',Inv P.look P.ro s₀ D R.led (P.n+R.m) (P.t+R.k) s'→Fb P g R s'):Bn g κ t s:=by
 subst hR
 obtain⟨pa,pe,po,e1,e2,e3,e4,H⟩:=Gd O fuel hs as σ m k κ t [] [] [] hb
 rw [List.append_nil] at e1 e2 e4
 exact H (by rw [←e1,←e2,he]) (by rw [←e4]; exact ho) s₀ D s I hE
theorem Inv.get{look ro s₀ D σ N T s}(I:Inv look ro s₀ D σ N T s){i:Nat}{p:Addr×Obj}(h:Aq σ i=some p):s.heap.get? p.1=some p.2:=I.own p (Bx h)
noncomputable abbrev lst(xs:List Value)(e:Nat):Obj:=⟨.type "list",none,.seq ⟨xs⟩ e,#[]⟩
structure Sp where
 c:Code
 x:Ans
 us:List (Option (Addr×Obj)):=[]
 rs:List (Option (Addr×Obj)):=[]
noncomputable abbrev J8:=Code×Option Value×Ans×List (Option (Addr×Obj))×List (Option (Addr×Obj))
noncomputable def E2(o:Obl):J8:=(o.c,o.hd,o.x,o.x.upd.map fun p=>Aq o.pre p.1,o.x.reads.map (Aq o.pre))
noncomputable def Sp.view(p:Sp):J8:=(p.c,none,p.x,p.us,p.rs)
noncomputable def AK(P:Par)(g:Bq)(U D:Nat)(v:Sp):Prop:=
 ∀ u d pre size tok,u≤U→d≤D→(v.x.upd.map fun p=>Aq pre p.1)=v.us→v.x.reads.map (Aq pre)=v.rs→Hz P g ⟨v.c,u,d,none,pre,size,tok,v.x⟩
noncomputable def Ez(U D:Nat):List Obl→Bool
 | []=>true
 | o::l=>Nat.ble o.u U&&Nat.ble o.d D&&Ez U D l
theorem Ey{P:Par}{g:Bq}{U D:Nat}{os:List Obl}{vs:List Sp}(e:os.map E2=vs.map Sp.view)(hl:Ez U D os=true)(h:∀ v∈vs,AK P g U D v):∀ o∈os,Hz P g o:=fun o ho=>by
 have:E2 o∈vs.map Sp.view:=e▸List.mem_map_of_mem ho
 obtain⟨v,hv,q⟩:=List.mem_map.mp this
 have hb:o.u≤U∧o.d≤D:=by
  clear e h this hv q v
  induction os with
  | nil=>cases ho
  | cons a l ih=>
   simp only [Ez,Bool.and_eq_true] at hl
   rcases ιC ho with rfl | ho
   ·exact⟨Nat.le_of_ble_eq_true hl.1.1,Nat.le_of_ble_eq_true hl.1.2⟩
   ·exact ih hl.2 ho
 obtain⟨c,u,d,hd,pre,size,tok,x⟩:=o
 simp only [E2,Sp.view,Prod.mk.injEq] at q
 obtain⟨rfl,rfl,rfl,e4,e5⟩:=q
 exact h v hv u d pre size tok hb.1 hb.2 e4.symm e5.symm
noncomputable def Ko.kind:Ko→Nat
 | .code _=>0
 | .tree=>1
 | _=>2
noncomputable def EW:Ko→List Env
 | .tree=>[]
 | .code c=>c.envs
 | .call c _ _ κ=>c.envs++EW κ
 | .enter _ _ κ=>EW κ
structure AP where
 act:List Nat
 out:Out
 base:Nat
 dep:Nat
 envs:List Env
 hd:Option Value
 m:Nat
 k:Nat
 led:List (Option (Addr×Obj))
 obl:List J8
 ok:Bool
noncomputable def Res.rv(R:Res)(U D:Nat)(sel:List Nat):AP:=⟨R.act,R.out,R.ko.kind,AX R.ko,EW R.ko,R.hd,R.m,R.k,sel.map (Aq R.led),R.obl.map E2,Ez U D R.obl⟩
abbrev RvD(R:Res)(l:List Nat)(o:Out)(b m k:Nat)(led:List (Option (Addr×Obj)))(vs:List Sp):Prop:=R.rv 30 30 l=⟨R.exp,o,b,AX R.ko,EW R.ko,R.hd,m,k,led,vs.map Sp.view,true⟩
abbrev RvN(R:Res)(l:List Nat)(o:Out)(b m k:Nat)(led:List (Option (Addr×Obj)))(vs:List Sp):Prop:=R.rv 30 30 l=⟨R.exp,o,b,AX R.ko,EW R.ko,none,m,k,led,vs.map Sp.view,true⟩
abbrev RvC(R:Res)(l:List Nat)(o:Out)(b m k:Nat)(led:List (Option (Addr×Obj)))(vs:List Sp):Prop:=R.rv 30 30 l=⟨R.exp,o,b,0,[],none,m,k,led,vs.map Sp.view,true⟩
section
variable{P:Par}{g:Bq}
noncomputable def row:Addr→List Obj→Led
 | _,[]=>[]
 | a,o::l=>(a,o)::row (a+1) l
theorem Iw:∀ l:List Obj,HG l=l.length
 | []=>rfl
 | _::l=>by rw [HG,Iw l,List.length_cons]
theorem Gl:∀ (l:List Obj) (σ:Led) (a:Addr),FH σ a l=σ++row a l
 | [],σ,a=>by simp [FH,row]
 | o::l,σ,a=>by rw [FH,Gl l]; simp [row]
theorem G5{l:List Obj}{a:Addr}{p:Addr×Obj}(h:p∈row a l):a≤p.1:=by
 induction l generalizing a with
 | nil=>cases h
 | cons o l ih=>
  rcases ιC h with rfl | h
  ·exact ιR _
  ·exact Nat.le_of_succ_le (ih h)
theorem row_nd(l:List Obj):∀ a,((row a l).map (·.1)).Nodup:=by
 induction l with
 | nil=>intro a; exact ιN
 | cons o l ih=>
  intro a
  rw [row,List.map_cons,List.nodup_cons]
  refine⟨fun h=>?_,ih _⟩
  obtain⟨p,hp,e⟩:=List.mem_map.mp h
  have h1:a+1≤p.1:=G5 hp
  rw [show p.1=a from e] at h1
  exact Nat.lt_irrefl _ h1
structure Chg(us:Led)(os:List Obj)(news:List Obj)(grow dk:Nat)(s s':Shared):Prop where
 same:s'={s with heap:=s'.heap,toks:=s'.toks}
 toks:s'.toks=s.toks+dk
 size:s'.heap.objs.size=s.heap.objs.size+(grow+news.length)
 keep:∀ b o,s.heap.get? b=some o→b∉us.map (·.1)→s'.heap.get? b=some o
 upd:∀ p∈(us.map (·.1)).zip os,s'.heap.get? p.1=some p.2
 new:∀ p∈row s.heap.objs.size news,s'.heap.get? p.1=some p.2
theorem Fw:∀ (l:List (Nat×Obj)) (σ:Led),(CC σ l).map (·.1)=σ.map (·.1)
 | [],_=>rfl
 | p::l,σ=>by rw [CC,Fw l,Ej]
theorem ES{l:List (Nat×Obj)}:∀ {σ:Led} {j:Nat} {p:Addr×Obj},Aq (CC σ l) j=some p→∃ q,Aq σ j=some q∧q.1=p.1:=by
 induction l with
 | nil=>intro σ j p h; exact⟨p,h,rfl⟩
 | cons x l ih=>
  intro σ j p h
  obtain⟨q,h1,h2⟩:=ih h
  obtain⟨q',h3,h4⟩:=Do h1
  exact⟨q',h3,h4.trans h2⟩
theorem puts_mem{l:List (Nat×Obj)}:∀ {σ:Led} {us:Led} {q:Addr×Obj},(σ.map (·.1)).Nodup→(l.map fun p=>Aq σ p.1)=us.map some→q∈CC σ l→
  (∃ o,(q.1,o)∈us∧q∈(us.map (·.1)).zip (l.map (·.2)))∨(q∈σ∧q.1∉us.map (·.1)):=by
 induction l with
 | nil=>
  intro σ us q hn e hq
  have:us=[]:=by cases us with | nil=>rfl | cons=>cases e
  subst this
  exact .inr ⟨hq,by simp⟩
 | cons x l ih=>
  intro σ us q hn e hq
  cases us with
  | nil=>cases e
  | cons u us=>
   simp only [List.map_cons,List.cons.injEq] at e
   obtain⟨e1,e2⟩:=e
   have hn':((Bw σ x.1 x.2).map (·.1)).Nodup:=by rw [Ej]; exact hn
   have e2':∃ us':Led,(l.map fun p=>Aq (Bw σ x.1 x.2) p.1)=us'.map some∧us'.map (·.1)=us.map (·.1):=by
    clear ih hq hn' e1
    induction l generalizing us with
    | nil=>exact⟨[],rfl,by cases us with | nil=>rfl | cons=>cases e2⟩
    | cons y l ih=>
     cases us with
     | nil=>cases e2
     | cons v us=>
      simp only [List.map_cons,List.cons.injEq] at e2
      obtain⟨us',h1,h2⟩:=ih us e2.2
      have:∃ v',Aq (Bw σ x.1 x.2) y.1=some v'∧v'.1=v.1:=by
       cases hq:Aq (Bw σ x.1 x.2) y.1 with
       | some v'=>
        obtain⟨q,h3,h4⟩:=Do hq
        rw [e2.1] at h3
        cases h3
        exact⟨v',rfl,h4.symm⟩
       | none=>
        exfalso
        have key:∀ (σ:Led) (i j:Nat) (o:Obj) (v:Addr×Obj),Aq σ j=some v→Aq (Bw σ i o) j≠none:=by
         intro σ
         induction σ with
         | nil=>intro i j o v h; cases h
         | cons z σ ih=>
          intro i j o v h
          cases i with
          | zero=>cases j with
           | zero=>simp [Bw,Aq]
           | succ j=>simp only [Aq] at h; simp only [Bw,Aq,h]; exact fun q=>nomatch q
          | succ i=>cases j with
           | zero=>simp [Bw,Aq]
           | succ j=>simp only [Aq] at h; simp only [Bw,Aq]; exact ih i j o v h
        exact key σ x.1 y.1 x.2 v e2.1 hq
      obtain⟨v',h3,h4⟩:=this
      exact⟨v'::us',by simp [h3,h1],by simp [h4,h2]⟩
   obtain⟨us',h1,h2⟩:=e2'
   rcases ih hn' h1 hq with⟨o,ho,hz⟩ | ⟨hm,hne⟩
   ·left
    have:q.1∈us.map (·.1):=h2▸(List.mem_map_of_mem (f:=(·.1)) ho:(q.1,o).1∈us'.map (·.1))
    obtain⟨v,hv,hve⟩:=List.mem_map.mp this
    exact⟨v.2,.tail _ (by rw [←hve]; exact hv),by
     simp only [List.map_cons,List.zip_cons_cons]
     exact .tail _ (h2▸hz)⟩
   ·rw [h2] at hne
    rcases FG e1 hn hm with rfl | ⟨hm,hu⟩
    ·left
     exact⟨u.2,.head _,by simp only [List.map_cons,List.zip_cons_cons]; exact .head _⟩
    ·right
     exact⟨hm,by simp only [List.map_cons,List.mem_cons,not_or]; exact⟨hu,hne⟩⟩
theorem Inv.chg{look ro s₀ D σ N T s}(I:Inv look ro s₀ D σ N T s){x:Ans}{us:Led}(hx:Fa ro x=true)(hus:(x.upd.map fun p=>Aq σ p.1)=us.map some)
  (hnew:∀ a,N≤a→look a=none) {s':Shared} (C:Chg us (x.upd.map (·.2)) (x.news N) x.grow x.dk s s'):Inv look ro s₀ D (FV σ N x) (N+(x.grow+HG (x.news N))) (T+x.dk) s':=by
 have hin:∀ u∈us,∃ p∈x.upd,Aq σ p.1=some u:=fun u hu=>by
  have:some u∈us.map some:=List.mem_map_of_mem hu
  rw [←hus] at this
  exact List.mem_map.mp this
 have hro:∀ p∈x.upd,ro≤p.1:=by
  have:∀ l:List (Nat×Obj),FW ro l=true→∀ p∈l,ro≤p.1:=by
   intro l
   induction l with
   | nil=>intro _ p hp; cases hp
   | cons y l ih=>
    intro h p hp
    simp only [FW,Bool.and_eq_true] at h
    rcases ιC hp with rfl | hp
    ·exact Nat.le_of_ble_eq_true h.1
    ·exact ih h.2 p hp
  exact this _ hx
 have hD:∀ b∈us.map (·.1),look b=none∧(b∈D∨s₀.heap.objs.size≤b):=fun b hb=>by
  obtain⟨u,hu,rfl⟩:=List.mem_map.mp hb
  obtain⟨p,hp,hg⟩:=hin u hu
  exact⟨I.apart _ _ hg (hro p hp),I.mine _ _ hg (hro p hp)⟩
 have hs:=I.size
 have hled:FV σ N x=CC σ x.upd++row N (x.news N):=Gl _ _ _
 have hltN:∀ q∈CC σ x.upd,q.1<N:=fun q hq=>by
  have:q.1∈(CC σ x.upd).map (·.1):=List.mem_map_of_mem hq
  rw [Fw] at this
  obtain⟨p,hp,e⟩:=List.mem_map.mp this
  rw [←e,←I.size]; exact ιH (I.own p hp)
 constructor
 ·have h1:=C.same
  have h2:=I.same
  cases s; cases s'; cases s₀
  simp only [Shared.mk.injEq] at h1 h2 ⊢
  exact⟨trivial,h1.2.1.trans h2.2.1,h1.2.2.1.trans h2.2.2.1,trivial,h1.2.2.2.2.trans h2.2.2.2.2⟩
 ·rw [C.toks,I.toks]
 ·intro q hq
  rw [hled] at hq
  rcases ιM hq with hq | hq
  ·rcases puts_mem I.nd hus hq with⟨o,_,hz⟩ | ⟨hm,hne⟩
   ·exact C.upd q hz
   ·exact C.keep _ _ (I.own q hm) hne
  ·exact C.new q (by rw [hs]; exact hq)
 ·rw [hled,List.map_append,List.nodup_append,Fw]
  refine⟨I.nd,row_nd _ _,fun a ha b hb=>?_⟩
  obtain⟨p,hp,rfl⟩:=List.mem_map.mp ha
  obtain⟨q,hq,rfl⟩:=List.mem_map.mp hb
  have h1:p.1<N:=by rw [←I.size]; exact ιH (I.own p hp)
  have h2:=G5 hq
  exact Nat.ne_of_lt (ιL h1 h2)
 ·rw [C.size,hs,Iw]
 ·intro a o e
  refine C.keep _ _ (I.stat a o e) fun hb=>?_
  rw [(hD a hb).1] at e; cases e
 ·intro i p hi hr
  rw [hled] at hi
  rcases Cm hi with hi | hi
  ·obtain⟨q,hq,e⟩:=ES hi
   rw [←e]; exact I.apart i q hq hr
  ·exact hnew _ (G5 hi)
 ·intro b o e hb
  refine C.keep _ _ (I.keep b o e hb) fun hu=>?_
  rcases(hD b hu).2 with h | h
  ·exact hb h
  ·exact Nat.lt_irrefl _ (ιL (ιH e) h)
 ·intro i p hi hr
  rw [hled] at hi
  rcases Cm hi with hi | hi
  ·obtain⟨q,hq,e⟩:=ES hi
   rw [←e]; exact I.mine i q hq hr
  ·exact .inr (ιT I.top (G5 hi))
 ·exact ιT I.top (ιA ..)
theorem Bu{U D:Nat}{c:Code}{x:Ans}{us ps:Led}(hx:Fa P.ro x=true)(hP:∀ b,P.n≤b→P.look b=none)
  (h:∀ (A:Around) (s:Shared) (R:Result→Shared→Prop),A.units≤max g.AT.units g.A.units+10*U→A.depth≤max g.AT.depth g.A.depth+D→A.handled=none→(∀ a o,P.look a=some o→s.heap.get? a=some o)→
   (∀ p∈us,s.heap.get? p.1=some p.2)→(∀ p∈ps,s.heap.get? p.1=some p.2)→(∀ s',Chg us (x.upd.map (·.2)) (x.news s.heap.objs.size) x.grow x.dk s s'→R (x.r s.heap.objs.size s.toks) s')→codeAny (model g.prog g.w) A c R s) :
  AK P g U D ⟨c,x,us.map some,ps.map some⟩:=by
 intro u d pre size tok hu' hd' hu hp hN A s₀ D s R h1 h2 h3 I hR
 have hsz:=I.size
 have htk:=I.toks
 dsimp only at hsz htk hR hN h1 h2
 subst hsz
 subst htk
 refine h A s R (ωa hu' h1) (ωb hd' h2) h3 I.stat (fun p hp'=>?_) (fun p hp'=>?_) fun s' C=>hR s' (I.chg hx hu (fun a ha=>hP a (ιT hN ha)) C)
 ·have:some p∈us.map some:=List.mem_map_of_mem hp'
  rw [show us.map some=_ from hu.symm] at this
  obtain⟨j,_,hj⟩:=List.mem_map.mp this
  exact I.get hj
 ·have:some p∈ps.map some:=List.mem_map_of_mem hp'
  rw [show ps.map some=_ from hp.symm] at this
  obtain⟨j,_,hj⟩:=List.mem_map.mp this
  exact I.get hj
theorem BP{s:Heap}{l:List Obj}(hf:∀ o∈l,o.isFreed=false):(l.foldl Heap.push s).objs.size=s.objs.size+l.length∧(∀ b o,s.get? b=some o→(l.foldl Heap.push s).get? b=some o)∧
  ∀ p∈row s.objs.size l,(l.foldl Heap.push s).get? p.1=some p.2:=by
 induction l generalizing s with
 | nil=>exact⟨rfl,fun _ _ e=>e,fun p hp=>nomatch hp⟩
 | cons o l ih=>
  obtain⟨h1,h2,h3⟩:=ih (s:=s.push o) fun x hx=>hf x (.tail _ hx)
  refine⟨by rw [List.foldl_cons,h1,Heap.size_push,List.length_cons]; exact ωc,fun b o' e=>h2 b o' (Heap.get?_push_of_some _ e),fun p hp=>?_⟩
  rcases ιC hp with rfl | hp
  ·exact h2 _ _ (Heap.get?_push_size s (hf o μ0))
  ·exact h3 p (by rw [Heap.size_push]; exact hp)
theorem Fz{U D:Nat}{c:Code}{i dk:Nat}{r:Nat→Nat→Result}{a:Addr}{o o':Obj}{news:Nat→List Obj}{reads:List Nat}{ps:List (Addr×Obj)}(hr:P.ro≤i)(hf:o'.isFreed=false)(hn:∀ n,∀ x∈news n,x.isFreed=false)(hP:∀ b,P.n≤b→P.look b=none)
  (h:∀ (A:Around) (s:Shared) (R:Result→Shared→Prop),A.units≤max g.AT.units g.A.units+10*U→A.handled=none→s.heap.get? a=some o→(∀ p∈ps,s.heap.get? p.1=some p.2)→
   (∀ f:Obj→Obj,f o=o'→R (r s.heap.objs.size s.toks) {s with heap:=(news s.heap.objs.size).foldl Heap.push (s.heap.update a f),toks:=s.toks+dk})→codeAny (model g.prog g.w) A c R s) :
  AK P g U D ⟨c,{r:=r,dk:=dk,upd:=[(i,o')],news:=news,reads:=reads},[some (a,o)],ps.map some⟩:=by
 refine Bu (us:=[(a,o)]) (by simp only [Fa,FW,Bool.and_true]; exact Nat.ble_eq_true_of_le hr) hP fun A s R h1 h2 h3 _ h4 h5 hR=>?_
 have ha:=h4 _ μ0
 refine h A s R h1 h3 ha h5 fun f hfo=>hR _ ?_
 obtain⟨k1,k2,k3⟩:=BP (s:=s.heap.update a f) (hn s.heap.objs.size)
 rw [Heap.size_update] at k1 k3
 have hu:(s.heap.update a f).get? a=some o':=by rw [Heap.get?_update_self f ha (by rw [hfo]; exact hf),hfo]
 refine⟨rfl,rfl,by show _=_+(0+_); rw [Nat.zero_add]; exact k1,fun b o e hb=>k2 b o ?_,fun p hp=>?_,k3⟩
 ·exact(Heap.get?_update_other s.heap f (fun q=>hb (by simp [q]))).trans e
 ·simp only [List.map_cons,List.map_nil,List.zip_cons_cons,List.zip_nil_right,List.mem_singleton] at hp
  subst hp
  exact k2 _ _ hu
theorem DA{U D:Nat}{c:Code}{i:Nat}{r:Nat→Nat→Result}{a:Addr}{o o':Obj}(hr:P.ro≤i)(hf:o'.isFreed=false)(hP:∀ b,P.n≤b→P.look b=none)
  (h:∀ (A:Around) (s:Shared) (R:Result→Shared→Prop),s.heap.get? a=some o→(∀ f:Obj→Obj,f o=o'→R (r s.heap.objs.size s.toks) {s with heap:=s.heap.update a f})→codeAny (model g.prog g.w) A c R s) :
  AK P g U D ⟨c,{r:=r,upd:=[(i,o')]},[some (a,o)],[]⟩:=
 Fz (dk:=0) (news:=fun _=>[]) (reads:=[]) (ps:=[]) hr hf (fun _ _ h=>nomatch h) hP fun A s R _ _ hs _ hR=>h A s R hs hR
theorem BV{U D:Nat}{c:Code}{dk:Nat}{r:Nat→Nat→Result}{reads:List Nat}{ps:Led}(hP:∀ b,P.n≤b→P.look b=none)
  (h:∀ (A:Around) (s:Shared) (R:Result→Shared→Prop),A.units≤max g.AT.units g.A.units+10*U→A.handled=none→(∀ a o,P.look a=some o→s.heap.get? a=some o)→(∀ p∈ps,s.heap.get? p.1=some p.2)→
   R (r s.heap.objs.size s.toks) {s with toks:=s.toks+dk}→codeAny (model g.prog g.w) A c R s) :
  AK P g U D ⟨c,{r:=r,dk:=dk,reads:=reads},[],ps.map some⟩:=
 Bu (us:=[]) rfl hP fun A s R h1 _ h3 h4 _ h5 hR=>h A s R h1 h3 h4 h5 (hR _ (.mk rfl rfl rfl (fun _ _ e _=>e) (fun p hp=>nomatch hp) (fun p hp=>nomatch hp)))
end
theorem AA{prog:Program}{w:World}{A:Around}{R:Result→Shared→Prop}{s:Shared}{id:String}{args:Args}{B:Builtin}{S:PySem.Spec}(entry:entryFor table id=some B)(plain:plainId id=true)
  (g:Meets (B args) S) (h:S A R s):codeAny (model prog w) A (.builtin id args) R s:=by
 refine codeAny_builtin entry ?_
 rw [Around.under_plainId plain]
 exact g prog w A R s h
theorem Ci(f:Array Value→Array Value)(xs ys:List Value)(e e':Nat)(h:f ⟨xs⟩=⟨ys⟩)(he:e'=if ys.length=xs.length then e else e+1):Obj.mapSeq f (lst xs e)=lst ys e':=by
 subst he
 simp only [lst,Obj.mapSeq,h,List.size_toArray,beq_iff_eq]
noncomputable abbrev oIt(cl i:Nat):Obj:=⟨.type "list_iterator",none,.fields #[.ref cl,.int (i:Nat) 0],#[]⟩
noncomputable abbrev FB(i:Nat):Obj:=⟨.type "list_iterator",none,.fields #[.none,.int (i:Nat) 0],#[]⟩
noncomputable abbrev Je:Nat→Nat→Result:=fun _ _=>.ok (.ret .none)
noncomputable abbrev Ba(v:Value):Nat→Nat→Result:=fun _ _=>.ok (.ret v)
noncomputable abbrev Bc(i:Nat)(a:Addr)(xs:List Value)(e:Nat)(v:Value):Sp:=⟨.builtin "list.append" ⟨[.ref a,v],[]⟩,{r:=Je,upd:=[(i,lst (xs++[v]) (e+1))]},[some (a,lst xs e)],[]⟩
noncomputable abbrev G4(i:Nat)(a:Addr)(xs:List Value)(e:Nat):Sp:=⟨.builtin "list.clear" ⟨[.ref a],[]⟩,{r:=Je,upd:=[(i,lst [] (e+1))]},[some (a,lst xs e)],[]⟩
noncomputable abbrev Dl(i:Nat)(a:Addr)(xs:List Value)(e:Nat)(v:Value)(t:Tok):Sp:=⟨.builtin "list.pop" ⟨[.ref a,.int 0 t],[]⟩,{r:=Ba v,upd:=[(i,lst xs (e+1))]},[some (a,lst (v::xs) e)],[]⟩
noncomputable abbrev H9(i:Nat)(a:Addr)(xs:List Value)(e:Nat)(v:Value)(t:Tok):Sp:=⟨.builtin "list.pop" ⟨[.ref a,.int (-1) t],[]⟩,{r:=Ba v,upd:=[(i,lst xs (e+1))]},[some (a,lst (xs++[v]) e)],[]⟩
noncomputable abbrev HA(i:Nat)(a:Addr)(xs:List Value)(e:Nat)(v:Value)(t:Tok):Sp:=⟨.builtin "list.insert" ⟨[.ref a,.int 0 t,v],[]⟩,{r:=Je,upd:=[(i,lst (v::xs) (e+1))]},[some (a,lst xs e)],[]⟩
noncomputable abbrev Cg(i j:Nat)(it cl:Addr)(xs:List Value)(e k:Nat)(v:Value):Sp:=⟨.builtin "list_iterator.__next__" ⟨[.ref it],[]⟩,{r:=Ba v,upd:=[(i,oIt cl (k+1))],reads:=[j]},[some (it,oIt cl k)],[some (cl,lst xs e)]⟩
noncomputable abbrev AZ(i j:Nat)(it cl:Addr)(xs:List Value)(e k:Nat):Sp:=⟨.builtin "list_iterator.__next__" ⟨[.ref it],[]⟩,{r:=fun n _=>.error (.ref (n+1)),upd:=[(i,FB k)],reads:=[j],news:=fun n=>[{cls:=.type "tuple",data:=.seq #[]},{cls:=.type "StopIteration",data:=.fields #[.ref n,.none,.none,.none,.bool false,.none]}]},[some (it,oIt cl k)],[some (cl,lst xs e)]⟩
section
variable{P:Par}{g:Bq}{a:Addr}{xs:List Value}{e i U D:Nat}
theorem AN{v:Value}(hP:∀ b,P.n≤b→P.look b=none)(hr:P.ro≤i)(hz:xs.length≤sizeLine) :
  AK P g U D (Bc i a xs e v):=
 DA hr rfl hP fun A s R hs hR=>AA (F.entry_list_append) (by decide +kernel) (list_append a ⟨xs⟩ e v hz)
  ⟨hs,hR _ (Ci _ _ _ _ _ (by simp) (by simp))⟩
theorem o_clear(hP:∀ b,P.n≤b→P.look b=none)(hr:P.ro≤i)(hz:xs.length≤sizeLine)(hn:xs≠[]) :
  AK P g U D (G4 i a xs e):=
 DA hr rfl hP fun A s R hs hR=>AA (F.entry_list_clear) (by decide +kernel) (AutoSeq1.list_clear_list_0 a ⟨xs⟩ e hz)
  ⟨hs,hR _ (Ci _ _ _ _ _ rfl (by cases xs with | nil=>exact absurd rfl hn | cons=>simp))⟩
theorem F9{v:Value}{t:Tok}(hP:∀ b,P.n≤b→P.look b=none)(hr:P.ro≤i)(hz:xs.length+1≤sizeLine) :
  AK P g U D (Dl i a xs e v t):=
 DA hr rfl hP fun A s R hs hR=>AA (F.entry_list_pop) (by decide +kernel)
  (MeetsSeq.list_pop_at a ⟨v::xs⟩ e 0 t 0 v (by decide) (by unfold seqIndex?; simp) (by simp) hz)
  ⟨hs,hR _ (Ci _ _ _ _ _ (by simp) (by simp))⟩
theorem Gf{v:Value}{t:Tok}(hP:∀ b,P.n≤b→P.look b=none)(hr:P.ro≤i)(hz:xs.length+1≤sizeLine) :
  AK P g U D (H9 i a xs e v t):=
 DA hr rfl hP fun A s R hs hR=>AA (F.entry_list_pop) (by decide +kernel)
  (MeetsSeq.list_pop_at a ⟨xs++[v]⟩ e (-1) t xs.length v (by decide) (by rw [MeetsSeq.seqIndex_neg (by decide) (by simp; exact ωd)]; simp; exact ωe) (by simp) (by simpa using hz))
  ⟨hs,hR _ (Ci _ _ _ _ _ (by simp [Array.eraseIdxIfInBounds,List.eraseIdx_append_of_length_le]) (by simp))⟩
theorem Gg{v:Value}{t:Tok}(hP:∀ b,P.n≤b→P.look b=none)(hr:P.ro≤i)(hz:xs.length≤sizeLine) :
  AK P g U D (HA i a xs e v t):=
 DA hr rfl hP fun A s R hs hR=>AA (F.entry_list_insert) (by decide +kernel) (AutoSeq1.list_insert_list_int_val_1 a ⟨xs⟩ e 0 t v (by decide) hz)
  ⟨hs,hR _ (Ci _ _ _ _ _ (by simp) (by simp))⟩
end
section
variable{P:Par}{g:Bq}{i j U D:Nat}
theorem DB{it cl:Addr}{xs:List Value}{e k:Nat}{v:Value}(hP:∀ b,P.n≤b→P.look b=none)(hr:P.ro≤i)(hv:xs[k]? = some v) :
  AK P g U D (Cg i j it cl xs e k v):=by
 refine Fz (dk:=0) (news:=fun _=>[]) (ps:=[(cl,lst xs e)]) hr rfl (fun _ _ h=>nomatch h) hP fun A s R _ _ hs hp hR=>?_
 have hl:=hp _ μ0
 refine AA entry_listiter_next (by decide +kernel) (S:=fun A' R s=>s.heap.get? it=some ⟨.type "list_iterator",none,.fields #[.ref cl,.int (k:Nat) 0],#[]⟩∧s.heap.get? cl=some (lst xs e)∧
  R (.ok (.ret v)) {s with heap:=s.heap.update it (Obj.mapFields (·.setIfInBounds 1 (rawInt (k+1:Int))))}) (Meets.of_wp fun prog w A R s h=>?_) ⟨hs,hl,hR _ rfl⟩
 obtain⟨ho,hol,h⟩:=h
 show wpAny _ _ (field (.ref it) 0 >>= _) _ _ s
 refine wpAny_bind (wpAny_field ho rfl (x:=.ref cl) rfl ?_)
 show wpAny _ _ (if (Value.ref cl == Value.none)=true then _ else _) _ _ s
 rw [if_neg (show ¬ ((Value.ref cl == Value.none)=true) from Bool.false_ne_true)]
 show wpAny _ _ (field (.ref it) 1 >>= _) _ _ s
 refine wpAny_bind (wpAny_field ho rfl (x:=.int (k:Nat) 0) rfl ?_)
 show wpAny _ _ (seqItems? (.ref cl) >>= _) _ _ s
 refine wpAny_bind (wpAny_seqItems hol rfl ?_)
 have hx:(⟨xs⟩:Array Value)[(k:Int).toNat]? = some v:=by simpa using hv
 simp only [hx]
 exact wpAny_bind (wpAny_setField ho rfl (by simp) (ιp ⟨v,rfl,h⟩))
theorem Ch{it cl:Addr}{xs:List Value}{e k:Nat}(hP:∀ b,P.n≤b→P.look b=none)(hr:P.ro≤i)(hv:xs[k]? = none) :
  AK P g U D (AZ i j it cl xs e k):=by
 refine Fz (dk:=0) (ps:=[(cl,lst xs e)]) hr rfl ?_ hP fun A s R _ hh hs hp hR=>?_
 ·intro n x hx
  rcases ιC hx with rfl | hx
  ·rfl
  ·obtain rfl:=ιS hx; rfl
 have hl:=hp _ μ0
 refine codeAny_builtin entry_listiter_next ?_
 rw [Around.under_plainId (by decide +kernel)]
 show wpAny _ _ (field (.ref it) 0 >>= _) _ _ s
 refine wpAny_bind (wpAny_field hs rfl (x:=.ref cl) rfl ?_)
 show wpAny _ _ (if (Value.ref cl == Value.none)=true then _ else _) _ _ s
 rw [if_neg (show ¬ ((Value.ref cl == Value.none)=true) from Bool.false_ne_true)]
 show wpAny _ _ (field (.ref it) 1 >>= _) _ _ s
 refine wpAny_bind (wpAny_field hs rfl (x:=.int (k:Nat) 0) rfl ?_)
 show wpAny _ _ (seqItems? (.ref cl) >>= _) _ _ s
 refine wpAny_bind (wpAny_seqItems hl rfl ?_)
 have hx:(⟨xs⟩:Array Value)[(k:Int).toNat]? = none:=by simpa using hv
 simp only [hx]
 refine wpAny_bind (wpAny_rule (wpAny_bind (wpAny_setField hs rfl (by simp) ?_)))
 show wpAny _ _ (newExc (.type "StopIteration") [] >>= _) _ _ _
 refine wpAny_bind ?_
 simp only [newExc,newTuple]
 refine wpAny_bind (wpAny_newObj_type ?_ (by size_fits))
 refine wpAny_bind (m:=firstArgMember _ _) (wpAny_of_eq (a:=Value.none) (by first | rfl | (simp only [firstArgMember]; rfl)) ?_)
 refine wpAny_newObj_type ?_ (by size_fits)
 simp only [raiseNew]
 refine wpAny_bind (wpAny_handled ?_)
 rw [show A.in1.handled=none from hh]
 refine wpAny_bind (ιp (wpAny_throw ?_))
 have:=hR (Obj.mapFields (·.setIfInBounds 0 .none)) rfl
 simp only [Heap.size_update,Heap.size_push]
 exact this
end
noncomputable abbrev Am(id:String)(args:Args)(v:Value):Sp:=⟨.builtin id args,{r:=Ba v},[],[]⟩
noncomputable abbrev spStr(id:String)(args:Args)(v:Str):Sp:=⟨.builtin id args,{r:=fun _ t=>.ok (.ret (.str v t)),dk:=1},[],[]⟩
section
variable{P:Par}{g:Bq}{U D:Nat}{id:String}{args:Args}{B:Builtin}
theorem E0{v:Value}(hP:∀ b,P.n≤b→P.look b=none)(entry:entryFor table id=some B)(plain:plainId id=true)(G:Gives (B args) (.val v)):AK P g U D (Am id args v):=
 BV (dk:=0) (reads:=[]) (ps:=[]) hP fun A s R _ _ _ _ hR=>AA entry plain G.meets hR
theorem Iq{v:Str}(hP:∀ b,P.n≤b→P.look b=none)(entry:entryFor table id=some B)(plain:plainId id=true)(G:Gives (B args) (.str v))(hz:v.length≤sizeLine):AK P g U D (spStr id args v):=
 BV (dk:=1) (reads:=[]) (ps:=[]) hP fun A s R _ _ _ _ hR=>AA entry plain G.meets ⟨hz,hR⟩
end
section
variable{prog:Program}{w:World}{A:Around}{R:Result→Shared→Prop}{s:Shared}
noncomputable def IC(prog:Program)(w:World)(A:Around)(R:Result→Shared→Prop)(fin:PySem.Fin)(s':Shared):Prop:=match fin with
 | .done f=>R (.ok f) s'
 | .again c=>s'.heap.NoLimit∧c.quiet=true∧codeAny (model prog w) A c R s'
noncomputable def Av(prog:Program)(w:World)(A:Around)(R:Result→Shared→Prop):Bq:=
 ⟨prog,w,A.in1,A,fun t s=>wpAny (model prog w) A.in1 t (IC prog w A R) (fun e s'=>R (.error e) s') s,R⟩
theorem Bv{look:Addr→Option Obj}{f:Addr}{args:Args}(hs:∀ a o,look a=some o→s.heap.get? a=some o)(hf:FO look (look f)=true)(hroom:A.depth<recursionLimit)
  (h:Bn (Av prog w A R) .tree (BB (B5 (look f)) f args) s):codeAny (model prog w) A (.call (.ref f) args) R s:=by
 obtain⟨c,d,fd,sl,e,hco,hgen,hbody,hcd⟩:=Db hs hf
 have ho:=hs _ _ e
 rw [e] at h
 change wpAny _ A.in1 (BB fd f args) _ _ s at h
 rw [EM] at h
 refine codeAny_of_tree ?_
 show wpAny _ A.in1 (callAny (.ref f) args) _ _ s
 simp only [callAny]
 refine wpAny_bind (wpAny_load ho ?_)
 obtain⟨cc,oc,vs,tq,hc,hoc,hdc,hq⟩:=hcd
 simp only [callFunction,hco,hgen,hbody,hc]
 refine wpAny_bind (m:=field (.ref cc) 1) (wpAny_field hoc hdc hq (wpAny_bind (ιp ?_)))
 refine Sim.to (Q:=IC prog w A R) (E:=fun e s'=>R (.error e) s') (Sim.bind fun binds=>Sim.bind fun env=>Sim.pure fun s' hq=>?_) (by rw [hc] at h; exact h)
 obtain⟨hn,hqt,hcode⟩:=hq
 exact wpAny_bind (wpAny_enterFrame hn hroom (ιp ⟨rfl,hcode⟩))
theorem callGoal_bind{α:Type}(m:Sem α)(K:α→Sem PySem.Fin)(s:Shared)(h:wpAny (model prog w) A.in1 m (fun a s'=>(Av prog w A R).J (K a) s') (fun e s'=>(Av prog w A R).J (.raise e) s') s):(Av prog w A R).J (m >>= K) s:=
 BL h
end
theorem pushEnvs_append(a b:List Env)(x:Option (List Env)):pushEnvs (a++b) x=pushEnvs a (pushEnvs b x):=by
 rw [pushEnvs_eq,pushEnvs_eq,pushEnvs_eq]; cases x <;> simp
noncomputable def GT:Ko→Bool
 | .tree=>true
 | .code _=>false
 | .call _ _ _ κ=>GT κ
 | .enter _ _ κ=>GT κ
theorem Eo(AT A:Around):∀ κ,(AV AT A κ).frames=pushEnvs (EW κ) (if GT κ then AT.frames else A.frames)
 | .tree=>rfl
 | .code c=>rfl
 | .call c h _ κ=>by
  show pushEnvs c.envs (AV AT A κ).frames=pushEnvs (c.envs++EW κ) (if GT κ then AT.frames else A.frames)
  rw [Eo AT A κ,pushEnvs_append]
 | .enter h _ κ=>Eo AT A κ
theorem Inv.start{look:Addr→Option Obj}{ro:Nat}{σ:Led}{s:Shared}(hs:∀ a o,look a=some o→s.heap.get? a=some o)(own:∀ p∈σ,s.heap.get? p.1=some p.2)(nd:(σ.map (·.1)).Nodup)(ap:∀ i p,Aq σ i=some p→ro≤i→look p.1=none) :
  Inv look ro s ((σ.drop ro).map (·.1)) σ (s.heap.objs.size+0) (s.toks+0) s where
 same:=rfl
 toks:=rfl
 own:=own
 nd:=nd
 size:=rfl
 stat:=hs
 apart:=ap
 keep:=fun _ _ e _=>e
 mine:=fun i p hi hr=>.inl (by
  clear own nd ap
  induction σ generalizing i ro with
  | nil=>simp [Aq] at hi
  | cons x l ih=>
   cases ro with
   | zero=>exact List.mem_map_of_mem (Bx hi)
   | succ r=>
    cases i with
    | zero=>omega
    | succ i=>exact ih i hi (Nat.le_of_succ_le_succ hr))
 top:=ιR _
noncomputable def DY(h:Heap)(l:List (Option (Addr×Obj))):Prop:=∀ p:Addr×Obj,some p∈l→h.get? p.1=some p.2
theorem Inv.held{look ro s₀ D σ N T s}(I:Inv look ro s₀ D σ N T s)(sel:List Nat){l:List (Option (Addr×Obj))}(e:sel.map (Aq σ)=l):DY s.heap l:=fun p hp=>by
 rw [←e] at hp
 obtain⟨i,_,hi⟩:=List.mem_map.mp hp
 exact I.get hi
section
variable{P:Par}{g:Bq}{hs:List Nat}{as:List Ans}{σ:Led}{m k:Nat}{κ:Ko}{t:Sem PySem.Fin}{s₀ s:Shared}{D:List Addr}{fuel:Nat}
theorem Aw(O:Cx P g){R0:Res}(hR:run P fuel hs as σ m k κ t [] [] []=R0){sel:List Nat}{U V:Nat}{r:Result}{dep envs hd m' k' led}{vs:List Sp}(hv:R0.rv U V sel=⟨R0.exp,.done r,0,dep,envs,hd,m',k',led,vs.map Sp.view,true⟩)
  (ho:∀ v∈vs,AK P g U V v) (I:Inv P.look P.ro s₀ D σ (P.n+m) (P.t+k) s)
  (h:∀ s',Inv P.look P.ro s₀ D R0.led (P.n+m') (P.t+k') s'→DY s'.heap led→g.R r s'):Bn g κ t s:=by
 have e1:R0.act=R0.exp:=congrArg AP.act hv
 have e2:R0.out=.done r:=congrArg AP.out hv
 have e3:R0.ko.kind=0:=congrArg AP.base hv
 have e4:sel.map (Aq R0.led)=led:=congrArg AP.led hv
 have e5:R0.obl.map E2=vs.map Sp.view:=congrArg AP.obl hv
 have e6:R0.m=m':=congrArg AP.m hv
 have e7:R0.k=k':=congrArg AP.k hv
 have e8:Ez U V R0.obl=true:=congrArg AP.ok hv
 refine Df O R0 hR (by rw [e2]; rfl) e1 (Ey e5 e8 ho) I fun s' I'=>?_
 unfold Fb
 rw [e2]
 rw [e6,e7] at I'
 have:=h s' I' (I'.held sel e4)
 show DZ g R0.ko r s'
 cases q:R0.ko with
 | tree=>rw [q] at e3; cases e3
 | code c=>exact this
 | call=>rw [q] at e3; cases e3
 | enter=>rw [q] at e3; cases e3
theorem Al(O:Cx P g){R0:Res}(hR:run P fuel hs as σ m k κ t [] [] []=R0){sel:List Nat}{U V:Nat}{r:Result}{dep envs hd m' k' led}{vs:List Sp}(hv:R0.rv U V sel=⟨R0.exp,.done r,1,dep,envs,hd,m',k',led,vs.map Sp.view,true⟩)
  (ho:∀ v∈vs,AK P g U V v) (I:Inv P.look P.ro s₀ D σ (P.n+m) (P.t+k) s)
  (h:∀ s',Inv P.look P.ro s₀ D R0.led (P.n+m') (P.t+k') s'→DY s'.heap led→g.J (leafOf r) s'):Bn g κ t s:=by
 have e1:R0.act=R0.exp:=congrArg AP.act hv
 have e2:R0.out=.done r:=congrArg AP.out hv
 have e3:R0.ko.kind=1:=congrArg AP.base hv
 have e4:sel.map (Aq R0.led)=led:=congrArg AP.led hv
 have e5:R0.obl.map E2=vs.map Sp.view:=congrArg AP.obl hv
 have e6:R0.m=m':=congrArg AP.m hv
 have e7:R0.k=k':=congrArg AP.k hv
 have e8:Ez U V R0.obl=true:=congrArg AP.ok hv
 refine Df O R0 hR (by rw [e2]; rfl) e1 (Ey e5 e8 ho) I fun s' I'=>?_
 unfold Fb
 rw [e2]
 rw [e6,e7] at I'
 have:=h s' I' (I'.held sel e4)
 show DZ g R0.ko r s'
 cases q:R0.ko with
 | tree=>exact this
 | code c=>rw [q] at e3; cases e3
 | call=>rw [q] at e3; cases e3
 | enter=>rw [q] at e3; cases e3
theorem use_again(O:Cx P g){R0:Res}(hR:run P fuel hs as σ m k κ t [] [] []=R0){sel:List Nat}{U V:Nat}{c:Code}{base dep envs hd m' k' led}{vs:List Sp}(hv:R0.rv U V sel=⟨R0.exp,.again c,base,dep,envs,hd,m',k',led,vs.map Sp.view,true⟩)
  (ho:∀ v∈vs,AK P g U V v) (I:Inv P.look P.ro s₀ D σ (P.n+m) (P.t+k) s)
  (h:∀ s',Inv P.look P.ro s₀ D R0.led (P.n+m') (P.t+k') s'→DY s'.heap led→GN g R0.ko (DZ g R0.ko) c s'):Bn g κ t s:=by
 have e1:R0.act=R0.exp:=congrArg AP.act hv
 have e2:R0.out=.again c:=congrArg AP.out hv
 have e4:sel.map (Aq R0.led)=led:=congrArg AP.led hv
 have e5:R0.obl.map E2=vs.map Sp.view:=congrArg AP.obl hv
 have e6:R0.m=m':=congrArg AP.m hv
 have e7:R0.k=k':=congrArg AP.k hv
 have e8:Ez U V R0.obl=true:=congrArg AP.ok hv
 refine Df O R0 hR (by rw [e2]; rfl) e1 (Ey e5 e8 ho) I fun s' I'=>?_
 unfold Fb
 rw [e2]
 rw [e6,e7] at I'
 exact h s' I' (I'.held sel e4)
theorem AR(O:Cx P g){R0:Res}(hR:run P fuel hs as σ m k κ t [] [] []=R0){sel:List Nat}{U V:Nat}{c:Code}{dep envs hd m' k' led}{vs:List Sp}(hv:R0.rv U V sel=⟨R0.exp,.again c,1,dep,envs,hd,m',k',led,vs.map Sp.view,true⟩)
  (ho:∀ v∈vs,AK P g U V v) (I:Inv P.look P.ro s₀ D σ (P.n+m) (P.t+k) s)
  (h:∀ s',Inv P.look P.ro s₀ D R0.led (P.n+m') (P.t+k') s'→DY s'.heap led→g.J (.pure (.again c)) s'):Bn g κ t s:=
 use_again O hR hv ho I fun s' I' H=>by
  have e3:R0.ko.kind=1:=congrArg AP.base hv
  cases q:R0.ko with
  | tree=>exact h s' I' H
  | code c=>rw [q] at e3; cases e3
  | call=>rw [q] at e3; cases e3
  | enter=>rw [q] at e3; cases e3
theorem CJ(O:Cx P g){R0:Res}(hR:run P fuel hs as σ m k κ t [] [] []=R0){sel:List Nat}{U V:Nat}{c:Code}{dep envs m' k' led base}{vs:List Sp}(hv:R0.rv U V sel=⟨R0.exp,.call c,base,dep,envs,none,m',k',led,vs.map Sp.view,true⟩)(hh:AE P.hd R0.ko=P.hd)
  (ho:∀ v∈vs,AK P g U V v) (I:Inv P.look P.ro s₀ D σ (P.n+m) (P.t+k) s)
  (h:∀ A s',A.depth≤max g.AT.depth g.A.depth+dep→A.units≤max g.AT.units g.A.units+10*Cn R0.ko→A.handled=g.A.handled→A.frames=pushEnvs envs (if GT R0.ko then g.AT.frames else g.A.frames)→
   Inv P.look P.ro s₀ D R0.led (P.n+m') (P.t+k') s'→DY s'.heap led→codeAny (model g.prog g.w) A c (fun r s''=>Bn g R0.ko (R0.kk r) s'') s'):Bn g κ t s:=by
 have e1:R0.act=R0.exp:=congrArg AP.act hv
 have e2:R0.out=.call c:=congrArg AP.out hv
 have e3:AX R0.ko=dep:=congrArg AP.dep hv
 have e6:EW R0.ko=envs:=congrArg AP.envs hv
 have e7:R0.hd=none:=congrArg AP.hd hv
 have e4:sel.map (Aq R0.led)=led:=congrArg AP.led hv
 have e5:R0.obl.map E2=vs.map Sp.view:=congrArg AP.obl hv
 have e8:R0.m=m':=congrArg AP.m hv
 have e9:R0.k=k':=congrArg AP.k hv
 have e10:Ez U V R0.obl=true:=congrArg AP.ok hv
 refine Df O R0 hR (by rw [e2]; rfl) e1 (Ey e5 e10 ho) I fun s' I'=>?_
 unfold Fb
 rw [e2,e7]
 rw [e8,e9] at I'
 refine h _ s' ?_ ?_ ?_ ?_ I' (I'.held sel e4)
 ·rw [←e3]; exact CH ..
 ·exact De ..
 ·show none.or (AV g.AT g.A R0.ko).handled=_
  rw [BW _ _ (O.hdT.symm.trans O.hd),←O.hd]
  exact hh
 ·rw [←e6]; exact Eo ..
end
theorem Inv.toChg{look s σ N T s'}{us:Led}{os:List Obj}{gr dk:Nat}{ro:Nat}{D:List Addr}(I:Inv look ro s D σ N T s')(hD:D=us.map (·.1))(hT:T=s.toks+dk)(hN:N=s.heap.objs.size+gr)(hu:DY s'.heap (((us.map (·.1)).zip os).map some)):Chg us os [] gr dk s s' where
 same:=I.same
 toks:=I.toks.trans hT
 size:=I.size.trans hN
 keep:=fun b o e hb=>I.keep b o e (by rw [hD]; exact hb)
 upd:=fun p hp=>hu p (List.mem_map_of_mem hp)
 new:=fun p hp=>nomatch hp
structure Aft(D:List Addr)(s s':Shared):Prop where
 same:s'={s with heap:=s'.heap,toks:=s'.toks,gens:=s'.gens}
 gens:By s.gens s'.gens
 keep:∀ b o,s.heap.get? b=some o→b∉D→s'.heap.get? b=some o
 size:s.heap.objs.size≤s'.heap.objs.size
theorem Aft.refl(D:List Addr)(s:Shared):Aft D s s:=⟨rfl,By.refl _,fun _ _ e _=>e,ιR _⟩
theorem Aft.trans{D:List Addr}{s s' s'':Shared}(a:Aft D s s')(b:Aft D s' s''):Aft D s s'' where
 same:=smT a.same b.same
 gens:=a.gens.trans b.gens
 keep:=fun x o e hx=>b.keep x o (a.keep x o e hx) hx
 size:=ιT a.size b.size
theorem Aft.mono{D D':List Addr}{s s':Shared}(a:Aft D s s')(h:∀ x∈D,x∈D'):Aft D' s s':=⟨a.same,a.gens,fun b o e hb=>a.keep b o e fun x=>hb (h b x),a.size⟩
theorem Gc{s s':Shared}(h:s'={s with heap:=s'.heap,toks:=s'.toks}):s'={s with heap:=s'.heap,toks:=s'.toks,gens:=s'.gens}∧By s.gens s'.gens:=by
 cases s; cases s'
 simp only [Shared.mk.injEq] at h ⊢
 exact⟨⟨trivial,trivial,h.2.2.1,trivial,h.2.2.2.2⟩,by rw [h.2.1]; exact By.refl _⟩
theorem Inv.aft{look ro s₀ D σ N T s}(I:Inv look ro s₀ D σ N T s):Aft D s₀ s:=⟨(Gc I.same).1,(Gc I.same).2,I.keep,by rw [I.size]; exact I.top⟩
theorem Aft.drop{D D':List Addr}{s s':Shared}(a:Aft D s s')(h:∀ x∈D,x∈D'∨s.heap.objs.size≤x):Aft D' s s':=⟨a.same,a.gens,fun b o e hb=>a.keep b o e fun x=>by
 rcases h b x with q | q
 ·exact hb q
 ·exact Nat.lt_irrefl _ (ιL (ιH e) q),a.size⟩
noncomputable def Hj(N:Nat):KT→Nat→Nat→Bool
 | .nil,_,_=>true
 | .node v l r,s,b=>(match v with | none=>true | some _=>Nat.blt b N)&&(Hj N l (2*s) (s+b)&&Hj N r (2*s) (2*s+b))
theorem EJ{N:Nat}:∀ {t:KT} {s b:Nat},Hj N t s b=true→∀ {j:Nat} {o:Obj},t.get j=some o→s*j+b<N
 | .nil,_,_,_,_,_,e=>by cases e
 | .node v l r,s,b,H,j,o,e=>by
  rw [KT.get_node] at e
  simp only [Hj,Bool.and_eq_true] at H
  by_cases h0:j=0
  ·subst h0
   rw [if_pos rfl] at e
   have:=H.1
   subst e
   have:=blt_true this
   exact ωf this
  ·rw [if_neg h0] at e
   by_cases p:j%2=1
   ·rw [if_pos p] at e
    have z:=EJ H.2.1 e
    have:2*s*(j/2)+(s+b)=s*j+b:=by
     have hj:j=2*(j/2)+1:=ωg p
     generalize j/2=q at hj
     subst hj
     rw [Nat.mul_add,Nat.mul_one,←Nat.mul_assoc,Nat.mul_comm s 2]; exact ωh
    exact ωi z this
   ·rw [if_neg p] at e
    have z:=EJ H.2.2 e
    have:2*s*(j/2-1)+(2*s+b)=s*j+b:=by
     have hj:j=2*(j/2-1)+2:=ωj h0 p
     generalize j/2-1=q at hj
     subst hj
     rw [Nat.mul_add,←Nat.mul_assoc,Nat.mul_comm s 2]; exact ωk
    exact ωl z this
noncomputable def NF(D:List Addr)(h h':Heap):Prop:=∀ b o,h.get? b=some o→b∉D→(∀ vs,o.data≠.fields vs)→∃ sl,h'.get? b=some {o with slots:=sl}
theorem NF.trans{D:List Addr}{h h' h'':Heap}(x:NF D h h')(y:NF D h' h''):NF D h h'':=fun b o e hb hd=>by
 obtain⟨sl,e1⟩:=x b o e hb hd
 obtain⟨sl',e2⟩:=y b _ e1 hb hd
 exact⟨sl',e2⟩
theorem NF.ME{D:List Addr}{s s':Shared}(a:Aft D s s'):NF D s.heap s'.heap:=fun b o e hb _=>⟨o.slots,a.keep b o e hb⟩
theorem NF.mono{D D':List Addr}{h h':Heap}(x:NF D h h')(k:∀ a∈D,a∈D'):NF D' h h':=fun b o e hb hd=>x b o e (fun q=>hb (k b q)) hd
noncomputable def KX(F:List Addr)(h h':Heap):Prop:=∀ b o,h.get? b=some o→b∉F→h'.get? b=some o
theorem KX.trans{F G H:List Addr}{h h' h'':Heap}(x:KX F h h')(y:KX G h' h'')(hF:∀ b∈F,b∈H)(hG:∀ b∈G,b∈H∨h.get? b=none):KX H h h'':=fun b o e hb=>y b o (x b o e fun q=>hb (hF b q)) fun q=>by
 rcases hG b q with r | r
 ·exact hb r
 ·rw [e] at r; cases r
structure Fly(base:Heap)(l:List Env)(cls:Value)(e d T:Addr)(fl:Value)(h:Heap):Prop where
 stays:base.StaysIn h
 frames:h.FunFrames base l
 en:base.get? e=none
 tn:base.get? T=none
 ne:T≠e
 exc:∃ oe vs,h.get? e=some oe∧oe.cls=cls∧oe.dict=some d∧oe.data=.fields vs∧vs[1]? = some (.ref T)
 tb:∃ oT ts,h.get? T=some oT∧oT.data=.fields ts∧ts[3]? = some fl
theorem Iu{h:Heap}{a:Nat}(ha:h.objs.size≤a):h.get? a=none:=by
 cases q:h.get? a with
 | none=>rfl
 | some o=>exact absurd (ιL (ιH q) ha) (Nat.lt_irrefl _)
section
variable{M:Model}{A:Around}{E:Value→Shared→Prop}{s:Shared}
theorem Gr{base:Heap}{env:Env}{outer:List Env}{L e d:Addr}{oe:Obj}{vs:Array Value}{head:Value}{hadNext:Bool}{Q:Unit→Shared→Prop}
  (hfr:A.frames=some (env::outer)) (hl:s.heap.FunFrames base (env::outer)) (hf:env.frame=some L)
  (he:s.heap.get? e=some oe) (hkb:base.StaysIn s.heap) (hen:base.get? e=none) (hdct:oe.dict=some d) (hd:oe.data=.fields vs) (hsz:1<vs.size)
  (h:∀ h' T,Fly base (env::outer) oe.cls e d T (rawInt L) h'→NF [] s.heap h'→s.heap.objs.size≤h'.objs.size→s.heap.objs.size≤T→KX (e::(env::outer).filterMap (·.frame)) s.heap h'→Q () {s with heap:=h'}) :
  wpAny M A (do let a←frameOf env; let pl←entryPlaceOf L hadNext; let b←EntryCells.newEntry head a .none (rawInt L) .none pl; setField (.ref e) 1 b) Q E s:=by
 have hene:e∉(env::outer).filterMap (·.frame):=fun hm=>by
  obtain⟨_,o,ho,hnf⟩:=hl.mem hm
  rw [he] at ho; injection ho with ho; subst ho; exact hnf vs hd
 refine wpAny_bind (wpAny_frameOf_fun hfr hl hf fun h₁ hs₁=>?_)
 refine wpAny_bind (wpAny_entryPlaceOf fun pl hpl=>?_)
 unfold EntryCells.newEntry newFields
 refine wpAny_bind (wpAny_newObj_type ?_ (hpl.sizeOk5 _ _ _ _ _))
 generalize hT0:({cls:=.type "traceback",data:=.fields ([head,.ref L,.none,rawInt L,.none]++(if pl.isEmpty then List.replicate 6 Value.none else pl)).toArray}:Obj)=oT
 have dT:oT.data=.fields ([head,.ref L,.none,rawInt L,.none]++(if pl.isEmpty then List.replicate 6 Value.none else pl)).toArray:=by subst hT0; rfl
 have fT:oT.isFreed=false:=by subst hT0; rfl
 have he₁:h₁.get? e=some oe:=(hs₁.2.1 e hene).trans he
 have he₂:=Heap.get?_push_of_some (h:=h₁) oT he₁
 have lte:e<h₁.objs.size:=ιH he₁
 have hTe:h₁.objs.size≠e:=Nat.ne_of_gt lte
 have hd₃:=Obj.data_mapFields hd (·.setIfInBounds 1 (Value.ref h₁.objs.size))
 refine wpAny_setField he₂ hd hsz (h _ h₁.objs.size ?_ ?_ ?_ (Nat.le_of_eq hs₁.1.symm) fun b o hb hn=>?_)
 ·have keep:∀ b o,b≠e→h₁.get? b=some o→((h₁.push oT).update e (Obj.mapFields (·.setIfInBounds 1 (Value.ref h₁.objs.size)))).get? b=some o:=fun b o hbe hb=>
   (Heap.get?_update_other _ _ (Ne.symm hbe)).trans (Heap.get?_push_of_some _ hb)
  have noRec:∀ b o,s.heap.get? b=some o→(∀ vs,o.data≠.fields vs)→b≠e:=fun b o hb hnf q=>by
   rw [q,he] at hb; injection hb with hb; subst hb; exact hnf vs hd
  have kb₁:base.StaysIn h₁:=fun b o hbo=>(hs₁.2.1 b fun hm=>by rw [(hl.mem hm).1] at hbo; cases hbo).trans (hkb b o hbo)
  refine⟨fun b o hbo=>keep b o (fun q=>by rw [q,hen] at hbo; cases hbo) (kb₁ b o hbo),hl.of_keeps fun b o hb hnf=>?_,hen,kb₁.fresh,hTe,
   ⟨_,_,Heap.get?_update_self _ he₂ (Obj.isFreed_of_fields hd₃),Obj.cls_mapFields _ _,?_,hd₃,by simp [hsz]⟩,⟨oT,_,?_,dT,rfl⟩⟩
  ·obtain⟨sl,hs⟩:=hs₁.2.2 b o hb
   exact⟨_,keep b _ (noRec b o hb hnf) hs,rfl⟩
  ·rw [←hdct]; unfold Obj.mapFields; split <;> rfl
  ·exact(Heap.get?_update_other _ _ (Ne.symm hTe)).trans (Heap.get?_push_size h₁ fT)
 ·intro b o hb _ hnf
  have hbe:b≠e:=fun q=>by
   rw [q,he] at hb; injection hb with hb; subst hb; exact hnf vs hd
  obtain⟨sl,hs⟩:=hs₁.2.2 b o hb
  exact⟨sl,(Heap.get?_update_other _ _ (Ne.symm hbe)).trans (Heap.get?_push_of_some _ hs)⟩
 ·rw [Heap.size_update,Heap.size_push,hs₁.1]; exact Nat.le_succ _
 ·refine(Heap.get?_update_other _ _ fun q=>hn (by rw [←q]; exact .head _)).trans (Heap.get?_push_of_some _ ((hs₁.2.1 b fun q=>hn (.tail _ q)).trans hb))
theorem note_first{base:Heap}{env:Env}{outer:List Env}{L e d:Addr}{oe:Obj}{vs:Array Value}{Q:Unit→Shared→Prop}
  (hfr:A.frames=some (env::outer)) (hl:s.heap.FunFrames base (env::outer)) (hf:env.frame=some L)
  (he:s.heap.get? e=some oe) (hkb:base.StaysIn s.heap) (hen:base.get? e=none) (hdct:oe.dict=some d) (hd:oe.data=.fields vs) (h1:vs[1]? = some .none)
  (h:∀ h' T,Fly base (env::outer) oe.cls e d T (rawInt L) h'→NF [] s.heap h'→s.heap.objs.size≤h'.objs.size→s.heap.objs.size≤T→KX (e::(env::outer).filterMap (·.frame)) s.heap h'→Q () {s with heap:=h'}):wpAny M A (noteFrame (.ref e) env) Q E s:=by
 unfold noteFrame
 simp only [hf]
 refine wpAny_bind (wpAny_field he hd h1 ?_)
 rw [if_neg (by decide)]
 exact Gr hfr hl hf he hkb hen hdct hd (Array.getElem?_eq_some_iff.mp h1).1 h
theorem Gh{base:Heap}{env:Env}{outer:List Env}{L e d T:Addr}{cls:Value}{Q:Unit→Shared→Prop}
  (hfr:A.frames=some (env::outer)) (hf:env.frame=some L) (F:Fly base (env::outer) cls e d T .none s.heap)
  (h:∀ h' T',Fly base (env::outer) cls e d T' (rawInt L) h'→NF [] s.heap h'→s.heap.objs.size≤h'.objs.size→s.heap.objs.size≤T'→KX (e::T::(env::outer).filterMap (·.frame)) s.heap h'→Q () {s with heap:=h'}):wpAny M A (noteFrame (.ref e) env) Q E s:=by
 obtain⟨f1,f2,f3,f4,f5,⟨oe,vs,he,hcls,hdct,hd,h1⟩,⟨oT,ts,hT,hdT,h3⟩⟩:=F
 subst hcls
 unfold noteFrame
 simp only [hf]
 refine wpAny_bind (wpAny_field he hd h1 ?_)
 rw [if_pos (show(Value.ref T != Value.none)=true from by simp)]
 refine wpAny_bind (wpAny_field hT hdT h3 ?_)
 rw [if_neg (show ¬ ((Value.none == rawInt L)=true) from by simp [rawInt])]
 refine wpAny_bind (wpAny_setField hT hdT (Array.getElem?_eq_some_iff.mp h3).1 ?_)
 have other:∀ b,b≠T→(s.heap.update T (Obj.mapFields (·.setIfInBounds 3 Value.none))).get? b=s.heap.get? b:=fun b hb=>Heap.get?_update_other _ _ (Ne.symm hb)
 have noRec:∀ b o,s.heap.get? b=some o→(∀ vs,o.data≠.fields vs)→b≠T:=fun b o hb hnf q=>by
  rw [q,hT] at hb; injection hb with hb; subst hb; exact hnf ts hdT
 refine Gr hfr (f2.of_keeps fun b o hb hnf=>⟨o,(other b (noRec b o hb hnf)).trans hb,rfl⟩) hf ((other e (Ne.symm f5)).trans he)
  (fun b o hbo=>(other b fun q=>by rw [q,f4] at hbo; cases hbo).trans (f1 b o hbo)) f3 hdct hd (Array.getElem?_eq_some_iff.mp h1).1
  fun h' T' F' N' z zT K'=>h h' T' F' (fun b o hb hq hnf=>N' b o ((other b (noRec b o hb hnf)).trans hb) hq hnf) (by rw [←Heap.size_update s.heap T]; exact z) (by rw [←Heap.size_update s.heap T]; exact zT)
   fun b o hb hn=>K' b o ((other b fun q=>hn (by rw [q]; exact .tail _ μ0)).trans hb) fun q=>hn (by
    rcases ιC q with q | q
    ·rw [q]; exact .head _
    ·exact .tail _ (.tail _ q))
theorem Gi{base:Heap}{env:Env}{l:List Env}{L e d T:Addr}{cls:Value}{Q:Unit→Shared→Prop}
  (hf:env.frame=some L) (F:Fly base l cls e d T (rawInt L) s.heap) (h:Q () s):wpAny M A (noteFrame (.ref e) env) Q E s:=by
 obtain⟨f1,f2,f3,f4,f5,⟨oe,vs,he,hcls,hdct,hd,h1⟩,⟨oT,ts,hT,hdT,h3⟩⟩:=F
 unfold noteFrame
 simp only [hf]
 refine wpAny_bind (wpAny_field he hd h1 ?_)
 rw [if_pos (show(Value.ref T != Value.none)=true from by simp)]
 refine wpAny_bind (wpAny_field hT hdT h3 ?_)
 rw [if_pos (by simp)]
 exact ιp h
theorem Eg{base:Heap}{l:List Env}{e d T:Addr}{cls fl:Value}{x:Option Addr}{Q:Unit→Shared→Prop}(F:Fly base l cls e d T fl s.heap)
  (h:∀ h',Fly base l cls e d T (x.elim .none fun f=>rawInt f) h'→NF [] s.heap h'→s.heap.objs.size≤h'.objs.size→KX [T] s.heap h'→Q () {s with heap:=h'}):wpAny M A (setFlight (.ref e) x) Q E s:=by
 obtain⟨f1,f2,f3,f4,f5,⟨oe,vs,he,hcls,hdct,hd,h1⟩,⟨oT,ts,hT,hdT,h3⟩⟩:=F
 unfold setFlight
 refine wpAny_bind (wpAny_field he hd h1 ?_)
 rw [if_pos (show(Value.ref T != Value.none)=true from by simp)]
 refine wpAny_setField hT hdT (Array.getElem?_eq_some_iff.mp h3).1 ?_
 have other:∀ b,b≠T→(s.heap.update T (Obj.mapFields (·.setIfInBounds 3 (x.elim .none fun f=>rawInt f)))).get? b=s.heap.get? b:=fun b hb=>Heap.get?_update_other _ _ (Ne.symm hb)
 have noRec:∀ b o,s.heap.get? b=some o→(∀ vs,o.data≠.fields vs)→b≠T:=fun b o hb hnf q=>by
  rw [q,hT] at hb; injection hb with hb; subst hb; exact hnf ts hdT
 have hdT':=Obj.data_mapFields hdT (·.setIfInBounds 3 (x.elim Value.none fun f=>rawInt f))
 have h3':=(Array.getElem?_eq_some_iff.mp h3).1
 refine h _ ⟨fun b o hbo=>(other b fun q=>by rw [q,f4] at hbo; cases hbo).trans (f1 b o hbo),f2.of_keeps fun b o hb hnf=>⟨o,(other b (noRec b o hb hnf)).trans hb,rfl⟩,f3,f4,f5,
  ⟨oe,vs,(other e (Ne.symm f5)).trans he,hcls,hdct,hd,h1⟩,⟨_,_,Heap.get?_update_self _ hT (Obj.isFreed_of_fields hdT'),hdT',by simp [h3']⟩⟩
  (fun b o hb _ hnf=>⟨o.slots,(other b (noRec b o hb hnf)).trans hb⟩) (by rw [Heap.size_update]; exact ιR _) (fun b o hb hn=>(other b fun q=>hn (by rw [q]; exact .head _)).trans hb)
theorem leave_first{base:Heap}{env:Env}{outer:List Env}{L e d:Addr}{oe:Obj}{vs:Array Value}{Q:Unit→Shared→Prop}
  (hfr:A.frames=some (env::outer)) (hl:s.heap.FunFrames base (env::outer)) (hf:env.frame=some L)
  (he:s.heap.get? e=some oe) (hkb:base.StaysIn s.heap) (hen:base.get? e=none) (hdct:oe.dict=some d) (hd:oe.data=.fields vs) (h1:vs[1]? = some .none)
  (h:∀ h' T,Fly base (env::outer) oe.cls e d T .none h'→NF [] s.heap h'→s.heap.objs.size≤h'.objs.size→s.heap.objs.size≤T→KX (e::(env::outer).filterMap (·.frame)) s.heap h'→Q () {s with heap:=h'}):wpAny M A (leaving env (.ref e)) Q E s:=by
 unfold leaving
 refine wpAny_bind (note_first hfr hl hf he hkb hen hdct hd h1 fun h' T F N z zT K=>?_)
 exact Eg (s:={s with heap:=h'}) (x:=none) F fun h'' F' N' z' K'=>h h'' T F' (N.trans N') (ιT z z') zT (K.trans K' (fun _ q=>q) fun b q=>.inr (by rw [ιS q]; exact Iu zT))
theorem leave_next{base:Heap}{env:Env}{outer:List Env}{L e d T:Addr}{cls:Value}{Q:Unit→Shared→Prop}
  (hfr:A.frames=some (env::outer)) (hf:env.frame=some L) (F:Fly base (env::outer) cls e d T .none s.heap)
  (h:∀ h' T',Fly base (env::outer) cls e d T' .none h'→NF [] s.heap h'→s.heap.objs.size≤h'.objs.size→s.heap.objs.size≤T'→KX (e::T::(env::outer).filterMap (·.frame)) s.heap h'→Q () {s with heap:=h'}):wpAny M A (leaving env (.ref e)) Q E s:=by
 unfold leaving
 refine wpAny_bind (Gh hfr hf F fun h' T F N z zT K=>?_)
 exact Eg (s:={s with heap:=h'}) (x:=none) F fun h'' F' N' z' K'=>h h'' T F' (N.trans N') (ιT z z') zT (K.trans K' (fun _ q=>q) fun b q=>.inr (by rw [ιS q]; exact Iu zT))
theorem Fly.tail{base:Heap}{env:Env}{outer:List Env}{cls:Value}{e d T:Addr}{fl:Value}{h:Heap}(F:Fly base (env::outer) cls e d T fl h):Fly base outer cls e d T fl h:=by
 obtain⟨f1,⟨_,_,f2⟩,r1,r2,r3,r4,r5⟩:=F
 exact⟨f1,f2,r1,r2,r3,r4,r5⟩
end
noncomputable abbrev J0:Code→Sem PySem.Fin:=PySem.W.Fast.tw11892475500146522536 PySem.W.Fast.tw14364793385576792824
theorem Fk:J0=denote table:=by
 rw [table_eq_tree,PySem.W.Fast.te11892475500146522536,PySem.W.Fast.te14364793385576792824]
noncomputable def pr2:Program:=PySem.Challenge.rw_rk0007_02.row.toRowW.prog
noncomputable def lk(w:World)(a:Addr):Option Obj:=(ktY w.params).get a
noncomputable def M5:List Nat:=[36,68,102,146,173,201,216,223,230,237,244,265,295,373,387,406,434,441,469,476,483,490,497,504,511,518]
noncomputable def HI(a:Nat):Bool:=M5.any (Nat.beq a)
noncomputable def lkX(w:World)(ext:Addr→Option Obj)(a:Addr):Option Obj:=match lk w a with
 | some o=>some o
 | none=>ext a
structure Fl where
 gr:Bool
 fd:Bool
 tw:Bool
noncomputable def Fu(p:Params)(row:String)(b:Bool):Params:={p with followText:=fun r=>if r=row then b else p.followText r}
noncomputable def pf(w:World)(f:Fl):Params:=Fu (Fu (Fu w.params "special-get-raises" f.gr) "for-iterable-display-folded" f.fd) "comprehension-iter-twice" f.tw
noncomputable def Ax(w:World):Fl:=⟨w.params.followText "special-get-raises",w.params.followText "for-iterable-display-folded",w.params.followText "comprehension-iter-twice"⟩
theorem Dz(p:Params)(row:String)(b:Bool)(h:p.followText row=b):Fu p row b=p:=by
 have:(fun r=>if r=row then b else p.followText r)=p.followText:=funext fun r=>by
  by_cases e:r=row
  ·rw [if_pos e,←h,e]
  ·rw [if_neg e]
 unfold Fu; rw [this]
theorem Ib(w:World):pf w (Ax w)=w.params:=by
 have e1:=Dz w.params "special-get-raises" _ rfl
 have e2:=Dz w.params "for-iterable-display-folded" _ rfl
 have e3:=Dz w.params "comprehension-iter-twice" _ rfl
 unfold pf Ax
 rw [e1,e2,e3]
noncomputable def P2(w:World)(f:Fl)(ext:Addr→Option Obj)(n t ro:Nat):Par:=⟨lkX w ext,J0,⟨pr2,pf w f⟩,none,n,t,ro,60,HI,true⟩
noncomputable def P3(w:World)(f:Fl)(ext:Addr→Option Obj)(n t ro:Nat):Par:=⟨lkX w ext,J0,⟨pr2,pf w f⟩,none,n,t,ro,0,fun _=>false,false⟩
noncomputable def P4(w:World)(f:Fl)(ext:Addr→Option Obj)(n t ro:Nat):Par:=⟨lkX w ext,J0,⟨pr2,pf w f⟩,none,n,t,ro,60,HI,false⟩
noncomputable abbrev CW(e:Expr)(env:Env):Sem PySem.Fin:=PySem.W.R.bindR (PySem.W.Fast.tw14044960220447912780 e env) fun v=>.pure (.done (.ret v))
noncomputable abbrev KY(v:Value)(name:Str):Sem PySem.Fin:=PySem.W.R.bindR (PySem.W.Fast.tw4926136581373384958 v name true) fun v=>.pure (.done (.ret v))
noncomputable abbrev EN(g b:Addr):Sem PySem.Fin:=PySem.W.R.bindR (PySem.W.Fast.tw6600643334278800223 g b) fun v=>.pure (.done (.ret (.ref v)))
noncomputable abbrev CS(env:Env)(x:Str)(v:Value)(rest:List Stmt):Sem PySem.Fin:=PySem.W.R.bindR (PySem.W.Fast.tw7536695828754713326 env x v) fun _=>PySem.W.R.bindR (PySem.W.Fast.tw12563942051412417395 rest env) fun f=>.pure (.done f)
noncomputable abbrev Az(body:List Stmt)(env:Env):Sem PySem.Fin:=PySem.W.R.bindR (PySem.W.Fast.tw12563942051412417395 body env) fun f=>.pure (.done f)
theorem DV(body:List Stmt)(env:Env):Az body env=(execs body env >>= fun v=>pure (.done v)):=by
 unfold Az
 rw [←PySem.W.R.bindR_eq,←PySem.W.Fast.te12563942051412417395]
 rfl
noncomputable def Af(w:World)(f:Nat)(L:Nat):Env:=FR (B5 (lk w f)) f L []
noncomputable def A0(w:World)(f:Nat):List Stmt:=DJ (B5 (lk w f))
theorem DH(e:Expr)(env:Env):CW e env=(eval e env >>= fun v=>pure (.done (.ret v))):=by
 unfold CW
 rw [←PySem.W.R.bindR_eq,←PySem.W.Fast.te14044960220447912780]
 rfl
theorem getT_eq(v:Value)(name:Str):KY v name=(getAttr v name true >>= fun v=>pure (.done (.ret v))):=by
 unfold KY
 rw [←PySem.W.R.bindR_eq,←PySem.W.Fast.te4926136581373384958]
 rfl
theorem builtinsT_eq(g b:Addr):EN g b=(builtinsFor g b >>= fun v=>pure (.done (.ret (.ref v)))):=by
 unfold EN
 rw [←PySem.W.R.bindR_eq,←PySem.W.Fast.te6600643334278800223]
 rfl
theorem EZ(env:Env)(x:Str)(v:Value)(rest:List Stmt):CS env x v rest=(bindName env x v >>= fun _=>execs rest env >>= fun f=>pure (.done f)):=by
 unfold CS
 rw [←PySem.W.R.bindR_eq,←PySem.W.Fast.te7536695828754713326,←PySem.W.Fast.te12563942051412417395]
 rfl
noncomputable def de(w:World)(nm:Str)(k:Nat)(v:Value):DictEntry:=⟨PyData.keyHash w.params nm,.str nm k,v⟩
noncomputable def ent(w:World)(ext:Addr→Option Obj)(f:Addr)(args:List Value):Sem PySem.Fin:=BB (B5 (lkX w ext f)) f ⟨args,[]⟩
theorem fns_ok(w:World)(ext:Addr→Option Obj):(M5.all fun a=>FO (lkX w ext) (lkX w ext a))=true:=by kernel_rfl
theorem kt_all(w:World):Hj 524 (ktY w.params) 1 0=true:=by kernel_rfl
theorem Cj(w:World)(a:Nat)(h:524≤a):lk w a=none:=by
 unfold lk
 cases e:(ktY w.params).get a with
 | none=>rfl
 | some o=>
  have q:1*a+0<524:=EJ (kt_all w) e
  exact absurd q (ωm h)
structure Ae(w:World):Prop where
 nolimit:∀ h:Heap,(∀ a o,lk w a=some o→h.get? a=some o)→h.NoLimit
noncomputable def Ak(w:World)(ext:Addr→Option Obj)(s:Shared):Prop:=∀ a o,lkX w ext a=some o→s.heap.get? a=some o
theorem Ak.new{w ext s}(S:Ak w ext s)(a:Nat)(h:s.heap.objs.size≤a):lkX w ext a=none:=by
 cases e:lkX w ext a with
 | none=>rfl
 | some o=>exact absurd (ιL (ιH (S a o e)) h) (Nat.lt_irrefl _)
theorem Ak.aft{w ext s s' D}(S:Ak w ext s)(C:Aft D s s')(ap:∀ a∈D,lkX w ext a=none):Ak w ext s':=fun a o e=>C.keep a o (S a o e) fun h=>by
 rw [ap a h] at e; cases e
structure Ar(A:Around)(d:Nat):Prop where
 handled:A.handled=none
 depth:A.depth+d<recursionLimit
 units:A.units+10*d<cLine
theorem Ar.le{A d d'}(R:Ar A d)(h:d'≤d):Ar A d':=⟨R.handled,by have:=R.depth; exact ωn h this,by have:=R.units; exact ωo h this⟩
theorem BA(w:World)(ext)(a:Addr)(h:HI a=true):FO (lkX w ext) (lkX w ext a)=true:=by
 obtain⟨b,hb,e⟩:=List.any_eq_true.mp h
 have:=Nat.eq_of_beq_eq_true e
 subst this
 exact List.all_eq_true.mp (fns_ok w ext) _ hb
variable{E:Value→Shared→Prop}{R:Result→Shared→Prop}{Q:Flow→Shared→Prop}
theorem BC{w:World}(W:Ae w){ext t ro s}(S:Ak w ext s){A:Around}{d:Nat}(hA:Ar A d)(hd:60≤d):Cx (P2 w (Ax w) ext s.heap.objs.size t ro) (Av pr2 w A R) where
 den:=Fk
 S:=by show(⟨pr2,pf w (Ax w)⟩:Setting)=⟨pr2,w.params⟩; rw [Ib]
 hd:=hA.handled.symm
 hdT:=hA.handled.symm
 new:=S.new
 nolim:=fun h H=>W.nolimit h fun a o e=>H a o (by show(match lk w a with | some o=>some o | none=>ext a)=_; rw [e])
 fns:=BA w ext
 dmax:=fun _ _=>by show max A.depth A.depth+60<recursionLimit; have:=hA.depth; exact ωp hd this
 bind:=callGoal_bind
 enter:=fun _ c s' hs hq hc=>ιp ⟨W.nolimit _ fun a o e=>hs a o (by show(match lk w a with | some o=>some o | none=>ext a)=_; rw [e]),hq,hc⟩
noncomputable def Ac(prog:Program)(w:World)(A:Around)(Fi:PySem.Fin→Shared→Prop)(E:Value→Shared→Prop):Bq:=
 ⟨prog,w,A,A,fun t s=>wpAny (model prog w) A t Fi E s,fun _ _=>True⟩
theorem Ei{w:World}(W:Ae w){ext t ro s}(S:Ak w ext s){A:Around}(hA:A.handled=none){Fi E}:Cx (P3 w (Ax w) ext s.heap.objs.size t ro) (Ac pr2 w A Fi E) where
 den:=Fk
 S:=by show(⟨pr2,pf w (Ax w)⟩:Setting)=⟨pr2,w.params⟩; rw [Ib]
 hd:=hA.symm
 hdT:=hA.symm
 new:=S.new
 nolim:=fun h H=>W.nolimit h fun a o e=>H a o (by show(match lk w a with | some o=>some o | none=>ext a)=_; rw [e])
 fns:=fun _ h=>nomatch h
 dmax:=fun _ h=>nomatch h
 bind:=fun _ _ _ h=>BL h
 enter:=fun h=>nomatch h
theorem Ao{w:World}(W:Ae w){ext t ro s}(S:Ak w ext s){A:Around}{d:Nat}(hA:Ar A d)(hd:60≤d){Fi E}:Cx (P4 w (Ax w) ext s.heap.objs.size t ro) (Ac pr2 w A Fi E) where
 den:=Fk
 S:=by show(⟨pr2,pf w (Ax w)⟩:Setting)=⟨pr2,w.params⟩; rw [Ib]
 hd:=hA.handled.symm
 hdT:=hA.handled.symm
 new:=S.new
 nolim:=fun h H=>W.nolimit h fun a o e=>H a o (by show(match lk w a with | some o=>some o | none=>ext a)=_; rw [e])
 fns:=BA w ext
 dmax:=fun _ _=>by show max A.depth A.depth+60<recursionLimit; have:=hA.depth; exact ωp hd this
 bind:=fun _ _ _ h=>BL h
 enter:=fun h=>nomatch h
noncomputable def Jv(Q:Value→Shared→Prop):PySem.Fin→Shared→Prop
 | .done (.ret v),s=>Q v s
 | _,_=>False
theorem CB{M:Model}{A:Around}{m:Sem Value}{Q:Value→Shared→Prop}{s:Shared}(h:wpAny M A (m >>= fun v=>pure (.done (.ret v))) (Jv Q) E s):wpAny M A m Q E s:=fun Γ p hΓ=>by
 have:=h Γ p hΓ
 rw [Sem.wp_bind'] at this
 exact Sem.wp_mono M Γ m (fun a p' s' h'=>h') (fun _ _ _ h'=>h') p s this
noncomputable def Con(w:World)(ext:Addr→Option Obj)(d:Nat)(c:Code)(pre:Led)(r:Nat→Nat→Result)(os:List Obj)(gr dk:Nat):Prop:=
 ∀ A s R,Ar A d→Ak w ext s→(∀ p∈pre,s.heap.get? p.1=some p.2)→(∀ s',Chg pre os [] gr dk s s'→R (r s.heap.objs.size s.toks) s')→codeAny (model pr2 w) A c R s
noncomputable abbrev AL(is:List Nat)(c:Code)(pre:Led)(r:Nat→Nat→Result)(os:List Obj)(gr dk:Nat):Sp:=⟨c,{r:=r,upd:=is.zip os,grow:=gr,dk:=dk},pre.map some,[]⟩
theorem Con.obl{w ext d c pre r os gr dk}(C:Con w ext d c pre r os gr dk){is:List Nat}(hl:is.length=os.length){P:Par}(hN:∀ b,P.n≤b→P.look b=none)(hro:FW P.ro (is.zip os)=true){g:Bq}(hg:g.prog=pr2)(hw:g.w=w){U V:Nat}
  (hd:max g.AT.depth g.A.depth+V+d<recursionLimit) (hu:max g.AT.units g.A.units+10*U+10*d<cLine) (hL:P.look=lkX w ext:=by rfl):AK P g U V (AL is c pre r os gr dk):=by
 refine Bu (ps:=[]) hro hN fun A s R h1 h2 h3 h4 h5 _ hR=>?_
 subst hw
 rw [hg]
 refine C A s R ⟨h3,ωq hd h2,ωr hu h1⟩ (by rw [hL] at h4; exact h4) h5 fun s' hC=>hR s' ?_
 have:(is.zip os).map (·.2)=os:=by rw [List.map_snd_zip]; exact ωs hl
 show Chg pre ((is.zip os).map (·.2)) [] gr dk s s'
 rw [this]; exact hC
theorem Con.MF{w ext d f args pre r os gr dk}(W:Ae w)(hf:HI f=true)(hd:60≤d)(nd:(pre.map (·.1)).Nodup)(ap:∀ p∈pre,lkX w ext p.1=none)(reads:Led)(hrd:∀ p∈reads,lkX w ext p.1=some p.2)(hnr:(reads.map (·.1)).Nodup)
  (h:∀ A s R,Ar A d→Ak w ext s→Cx (P2 w (Ax w) ext s.heap.objs.size s.toks reads.length) (Av pr2 w A R)→
   Inv (lkX w ext) reads.length s (pre.map (·.1)) (reads++pre) (s.heap.objs.size+0) (s.toks+0) s→
   (∀ s' σ,Inv (lkX w ext) reads.length s (pre.map (·.1)) σ (s.heap.objs.size+gr) (s.toks+dk) s'→DY s'.heap (((pre.map (·.1)).zip os).map some)→(Av pr2 w A R).R (r s.heap.objs.size s.toks) s')→
   Bn (Av pr2 w A R) .tree (BB (B5 (lkX w ext f)) f args) s) :
  Con w ext d (.call (.ref f) args) pre r os gr dk:=by
 intro A s R hA S hp hR
 refine Bv S (BA w ext f hf) (by have:=hA.depth; exact ωt this) (h A s R hA S (BC W S hA hd) ?_ fun s' σ I H=>hR s' (I.toChg rfl rfl rfl H))
 have hfst:∀ p∈reads++pre,s.heap.get? p.1=some p.2:=fun p hp'=>by
  rcases ιM hp' with h | h
  ·exact S _ _ (hrd p h)
  ·exact hp p h
 have hdrop:((reads++pre).drop reads.length).map (·.1)=pre.map (·.1):=by rw [List.drop_left]
 rw [←hdrop]
 refine Inv.start S hfst ?_ ?_
 ·rw [List.map_append,List.nodup_append]
  refine⟨hnr,nd,fun a ha b hb e=>?_⟩
  subst e
  obtain⟨p,hp1,rfl⟩:=List.mem_map.mp ha
  obtain⟨q,hq1,hq2⟩:=List.mem_map.mp hb
  have h1:=hrd p hp1
  have h2:=ap q hq1
  rw [hq2,h1] at h2; cases h2
 ·intro i p hi hr
  have:∀ (l:Led) (i:Nat),Aq (l++pre) i=some p→l.length≤i→p∈pre:=by
   intro l
   induction l with
   | nil=>intro i h _; exact Bx h
   | cons x l ih=>
    intro i h hl
    cases i with
    | zero=>cases hl
    | succ i=>exact ih i h (Nat.le_of_succ_le_succ hl)
  exact ap p (this reads i hi hr)
noncomputable abbrev oX(dx:Addr):Obj:=⟨.ref 390,some dx,.plain,#[]⟩
noncomputable abbrev oDx(w:World)(kt:Nat→Nat)(tb pb ct co it:Addr):Obj:=⟨.type "dict",none,.dict #[de w "token_buffer" (kt 0) (.ref tb),de w "pushed_back" (kt 1) (.ref pb),de w "current_text" (kt 2) (.ref ct),de w "coptions" (kt 3) (.ref co),de w "characters" (kt 4) (.ref it)] 5,#[]⟩
noncomputable abbrev oC(di:Addr):Obj:=⟨.ref 183,some di,.plain,#[]⟩
noncomputable abbrev oDc(w:World)(k1 k2:Nat)(sg:Value)(li:Addr):Obj:=⟨.type "dict",none,.dict #[de w "char" k1 sg,de w "loc" k2 (.ref li)] 2,#[]⟩
noncomputable abbrev oL(dl:Nat)(s0 s1 s2 s3 s4:Value):Obj:=⟨.ref 79,some dl,.plain,#[some s0,some s1,some s2,some s3,some s4]⟩
noncomputable abbrev oT(dt:Nat)(ty:Str)(kty:Nat)(jv:Str)(kj li:Nat):Obj:=⟨.ref 47,some dt,.plain,#[some (.ref li),some (.str ty kty),some (.str jv kj)]⟩
noncomputable abbrev oP(ps:List Value):Obj:=⟨.none,none,.fields ⟨ps⟩,#[]⟩
noncomputable def EX(w:World)(L:Nat):Env:=FR (B5 (lk w 230)) 230 L []
noncomputable def Jy(w:World):List Stmt:=(DJ (B5 (lk w 230))).tail
noncomputable def KK:Expr:=.Attribute (.Name ⟨#[99]⟩ ⟨99,23,99,24⟩) ⟨#[99,104,97,114]⟩ ⟨99,23,99,29⟩
noncomputable def HK:Expr:=.Attribute (.Name ⟨#[115,101,108,102]⟩ ⟨99,39,99,43⟩) ⟨#[99,117,114,114,101,110,116,95,116,101,120,116]⟩ ⟨99,39,99,56⟩
noncomputable def emScope:Scope:={kind:=.function,names:=[(⟨#[46,48]⟩,.local),(⟨#[99]⟩,.local)],isGenerator:=true,isCoroutine:=false}
noncomputable def emGen:Expr:=.GeneratorExp KK [⟨.Name ⟨#[99]⟩ ⟨99,34,99,35⟩,HK,[],0⟩] emScope ⟨99,22,99,57⟩
noncomputable def Jz:Expr:=.Call (.Attribute (.Constant (.str ⟨#[]⟩) 0 ⟨99,14,99,16⟩) ⟨#[106,111,105,110]⟩ ⟨99,14,99,21⟩) [emGen] [] ⟨99,14,99,58⟩
noncomputable def emS1:Stmt:=.Assign [.Name ⟨#[118,97,108]⟩ ⟨99,8,99,11⟩] Jz ⟨99,8,99,58⟩
noncomputable abbrev oFr(es:List DictEntry)(k:Nat):Obj:=⟨.type "frame",none,.dict ⟨es⟩ k,#[]⟩
noncomputable abbrev AQ(xs:List Value):Obj:=⟨.type "tuple",none,.seq ⟨xs⟩ 0,#[]⟩
noncomputable abbrev Lm(tup:Nat):Obj:=⟨.ref 156,none,.fields #[.ref tup,.none,.none,.none,.bool false,.none],#[]⟩
noncomputable abbrev IY(rest:List Value):Sp:=⟨.builtin "Exception.__new__" ⟨.ref 156::rest,[]⟩,{r:=fun n _=>.ok (.ret (.ref (n+1))),news:=fun n=>[AQ rest,Lm n]},[],[]⟩
noncomputable abbrev It(tup d:Nat):Obj:=⟨.ref 156,some d,.fields #[.ref tup,.none,.none,.none,.bool false,.none],#[]⟩
noncomputable abbrev oEd(w:World)(a b c:Nat)(ms loc:Value)(h:Nat):Obj:=⟨.type "dict",none,.dict #[de w "msg" a ms,de w "loc" b loc,de w "hints" c (.ref h)] 3,#[]⟩
section
variable(w:World)(f:Fl)(ext:Addr→Option Obj)(n t x dx tb pb ct co it cl ec e1 e2 i:Nat)(kt:Nat→Nat)(cv cts:List Value)(ci di k1 k2 k3 li:Nat)(sg:Str)
def nc1:Res:=
 run (P2 w f ext n t 5) 160 (ιx 96 0x992709777720110000010000001900040004999260666620110000010000001960606066201100000100000019099990) ([Dl 5 pb [] e1 (.ref ci) (t+6),Bc 6 ct cts e2 (.ref ci)].map Sp.x) [(x,oX dx),(dx,oDx w kt tb pb ct co it),(cl,lst cv ec),(ci,oC di),(di,oDc w k1 k2 (.str sg k3) li),(pb,lst [.ref ci] e1),(ct,lst cts e2),(it,oIt cl i)] 0 0 .tree
  (ent w ext 216 [.ref x]) [] [] []
theorem nc1_v:RvD (nc1 w f ext n t x dx tb pb ct co it cl ec e1 e2 i kt cv cts ci di k1 k2 k3 li sg) [5,6,7] (.done (.ok (.ret (.ref ci)))) 0 1 9 [some (pb,lst [] (e1+1)),some (ct,lst (cts++[.ref ci]) (e2+1)),some (it,oIt cl i)] [Bc 6 ct cts e2 (.ref ci),Dl 5 pb [] e1 (.ref ci) (t+6)]:=by kernel_rfl
def nc2:Res:=
 run (P2 w f ext n t 5) 161 (ιx 98 0x99270977772011000001000000190004000499928088002011000001000000190060606066201100000100000019099990) ([Cg 7 2 it cl cv ec i (.ref ci),Bc 6 ct cts e2 (.ref ci)].map Sp.x) [(x,oX dx),(dx,oDx w kt tb pb ct co it),(cl,lst cv ec),(ci,oC di),(di,oDc w k1 k2 (.str sg k3) li),(pb,lst [] e1),(ct,lst cts e2),(it,oIt cl i)] 0 0 .tree
  (ent w ext 216 [.ref x]) [] [] []
theorem nc2_v:RvD (nc2 w f ext n t x dx tb pb ct co it cl ec e1 e2 i kt cv cts ci di k1 k2 k3 li sg) [5,6,7] (.done (.ok (.ret (.ref ci)))) 0 1 8 [some (pb,lst [] e1),some (ct,lst (cts++[.ref ci]) (e2+1)),some (it,oIt cl (i+1))] [Bc 6 ct cts e2 (.ref ci),Cg 7 2 it cl cv ec i (.ref ci)]:=by kernel_rfl
def nc3:Res:=
 run (P2 w f ext n t 3) 117 (ιx 65 0x77777926066002011000001000000170040404044201100000100000017077770) ([AZ 5 2 it cl cv ec i].map Sp.x) [(x,oX dx),(dx,oDx w kt tb pb ct co it),(cl,lst cv ec),(pb,lst [] e1),(ct,lst cts e2),(it,oIt cl i)] 0 0 .tree
  (ent w ext 216 [.ref x]) [] [] []
theorem nc3_v:RvD (nc3 w f ext n t x dx tb pb ct co it cl ec e1 e2 i kt cv cts) [3,4,5] (.done (.ok (.ret .none))) 0 3 7 [some (pb,lst [] e1),some (ct,lst cts e2),some (it,FB i)] [AZ 5 2 it cl cv ec i]:=by kernel_rfl
def nc4:Res:=
 run (P2 w f ext n t 3) 123 (ιx 66 0x777779606066002011000001000000170040404044201100000100000017077770) [] [(x,oX dx),(dx,oDx w kt tb pb ct co it),(cl,lst cv ec),(pb,lst [] e1),(ct,lst cts e2),(it,FB i)] 0 0 .tree
  (ent w ext 216 [.ref x]) [] [] []
theorem nc4_v:RvD (nc4 w f ext n t x dx tb pb ct co it cl ec e1 e2 i kt cv cts) [3,4,5] (.done (.ok (.ret .none))) 0 3 7 [some (pb,lst [] e1),some (ct,lst cts e2),some (it,FB i)] []:=by kernel_rfl
variable(vs:Str)(kv:Nat)
noncomputable abbrev KO:List Sp:=[Am "str.__contains__" ⟨[.str vs kv,.str sg k3],[]⟩ (.bool true),Bc 6 ct cts e2 (.ref ci),Dl 5 pb [] e1 (.ref ci) (t+8)]
def ac1:Res:=
 run (P2 w f ext n t 5) 246 (ιx 153 0x2095044000400004900040004999aa270a777720110000010000001a00040004aaa260666620110000010000001a6060606620110000010000001a0aaaa030210000001000001000001909999) ((KO t pb ct e1 e2 cts ci k3 sg vs kv).reverse.map Sp.x) [(x,oX dx),(dx,oDx w kt tb pb ct co it),(cl,lst cv ec),(ci,oC di),(di,oDc w k1 k2 (.str sg k3) li),(pb,lst [.ref ci] e1),(ct,lst cts e2),(it,oIt cl i)] 0 0 .tree
  (ent w ext 244 [.ref x,.str vs kv]) [] [] []
theorem ac1_v:RvD (ac1 w f ext n t x dx tb pb ct co it cl ec e1 e2 i kt cv cts ci di k1 k2 k3 li sg vs kv) [5,6,7] (.done (.ok (.ret (.bool true)))) 0 2 13 [some (pb,lst [] (e1+1)),some (ct,lst (cts++[.ref ci]) (e2+1)),some (it,oIt cl i)] (KO t pb ct e1 e2 cts ci k3 sg vs kv):=by kernel_rfl
noncomputable abbrev KN:List Sp:=[HA 5 pb [] (e1+1) (.ref ci) (t+19),H9 6 ct cts (e2+1) (.ref ci) (t+17),Am "str.__contains__" ⟨[.str vs kv,.str sg k3],[]⟩ (.bool false),Bc 6 ct cts e2 (.ref ci),Dl 5 pb [] e1 (.ref ci) (t+8)]
def ac2:Res:=
 run (P2 w f ext n t 5) 384 (ιx 246 0x260b666620110000010000001b027000777720110000010000001b00040004b0bbbb30921000000100000100000192095044000400004900040004999aa270a777720110000010000001a00040004aaa260666620110000010000001a6060606620110000010000001a0aaaa030210000001000001000001909999) ((KN t pb ct e1 e2 cts ci k3 sg vs kv).reverse.map Sp.x) [(x,oX dx),(dx,oDx w kt tb pb ct co it),(cl,lst cv ec),(ci,oC di),(di,oDc w k1 k2 (.str sg k3) li),(pb,lst [.ref ci] e1),(ct,lst cts e2),(it,oIt cl i)] 0 0 .tree
  (ent w ext 244 [.ref x,.str vs kv]) [] [] []
theorem ac2_v:RvD (ac2 w f ext n t x dx tb pb ct co it cl ec e1 e2 i kt cv cts ci di k1 k2 k3 li sg vs kv) [5,6,7] (.done (.ok (.ret (.bool false)))) 0 3 20 [some (pb,lst [.ref ci] (e1+1+1)),some (ct,lst cts (e2+1+1)),some (it,oIt cl i)] (KN t pb ct e1 e2 cts ci k3 sg vs kv):=by kernel_rfl
noncomputable abbrev KM:List Sp:=[Am "str.__contains__" ⟨[.str vs kv,.str sg k3],[]⟩ (.bool true),Bc 6 ct cts e2 (.ref ci),Cg 7 2 it cl cv ec i (.ref ci)]
def ac3:Res:=
 run (P2 w f ext n t 5) 247 (ιx 155 0x2095044000400004900040004999aa270a777720110000010000001a00040004aaa280880020110000010000001a006060606620110000010000001a0aaaa030210000001000001000001909999) ((KM ct it cl ec e2 i cv cts ci k3 sg vs kv).reverse.map Sp.x) [(x,oX dx),(dx,oDx w kt tb pb ct co it),(cl,lst cv ec),(ci,oC di),(di,oDc w k1 k2 (.str sg k3) li),(pb,lst [] e1),(ct,lst cts e2),(it,oIt cl i)] 0 0 .tree
  (ent w ext 244 [.ref x,.str vs kv]) [] [] []
theorem ac3_v:RvD (ac3 w f ext n t x dx tb pb ct co it cl ec e1 e2 i kt cv cts ci di k1 k2 k3 li sg vs kv) [5,6,7] (.done (.ok (.ret (.bool true)))) 0 2 12 [some (pb,lst [] e1),some (ct,lst (cts++[.ref ci]) (e2+1)),some (it,oIt cl (i+1))] (KM ct it cl ec e2 i cv cts ci k3 sg vs kv):=by kernel_rfl
noncomputable abbrev KL:List Sp:=[HA 5 pb [] e1 (.ref ci) (t+18),H9 6 ct cts (e2+1) (.ref ci) (t+16),Am "str.__contains__" ⟨[.str vs kv,.str sg k3],[]⟩ (.bool false),Bc 6 ct cts e2 (.ref ci),Cg 7 2 it cl cv ec i (.ref ci)]
def ac4:Res:=
 run (P2 w f ext n t 5) 385 (ιx 248 0x260b666620110000010000001b027000777720110000010000001b00040004b0bbbb30921000000100000100000192095044000400004900040004999aa270a777720110000010000001a00040004aaa280880020110000010000001a006060606620110000010000001a0aaaa030210000001000001000001909999) ((KL t pb ct it cl ec e1 e2 i cv cts ci k3 sg vs kv).reverse.map Sp.x) [(x,oX dx),(dx,oDx w kt tb pb ct co it),(cl,lst cv ec),(ci,oC di),(di,oDc w k1 k2 (.str sg k3) li),(pb,lst [] e1),(ct,lst cts e2),(it,oIt cl i)] 0 0 .tree
  (ent w ext 244 [.ref x,.str vs kv]) [] [] []
theorem ac4_v:RvD (ac4 w f ext n t x dx tb pb ct co it cl ec e1 e2 i kt cv cts ci di k1 k2 k3 li sg vs kv) [5,6,7] (.done (.ok (.ret (.bool false)))) 0 3 19 [some (pb,lst [.ref ci] (e1+1)),some (ct,lst cts (e2+1+1)),some (it,oIt cl (i+1))] (KL t pb ct it cl ec e1 e2 i cv cts ci k3 sg vs kv):=by kernel_rfl
def ac5:Res:=
 run (P2 w f ext n t 3) 219 (ιx 128 0xb0bbbb307210000001000001000001777788888a2606600201100000100000018004040404420110000010000001808888030210000001000001000001707777) ([AZ 5 2 it cl cv ec i].map Sp.x) [(x,oX dx),(dx,oDx w kt tb pb ct co it),(cl,lst cv ec),(pb,lst [] e1),(ct,lst cts e2),(it,oIt cl i)] 0 0 .tree
  (ent w ext 244 [.ref x,.str vs kv]) [] [] []
theorem ac5_v:RvD (ac5 w f ext n t x dx tb pb ct co it cl ec e1 e2 i kt cv cts vs kv) [3,4,5] (.done (.ok (.ret (.bool false)))) 0 5 12 [some (pb,lst [] e1),some (ct,lst cts e2),some (it,FB i)] [AZ 5 2 it cl cv ec i]:=by kernel_rfl
def ac6:Res:=
 run (P2 w f ext n t 3) 225 (ιx 129 0xb0bbbb307210000001000001000001777788888a60606600201100000100000018004040404420110000010000001808888030210000001000001000001707777) [] [(x,oX dx),(dx,oDx w kt tb pb ct co it),(cl,lst cv ec),(pb,lst [] e1),(ct,lst cts e2),(it,FB i)] 0 0 .tree
  (ent w ext 244 [.ref x,.str vs kv]) [] [] []
theorem ac6_v:RvD (ac6 w f ext n t x dx tb pb ct co it cl ec e1 e2 i kt cv cts vs kv) [3,4,5] (.done (.ok (.ret (.bool false)))) 0 5 12 [some (pb,lst [] e1),some (ct,lst cts e2),some (it,FB i)] []:=by kernel_rfl
end
theorem Ab{α:Type}{p:α→Prop}{a:α}{l:List α}(ha:p a)(hl:∀ v∈l,p v):∀ v∈a::l,p v:=fun v hv=>by
 rcases ιC hv with rfl | h
 ·exact ha
 ·exact hl v h
theorem Aa{α:Type}{p:α→Prop}:∀ v∈([]:List α),p v:=fun v hv=>nomatch hv
theorem ζ2{α:Type}{P:α→Prop}{a b:α}(ha:P a)(hb:P b):∀ z∈[a,b],P z:=Ab ha (Ab hb (Aa))
theorem ζ3{α:Type}{P:α→Prop}{a b c:α}(ha:P a)(hb:P b)(hc:P c):∀ z∈[a,b,c],P z:=Ab ha (Ab hb (Ab hc (Aa)))
theorem ζ4{α:Type}{P:α→Prop}{a b c d:α}(ha:P a)(hb:P b)(hc:P c)(hd:P d):∀ z∈[a,b,c,d],P z:=Ab ha (Ab hb (Ab hc (Ab hd (Aa))))
theorem ζ5{α:Type}{P:α→Prop}{a b c d e:α}(ha:P a)(hb:P b)(hc:P c)(hd:P d)(he:P e):∀ z∈[a,b,c,d,e],P z:=Ab ha (Ab hb (Ab hc (Ab hd (Ab he (Aa)))))
theorem ζ6{α:Type}{P:α→Prop}{a b c d e f:α}(ha:P a)(hb:P b)(hc:P c)(hd:P d)(he:P e)(hf:P f):∀ z∈[a,b,c,d,e,f],P z:=Ab ha (Ab hb (Ab hc (Ab hd (Ab he (Ab hf (Aa))))))
theorem ζ7{α:Type}{P:α→Prop}{a b c d e f g:α}(ha:P a)(hb:P b)(hc:P c)(hd:P d)(he:P e)(hf:P f)(hg:P g):∀ z∈[a,b,c,d,e,f,g],P z:=Ab ha (Ab hb (Ab hc (Ab hd (Ab he (Ab hf (Ab hg (Aa)))))))
theorem ζ8{α:Type}{P:α→Prop}{a b c d e f g h:α}(ha:P a)(hb:P b)(hc:P c)(hd:P d)(he:P e)(hf:P f)(hg:P g)(hh:P h):∀ z∈[a,b,c,d,e,f,g,h],P z:=Ab ha (Ab hb (Ab hc (Ab hd (Ab he (Ab hf (Ab hg (Ab hh (Aa))))))))
theorem ζ9{α:Type}{P:α→Prop}{a b c d e f g h i:α}(ha:P a)(hb:P b)(hc:P c)(hd:P d)(he:P e)(hf:P f)(hg:P g)(hh:P h)(hi:P i):∀ z∈[a,b,c,d,e,f,g,h,i],P z:=Ab ha (Ab hb (Ab hc (Ab hd (Ab he (Ab hf (Ab hg (Ab hh (Ab hi (Aa)))))))))
theorem ζ10{α:Type}{P:α→Prop}{a b c d e f g h i j:α}(ha:P a)(hb:P b)(hc:P c)(hd:P d)(he:P e)(hf:P f)(hg:P g)(hh:P h)(hi:P i)(hj:P j):∀ z∈[a,b,c,d,e,f,g,h,i,j],P z:=Ab ha (Ab hb (Ab hc (Ab hd (Ab he (Ab hf (Ab hg (Ab hh (Ab hi (Ab hj (Aa))))))))))
noncomputable def IT(o:Obj):Nat:=match o.data with
 | .dict es _=>1000+es.size
 | .seq ..=>2000
 | _=>match o.cls with
  | .ref a=>a
  | _=>0
noncomputable def GE:List Nat→Bool
 | []=>true
 | a::l=>!(l.any (Nat.beq a))&&GE l
theorem Gk:∀ {l:List Nat},GE l=true→l.Nodup
 | [],_=>ιN
 | a::l,h=>by
  simp only [GE,Bool.and_eq_true,Bool.not_eq_true',List.any_eq_false] at h
  refine List.nodup_cons.mpr ⟨fun hm=>?_,Gk h.2⟩
  exact h.1 a hm (by simp)
theorem FC{look:Addr→Option Obj}:∀ {l:Led},(∀ p∈l,look p.1=some p.2)→(l.map fun p=>IT p.2).Nodup→(l.map (·.1)).Nodup
 | [],_,_=>ιN
 | a::l,h,t=>by
  rw [List.map_cons,List.nodup_cons] at t
  rw [List.map_cons,List.nodup_cons]
  refine⟨fun hm=>?_,FC (fun p hp=>h p (.tail _ hp)) t.2⟩
  obtain⟨q,hq,e⟩:=List.mem_map.mp hm
  refine t.1 (List.mem_map.mpr ⟨q,hq,?_⟩)
  have h1:=h a μ0
  have h2:=h q (.tail _ hq)
  rw [show q.1=a.1 from e,h1] at h2
  injection h2 with h2
  rw [h2]
theorem Aj{look:Addr→Option Obj}{l:Led}(h:∀ p∈l,look p.1=some p.2)(t:GE (l.map fun p=>IT p.2)=true):(l.map (·.1)).Nodup:=FC h (Gk t)
structure Cfg where
 x:Nat
 dx:Nat
 tb:Nat
 pb:Nat
 ct:Nat
 co:Nat
 it:Nat
 cl:Nat
 ec:Nat
 kt:Nat→Nat
 N:Nat
 ci:Nat→Nat
 di:Nat→Nat
 k1:Nat→Nat
 k2:Nat→Nat
 k3:Nat→Nat
 li:Nat→Nat
 sg:Nat→Str
 dl:Nat→Nat
 ls:Nat→Nat→Value
namespace Cfg
noncomputable def seg(c:Cfg)(b p:Nat):List Value:=(List.range' b (p-b)).map fun i=>.ref (c.ci i)
theorem seg_succ(c:Cfg){b p:Nat}(h:b≤p):c.seg b (p+1)=c.seg b p++[.ref (c.ci p)]:=by
 unfold seg
 rw [show p+1-b=(p-b)+1 from ωu h,List.range'_concat,List.map_append]
 simp only [List.map_cons,List.map_nil,Nat.one_mul]
 rw [show b+(p-b)=p from ω0 h]
theorem seg_len(c:Cfg)(b p:Nat):(c.seg b p).length=p-b:=by simp [seg]
theorem seg_get(c:Cfg){p:Nat}(h:p<c.N):(c.seg 0 c.N)[p]? = some (.ref (c.ci p)):=by
 simp [seg,List.getElem?_range',h]
theorem seg_end(c:Cfg){p:Nat}(h:c.N≤p):(c.seg 0 c.N)[p]? = none:=by
 simp [seg]; exact h
structure Ok(c:Cfg)(w:World)(ext:Addr→Option Obj):Prop where
 hx:lkX w ext c.x=some (oX c.dx)
 hdx:lkX w ext c.dx=some (oDx w c.kt c.tb c.pb c.ct c.co c.it)
 hcl:lkX w ext c.cl=some (lst (c.seg 0 c.N) c.ec)
 hci:∀ i,i<c.N→lkX w ext (c.ci i)=some (oC (c.di i))
 hdi:∀ i,i<c.N→lkX w ext (c.di i)=some (oDc w (c.k1 i) (c.k2 i) (.str (c.sg i) (c.k3 i)) (c.li i))
 hli:∀ i,i<c.N→lkX w ext (c.li i)=some (oL (c.dl i) (c.ls i 0) (c.ls i 1) (c.ls i 2) (c.ls i 3) (c.ls i 4))
 nd:[c.tb,c.pb,c.ct,c.it].Nodup
 ap:∀ a∈[c.tb,c.pb,c.ct,c.it],lkX w ext a=none
 small:c.N≤1000
end Cfg
structure LS where
 p:Nat
 b:Nat
 hold:Bool
 exh:Bool
 e1:Nat
 e2:Nat
structure LS.WF(c:Cfg)(s:LS):Prop where
 bp:s.b≤s.p
 pn:s.p≤c.N
 hp:s.hold=true→s.p<c.N
 xp:s.exh=true→s.p=c.N
noncomputable def Iz(c:Cfg)(hold:Bool)(p:Nat):List Value:=match hold with | true=>[.ref (c.ci p)] | false=>[]
noncomputable def JJ(c:Cfg)(exh hold:Bool)(p:Nat):Obj:=match exh with | true=>FB p | false=>oIt c.cl (match hold with | true=>p+1 | false=>p)
noncomputable def LS.objs(c:Cfg)(s:LS):List Obj:=[lst (Iz c s.hold s.p) s.e1,lst (c.seg s.b s.p) s.e2,JJ c s.exh s.hold s.p]
noncomputable def LS.ents(c:Cfg)(s:LS):Led:=[(c.pb,lst (Iz c s.hold s.p) s.e1),(c.ct,lst (c.seg s.b s.p) s.e2),(c.it,JJ c s.exh s.hold s.p)]
noncomputable def LS.next(c:Cfg)(s:LS):LS:=if s.p<c.N then⟨s.p+1,s.b,false,s.exh,if s.hold then s.e1+1 else s.e1,s.e2+1⟩ else⟨s.p,s.b,s.hold,true,s.e1,s.e2⟩
noncomputable def LS.back(c:Cfg)(s:LS):LS:=⟨s.p,s.b,true,s.exh,if s.hold then s.e1+1+1 else s.e1+1,s.e2+1+1⟩
theorem LS.next_wf{c:Cfg}{s:LS}(h:s.WF c):(s.next c).WF c:=by
 obtain⟨h1,h2,h3,h4⟩:=h
 unfold LS.next
 split
 ·exact .mk (by dsimp only; exact ωv h1) (by dsimp only; omega) (fun h=>nomatch h) (fun h=>by have:=h4 h; omega)
 ·exact⟨h1,h2,h3,fun _=>by dsimp only; omega⟩
theorem LS.back_wf{c:Cfg}{s:LS}(h:s.WF c)(hp:s.p<c.N):(s.back c).WF c:=by
 obtain⟨h1,h2,h3,h4⟩:=h
 exact⟨h1,h2,fun _=>hp,h4⟩
noncomputable def LS.chr(c:Cfg)(s:LS):Value:=if s.p<c.N then .ref (c.ci s.p) else .none
section
variable{w:World}{ext:Addr→Option Obj}{c:Cfg}
theorem AY(O:c.Ok w ext)(s:LS):((s.ents c).map (·.1)).Nodup:=by
 have:=O.nd
 rw [List.nodup_cons] at this
 exact this.2
theorem AO(O:c.Ok w ext)(s:LS):∀ p∈s.ents c,lkX w ext p.1=none:=fun p hp=>O.ap _ (by
 have:p.1∈(s.ents c).map (·.1):=List.mem_map_of_mem hp
 exact .tail _ this)
noncomputable abbrev Cfg.ro3(c:Cfg)(w:World):Led:=[(c.x,oX c.dx),(c.dx,oDx w c.kt c.tb c.pb c.ct c.co c.it),(c.cl,lst (c.seg 0 c.N) c.ec)]
noncomputable abbrev Cfg.ro5(c:Cfg)(w:World)(i:Nat):Led:=[(c.x,oX c.dx),(c.dx,oDx w c.kt c.tb c.pb c.ct c.co c.it),(c.cl,lst (c.seg 0 c.N) c.ec),(c.ci i,oC (c.di i)),(c.di i,oDc w (c.k1 i) (c.k2 i) (.str (c.sg i) (c.k3 i)) (c.li i))]
theorem Cs(O:c.Ok w ext):∀ p∈c.ro3 w,lkX w ext p.1=some p.2:=Ab O.hx (ζ2 O.hdx O.hcl)
theorem BO(O:c.Ok w ext){i:Nat}(h:i<c.N):∀ p∈c.ro5 w i,lkX w ext p.1=some p.2:=Ab O.hx (ζ4 O.hdx O.hcl (O.hci i h) (O.hdi i h))
theorem leR{a b:Nat}(h:Nat.ble a b=true):a≤b:=Nat.le_of_ble_eq_true h
theorem Hi(W:Ae w)(O:c.Ok w ext)(s:LS)(F:s.WF c):∃ gr dk,Con w ext 60 (.call (.ref 216) ⟨[.ref c.x],[]⟩) (s.ents c) (Ba (s.chr c)) ((s.next c).objs c) gr dk:=by
 obtain⟨p,b,hold,exh,e1,e2⟩:=s
 have hsz:=sZ
 have hsm:=O.small
 have h1:=F.bp
 have h2:=F.pn
 dsimp only at h1 h2
 by_cases hp:p<c.N
 ·have hx:exh=false:=by
   cases exh with
   | false=>rfl
   | true=>have:=F.xp rfl; dsimp only at this; omega
  subst hx
  have hlen:(c.seg b p).length≤sizeLine:=by rw [c.seg_len,hsz]; exact ωw hsm hp
  simp only [LS.chr,LS.next,if_pos hp,LS.objs,c.seg_succ h1]
  cases hold with
  | true=>
   exact⟨_,_,Con.MF W (by rfl) (ιR _) (AY O _) (AO O _) (c.ro5 w p) (BO O hp) (Aj (BO O hp) rfl) fun A s R hA S Par I h=>
    Aw Par rfl (nc1_v ..) (ζ2 (AN S.new (leR rfl) hlen) (F9 S.new (leR rfl) (by decide))) I fun s' I' H=>h s' _ I' H⟩
  | false=>
   exact⟨_,_,Con.MF W (by rfl) (ιR _) (AY O _) (AO O _) (c.ro5 w p) (BO O hp) (Aj (BO O hp) rfl) fun A s R hA S Par I h=>
    Aw Par rfl (nc2_v ..) (ζ2 (AN S.new (leR rfl) hlen) (DB S.new (leR rfl) (c.seg_get hp))) I fun s' I' H=>h s' _ I' H⟩
 ·have hh:hold=false:=by
   cases hold with
   | false=>rfl
   | true=>exact absurd (F.hp rfl) hp
  subst hh
  have hpn:p=c.N:=ωx h2 hp
  simp only [LS.chr,LS.next,if_neg hp,LS.objs]
  cases exh with
  | true=>
   exact⟨_,_,Con.MF W (by rfl) (ιR _) (AY O _) (AO O _) (c.ro3 w) (Cs O) (Aj (Cs O) rfl) fun A s R hA S Par I h=>
    Aw Par rfl (nc4_v _ _ _ _ _ c.x c.dx c.tb c.pb c.ct c.co c.it c.cl c.ec e1 e2 p c.kt (c.seg 0 c.N) (c.seg b p)) (vs:=[]) Aa I fun s' I' H=>h s' _ I' H⟩
  | false=>
   exact⟨_,_,Con.MF W (by rfl) (ιR _) (AY O _) (AO O _) (c.ro3 w) (Cs O) (Aj (Cs O) rfl) fun A s R hA S Par I h=>
    Aw Par rfl (nc3_v ..) (Ab (Ch S.new (leR rfl) (c.seg_end (show c.N≤p from ωy hp))) Aa) I fun s' I' H=>h s' _ I' H⟩
noncomputable def E4(vs sg:Str):Bool:=!(Builtin.Str.occurrences vs sg 0 vs.length 1).isEmpty
noncomputable def LS.hit(c:Cfg)(vs:Str)(s:LS):Bool:=decide (s.p<c.N)&&E4 vs (c.sg s.p)
noncomputable def LS.acc(c:Cfg)(vs:Str)(s:LS):LS:=if s.p<c.N then(if E4 vs (c.sg s.p) then s.next c else s.back c) else s.next c
theorem LS.MG{c:Cfg}{vs:Str}{s:LS}(h:s.WF c):(s.acc c vs).WF c:=by
 unfold LS.acc
 split
 ·split
  ·exact next_wf h
  ·exact back_wf h (by assumption)
 ·exact next_wf h
theorem FA{P:Par}{g:Bq}{U D:Nat}{vs sg:Str}{t u:Tok}{b:Bool}(hP:∀ b,P.n≤b→P.look b=none)(e:E4 vs sg=b):AK P g U D (Am "str.__contains__" ⟨[.str vs t,.str sg u],[]⟩ (.bool b)):=
 E0 hP F.entry_str_contains (by decide +kernel) (by rw [←e]; exact gives_str_contains vs sg t u)
theorem AB(W:Ae w)(O:c.Ok w ext)(vs:Str)(s:LS)(F:s.WF c):∃ gr dk,∀ kv:Nat,Con w ext 60 (.call (.ref 244) ⟨[.ref c.x,.str vs kv],[]⟩) (s.ents c) (Ba (.bool (s.hit c vs))) ((s.acc c vs).objs c) gr dk:=by
 obtain⟨p,b,hold,exh,e1,e2⟩:=s
 have hsz:=sZ
 have hsm:=O.small
 have h1:=F.bp
 have h2:=F.pn
 dsimp only at h1 h2
 by_cases hp:p<c.N
 ·have hx:exh=false:=by
   cases exh with
   | false=>rfl
   | true=>have:=F.xp rfl; dsimp only at this; omega
  subst hx
  have hlen:(c.seg b p).length≤sizeLine:=by rw [c.seg_len,hsz]; exact ωw hsm hp
  have hlen':(c.seg b p).length+1≤sizeLine:=by rw [c.seg_len,hsz]; exact ωz hsm hp
  cases hin:E4 vs (c.sg p) with
  | true=>
   simp only [LS.hit,LS.acc,LS.next,if_pos hp,LS.objs,hin,decide_eq_true hp,Bool.and_true,if_true,c.seg_succ h1]
   cases hold with
   | true=>
    exact⟨_,_,fun kv=>Con.MF W (by rfl) (ιR _) (AY O _) (AO O _) (c.ro5 w p) (BO O hp) (Aj (BO O hp) rfl) fun A s R hA S Par I h=>
     Aw Par rfl (ac1_v ..) (ζ3 (FA S.new hin) (AN S.new (leR rfl) hlen) (F9 S.new (leR rfl) (by decide))) I fun s' I' H=>h s' _ I' H⟩
   | false=>
    exact⟨_,_,fun kv=>Con.MF W (by rfl) (ιR _) (AY O _) (AO O _) (c.ro5 w p) (BO O hp) (Aj (BO O hp) rfl) fun A s R hA S Par I h=>
     Aw Par rfl (ac3_v ..) (ζ3 (FA S.new hin) (AN S.new (leR rfl) hlen) (DB S.new (leR rfl) (c.seg_get hp))) I fun s' I' H=>h s' _ I' H⟩
  | false=>
   simp only [LS.hit,LS.acc,LS.back,if_pos hp,LS.objs,hin,decide_eq_true hp,Bool.and_false,Bool.false_eq_true,if_false,Iz]
   cases hold with
   | true=>
    exact⟨_,_,fun kv=>Con.MF W (by rfl) (ιR _) (AY O _) (AO O _) (c.ro5 w p) (BO O hp) (Aj (BO O hp) rfl) fun A s R hA S Par I h=>
     Aw Par rfl (ac2_v ..) (ζ5 (Gg S.new (leR rfl) (by decide)) (Gf S.new (leR rfl) hlen') (FA S.new hin) (AN S.new (leR rfl) hlen) (F9 S.new (leR rfl) (by decide))) I fun s' I' H=>h s' _ I' H⟩
   | false=>
    exact⟨_,_,fun kv=>Con.MF W (by rfl) (ιR _) (AY O _) (AO O _) (c.ro5 w p) (BO O hp) (Aj (BO O hp) rfl) fun A s R hA S Par I h=>
     Aw Par rfl (ac4_v ..) (ζ5 (Gg S.new (leR rfl) (by decide)) (Gf S.new (leR rfl) hlen') (FA S.new hin) (AN S.new (leR rfl) hlen) (DB S.new (leR rfl) (c.seg_get hp))) I fun s' I' H=>h s' _ I' H⟩
 ·have hh:hold=false:=by
   cases hold with
   | false=>rfl
   | true=>exact absurd (F.hp rfl) hp
  subst hh
  simp only [LS.hit,LS.acc,LS.next,if_neg hp,LS.objs,decide_eq_false hp,Bool.false_and]
  cases exh with
  | true=>
   exact⟨_,_,fun kv=>Con.MF W (by rfl) (ιR _) (AY O _) (AO O _) (c.ro3 w) (Cs O) (Aj (Cs O) rfl) fun A s R hA S Par I h=>
    Aw Par rfl (ac6_v _ _ _ _ _ c.x c.dx c.tb c.pb c.ct c.co c.it c.cl c.ec e1 e2 p c.kt (c.seg 0 c.N) (c.seg b p) vs kv) (vs:=[]) Aa I fun s' I' H=>h s' _ I' H⟩
  | false=>
   exact⟨_,_,fun kv=>Con.MF W (by rfl) (ιR _) (AY O _) (AO O _) (c.ro3 w) (Cs O) (Aj (Cs O) rfl) fun A s R hA S Par I h=>
    Aw Par rfl (ac5_v ..) (Ab (Ch S.new (leR rfl) (c.seg_end (show c.N≤p from ωy hp))) Aa) I fun s' I' H=>h s' _ I' H⟩
end
section
variable(w:World)(f:Fl)(ext:Addr→Option Obj)(n t x dx tb pb ct co it:Nat)(kt:Nat→Nat)(p0 q0 r0 p1 q1 r1:Obj)(g0 d0:Nat)
noncomputable abbrev KE:List Sp:=[AL [2,3,4] (.call (.ref 244) ⟨[.ref x,.str ιb (t+1)],[]⟩) [(pb,p0),(ct,q0),(it,r0)] (Ba (.bool true)) [p1,q1,r1] g0 d0]
def he1:Res:=
 run (P2 w f ext n t 2) 51 (ιx 27 0x202100000010000010000016066) ((KE t x pb ct it p0 q0 r0 p1 q1 r1 g0 d0).reverse.map Sp.x) [(x,oX dx),(dx,oDx w kt tb pb ct co it),(pb,p0),(ct,q0),(it,r0)] 0 0 .tree
  (ent w ext 387 [.ref x]) [] [] []
theorem he1_v:RvD (he1 w f ext n t x dx tb pb ct co it kt p0 q0 r0 p1 q1 r1 g0 d0) [2,3,4] (.done (.ok (.ret .none))) 0 (1+(g0+0)) (2+d0) [some (pb,p1),some (ct,q1),some (it,r1)] (KE t x pb ct it p0 q0 r0 p1 q1 r1 g0 d0):=by kernel_rfl
end
section
variable(w:World)(f:Fl)(ext:Addr→Option Obj)(n t x dx tb pb ct co it:Nat)(kt:Nat→Nat)(p0 q0 r0 p1 q1 r1 p2 q2 r2 p3 q3 r3 p4 q4 r4:Obj)(g0 d0 g1 d1 g2 d2 g3 d3:Nat)(b1 b2:Bool)
noncomputable abbrev KD:List Sp:=[AL [2,3,4] (.call (.ref 244) ⟨[.ref x,.str ιf 583],[]⟩) [(pb,p3),(ct,q3),(it,r3)] (Ba (.bool b2)) [p4,q4,r4] g3 d3,AL [2,3,4] (.call (.ref 244) ⟨[.ref x,.str ιf 583],[]⟩) [(pb,p2),(ct,q2),(it,r2)] (Ba (.bool b1)) [p3,q3,r3] g2 d2,AL [2,3,4] (.call (.ref 244) ⟨[.ref x,.str ιf 583],[]⟩) [(pb,p1),(ct,q1),(it,r1)] (Ba (.bool true)) [p2,q2,r2] g1 d1,AL [2,3,4] (.call (.ref 244) ⟨[.ref x,.str ιb (t+1)],[]⟩) [(pb,p0),(ct,q0),(it,r0)] (Ba (.bool false)) [p1,q1,r1] g0 d0]
def he2:Res:=
 run (P2 w f ext n t 2) 204 (ιx 147 0x202011000100000016210000001000001000001620201100010000001621000000100000100000162020110001000000162100000010000010000016202100000010000010000016066) ((KD t x pb ct it p0 q0 r0 p1 q1 r1 p2 q2 r2 p3 q3 r3 p4 q4 r4 g0 d0 g1 d1 g2 d2 g3 d3 b1 b2).reverse.map Sp.x) [(x,oX dx),(dx,oDx w kt tb pb ct co it),(pb,p0),(ct,q0),(it,r0)] 0 0 .tree
  (ent w ext 387 [.ref x]) [] [] []
theorem he2_v:RvD (he2 w f ext n t x dx tb pb ct co it kt p0 q0 r0 p1 q1 r1 p2 q2 r2 p3 q3 r3 p4 q4 r4 g0 d0 g1 d1 g2 d2 g3 d3 b1 b2) [2,3,4] (.done (.ok (.ret .none))) 0 (1+(g0+0)+(g1+0)+(g2+0)+(g3+0)) (2+d0+1+d1+1+d2+1+d3) [some (pb,p4),some (ct,q4),some (it,r4)] (KD t x pb ct it p0 q0 r0 p1 q1 r1 p2 q2 r2 p3 q3 r3 p4 q4 r4 g0 d0 g1 d1 g2 d2 g3 d3 b1 b2):=by kernel_rfl
end
section
variable(w:World)(f:Fl)(ext:Addr→Option Obj)(n t x dx tb pb ct co it:Nat)(kt:Nat→Nat)(p0 q0 r0 p1 q1 r1 p2 q2 r2 p3 q3 r3 p4 q4 r4 p5 q5 r5:Obj)(g0 d0 g1 d1 g2 d2 g3 d3 g4 d4:Nat)(b1 b2:Bool)
noncomputable abbrev KC:List Sp:=[AL [2,3,4] (.call (.ref 244) ⟨[.ref x,.str ιa 587],[]⟩) [(pb,p4),(ct,q4),(it,r4)] (Ba (.bool b2)) [p5,q5,r5] g4 d4,AL [2,3,4] (.call (.ref 244) ⟨[.ref x,.str ιa 587],[]⟩) [(pb,p3),(ct,q3),(it,r3)] (Ba (.bool b1)) [p4,q4,r4] g3 d3,AL [2,3,4] (.call (.ref 244) ⟨[.ref x,.str ⟨⟨[120]⟩⟩ (t+(2+d0+1+d1))],[]⟩) [(pb,p2),(ct,q2),(it,r2)] (Ba (.bool true)) [p3,q3,r3] g2 d2,AL [2,3,4] (.call (.ref 244) ⟨[.ref x,.str ιf 583],[]⟩) [(pb,p1),(ct,q1),(it,r1)] (Ba (.bool false)) [p2,q2,r2] g1 d1,AL [2,3,4] (.call (.ref 244) ⟨[.ref x,.str ιb (t+1)],[]⟩) [(pb,p0),(ct,q0),(it,r0)] (Ba (.bool false)) [p1,q1,r1] g0 d0]
def he3:Res:=
 run (P2 w f ext n t 2) 236 (ιx 171 0x202011000100000016210000001000001000001620201100010000001621000000100000100000162021000000100000100000162020110001000000162100000010000010000016202100000010000010000016066) ((KC t x pb ct it p0 q0 r0 p1 q1 r1 p2 q2 r2 p3 q3 r3 p4 q4 r4 p5 q5 r5 g0 d0 g1 d1 g2 d2 g3 d3 g4 d4 b1 b2).reverse.map Sp.x) [(x,oX dx),(dx,oDx w kt tb pb ct co it),(pb,p0),(ct,q0),(it,r0)] 0 0 .tree
  (ent w ext 387 [.ref x]) [] [] []
theorem he3_v:RvD (he3 w f ext n t x dx tb pb ct co it kt p0 q0 r0 p1 q1 r1 p2 q2 r2 p3 q3 r3 p4 q4 r4 p5 q5 r5 g0 d0 g1 d1 g2 d2 g3 d3 g4 d4 b1 b2) [2,3,4] (.done (.ok (.ret .none))) 0 (1+(g0+0)+(g1+0)+(g2+0)+(g3+0)+(g4+0)) (2+d0+1+d1+1+d2+1+d3+1+d4) [some (pb,p5),some (ct,q5),some (it,r5)] (KC t x pb ct it p0 q0 r0 p1 q1 r1 p2 q2 r2 p3 q3 r3 p4 q4 r4 p5 q5 r5 g0 d0 g1 d1 g2 d2 g3 d3 g4 d4 b1 b2):=by kernel_rfl
end
section
variable(w:World)(f:Fl)(ext:Addr→Option Obj)(n t x dx tb pb ct co it:Nat)(kt:Nat→Nat)(p0 q0 r0 p1 q1 r1 p2 q2 r2 p3 q3 r3 p4 q4 r4 p5 q5 r5 p6 q6 r6 p7 q7 r7 p8 q8 r8:Obj)(g0 d0 g1 d1 g2 d2 g3 d3 g4 d4 g5 d5 g6 d6 g7 d7:Nat)(b1 b2 b3 b4:Bool)
noncomputable abbrev KB:List Sp:=[AL [2,3,4] (.call (.ref 244) ⟨[.ref x,.str ιa 587],[]⟩) [(pb,p7),(ct,q7),(it,r7)] (Ba (.bool b4)) [p8,q8,r8] g7 d7,AL [2,3,4] (.call (.ref 244) ⟨[.ref x,.str ιa 587],[]⟩) [(pb,p6),(ct,q6),(it,r6)] (Ba (.bool b3)) [p7,q7,r7] g6 d6,AL [2,3,4] (.call (.ref 244) ⟨[.ref x,.str ιa 587],[]⟩) [(pb,p5),(ct,q5),(it,r5)] (Ba (.bool b2)) [p6,q6,r6] g5 d5,AL [2,3,4] (.call (.ref 244) ⟨[.ref x,.str ιa 587],[]⟩) [(pb,p4),(ct,q4),(it,r4)] (Ba (.bool b1)) [p5,q5,r5] g4 d4,AL [2,3,4] (.call (.ref 244) ⟨[.ref x,.str ⟨⟨[117]⟩⟩ (t+(2+d0+1+d1+1+d2))],[]⟩) [(pb,p3),(ct,q3),(it,r3)] (Ba (.bool true)) [p4,q4,r4] g3 d3,AL [2,3,4] (.call (.ref 244) ⟨[.ref x,.str ⟨⟨[120]⟩⟩ (t+(2+d0+1+d1))],[]⟩) [(pb,p2),(ct,q2),(it,r2)] (Ba (.bool false)) [p3,q3,r3] g2 d2,AL [2,3,4] (.call (.ref 244) ⟨[.ref x,.str ιf 583],[]⟩) [(pb,p1),(ct,q1),(it,r1)] (Ba (.bool false)) [p2,q2,r2] g1 d1,AL [2,3,4] (.call (.ref 244) ⟨[.ref x,.str ιb (t+1)],[]⟩) [(pb,p0),(ct,q0),(it,r0)] (Ba (.bool false)) [p1,q1,r1] g0 d0]
def he4:Res:=
 run (P2 w f ext n t 2) 370 (ιx 275 0x20201100010000001621000000100000100000162020110001000000162100000010000010000016202011000100000016210000001000001000001620201100010000001621000000100000100000162021000000100000100000162021000000100000100000162020110001000000162100000010000010000016202100000010000010000016066) ((KB t x pb ct it p0 q0 r0 p1 q1 r1 p2 q2 r2 p3 q3 r3 p4 q4 r4 p5 q5 r5 p6 q6 r6 p7 q7 r7 p8 q8 r8 g0 d0 g1 d1 g2 d2 g3 d3 g4 d4 g5 d5 g6 d6 g7 d7 b1 b2 b3 b4).reverse.map Sp.x) [(x,oX dx),(dx,oDx w kt tb pb ct co it),(pb,p0),(ct,q0),(it,r0)] 0 0 .tree
  (ent w ext 387 [.ref x]) [] [] []
theorem he4_v:RvD (he4 w f ext n t x dx tb pb ct co it kt p0 q0 r0 p1 q1 r1 p2 q2 r2 p3 q3 r3 p4 q4 r4 p5 q5 r5 p6 q6 r6 p7 q7 r7 p8 q8 r8 g0 d0 g1 d1 g2 d2 g3 d3 g4 d4 g5 d5 g6 d6 g7 d7 b1 b2 b3 b4) [2,3,4] (.done (.ok (.ret .none))) 0 (1+(g0+0)+(g1+0)+(g2+0)+(g3+0)+(g4+0)+(g5+0)+(g6+0)+(g7+0)) (2+d0+1+d1+1+d2+1+d3+1+d4+1+d5+1+d6+1+d7) [some (pb,p8),some (ct,q8),some (it,r8)] (KB t x pb ct it p0 q0 r0 p1 q1 r1 p2 q2 r2 p3 q3 r3 p4 q4 r4 p5 q5 r5 p6 q6 r6 p7 q7 r7 p8 q8 r8 g0 d0 g1 d1 g2 d2 g3 d3 g4 d4 g5 d5 g6 d6 g7 d7 b1 b2 b3 b4):=by kernel_rfl
end
section
variable(w:World)(f:Fl)(ext:Addr→Option Obj)(n t x dx tb pb ct co it:Nat)(kt:Nat→Nat)(p0 q0 r0 p1 q1 r1 p2 q2 r2 p3 q3 r3 p4 q4 r4 p5 q5 r5 p6 q6 r6 p7 q7 r7 p8 q8 r8 p9 q9 r9:Obj)(g0 d0 g1 d1 g2 d2 g3 d3 g4 d4 g5 d5 g6 d6 g7 d7 g8 d8:Nat)(b1 b2 b3 b4:Bool)
noncomputable abbrev KA:List Sp:=[AL [2,3,4] (.call (.ref 244) ⟨[.ref x,.str ιa 587],[]⟩) [(pb,p8),(ct,q8),(it,r8)] (Ba (.bool b4)) [p9,q9,r9] g8 d8,AL [2,3,4] (.call (.ref 244) ⟨[.ref x,.str ιa 587],[]⟩) [(pb,p7),(ct,q7),(it,r7)] (Ba (.bool b3)) [p8,q8,r8] g7 d7,AL [2,3,4] (.call (.ref 244) ⟨[.ref x,.str ιa 587],[]⟩) [(pb,p6),(ct,q6),(it,r6)] (Ba (.bool b2)) [p7,q7,r7] g6 d6,AL [2,3,4] (.call (.ref 244) ⟨[.ref x,.str ιa 587],[]⟩) [(pb,p5),(ct,q5),(it,r5)] (Ba (.bool b1)) [p6,q6,r6] g5 d5,AL [2,3,4] (.call (.ref 244) ⟨[.ref x,.str ⟨⟨[85]⟩⟩ (t+(2+d0+1+d1+1+d2+1+d3))],[]⟩) [(pb,p4),(ct,q4),(it,r4)] (Ba (.bool true)) [p5,q5,r5] g4 d4,AL [2,3,4] (.call (.ref 244) ⟨[.ref x,.str ⟨⟨[117]⟩⟩ (t+(2+d0+1+d1+1+d2))],[]⟩) [(pb,p3),(ct,q3),(it,r3)] (Ba (.bool false)) [p4,q4,r4] g3 d3,AL [2,3,4] (.call (.ref 244) ⟨[.ref x,.str ⟨⟨[120]⟩⟩ (t+(2+d0+1+d1))],[]⟩) [(pb,p2),(ct,q2),(it,r2)] (Ba (.bool false)) [p3,q3,r3] g2 d2,AL [2,3,4] (.call (.ref 244) ⟨[.ref x,.str ιf 583],[]⟩) [(pb,p1),(ct,q1),(it,r1)] (Ba (.bool false)) [p2,q2,r2] g1 d1,AL [2,3,4] (.call (.ref 244) ⟨[.ref x,.str ιb (t+1)],[]⟩) [(pb,p0),(ct,q0),(it,r0)] (Ba (.bool false)) [p1,q1,r1] g0 d0]
def he5:Res:=
 run (P2 w f ext n t 2) 402 (ιx 299 0x20201100010000001621000000100000100000162020110001000000162100000010000010000016202011000100000016210000001000001000001620201100010000001621000000100000100000162021000000100000100000162021000000100000100000162021000000100000100000162020110001000000162100000010000010000016202100000010000010000016066) ((KA t x pb ct it p0 q0 r0 p1 q1 r1 p2 q2 r2 p3 q3 r3 p4 q4 r4 p5 q5 r5 p6 q6 r6 p7 q7 r7 p8 q8 r8 p9 q9 r9 g0 d0 g1 d1 g2 d2 g3 d3 g4 d4 g5 d5 g6 d6 g7 d7 g8 d8 b1 b2 b3 b4).reverse.map Sp.x) [(x,oX dx),(dx,oDx w kt tb pb ct co it),(pb,p0),(ct,q0),(it,r0)] 0 0 .tree
  (ent w ext 387 [.ref x]) [] [] []
theorem he5_v:RvD (he5 w f ext n t x dx tb pb ct co it kt p0 q0 r0 p1 q1 r1 p2 q2 r2 p3 q3 r3 p4 q4 r4 p5 q5 r5 p6 q6 r6 p7 q7 r7 p8 q8 r8 p9 q9 r9 g0 d0 g1 d1 g2 d2 g3 d3 g4 d4 g5 d5 g6 d6 g7 d7 g8 d8 b1 b2 b3 b4) [2,3,4] (.done (.ok (.ret .none))) 0 (1+(g0+0)+(g1+0)+(g2+0)+(g3+0)+(g4+0)+(g5+0)+(g6+0)+(g7+0)+(g8+0)) (2+d0+1+d1+1+d2+1+d3+1+d4+1+d5+1+d6+1+d7+1+d8) [some (pb,p9),some (ct,q9),some (it,r9)] (KA t x pb ct it p0 q0 r0 p1 q1 r1 p2 q2 r2 p3 q3 r3 p4 q4 r4 p5 q5 r5 p6 q6 r6 p7 q7 r7 p8 q8 r8 p9 q9 r9 g0 d0 g1 d1 g2 d2 g3 d3 g4 d4 g5 d5 g6 d6 g7 d7 g8 d8 b1 b2 b3 b4):=by kernel_rfl
end
section
variable(w:World)(f:Fl)(ext:Addr→Option Obj)(n t L x dx tb pb ct co it e0 e2:Nat)(kt:Nat→Nat)(ts cts:List Value)(ci di k1 k2 k3 li kl1 kl2:Nat)(sg ty jv:Str)(kty kj dl:Nat)(s0 s1 s2 s3 s4:Value)
def em0:Res:=
 run (P2 w f ext n t 0) 20 [1,1,1,1] [] [] 0 0 .tree
  (ent w ext 230 [.ref x,.str ty kty]) [] [] []
theorem em0_v:RvD (em0 w f ext n t x ty kty) [0] (.again (.func (emS1::Jy w) (EX w n))) 1 1 2 [some (n,oFr [de w "self" t (.ref x),de w "typ" (t+1) (.str ty kty)] 2)] []:=by kernel_rfl
def em1:Res:=
 run (P3 w f ext n t 2) 34 (ιx 18 0x201100000100000013) [] [(x,oX dx),(dx,oDx w kt tb pb ct co it),(L,oFr [de w "self" kl1 (.ref x),de w "typ" kl2 (.str ty kty)] 2)] 0 0 .tree
  (CW HK (EX w L)) [] [] []
theorem em1_v:RvD (em1 w f ext n t L x dx tb pb ct co it kt kl1 kl2 ty kty) [2] (.done (.ok (.ret (.ref ct)))) 1 0 1 [some (L,oFr [de w "self" kl1 (.ref x),de w "typ" kl2 (.str ty kty)] 2)] []:=by kernel_rfl
def em2:Res:=
 run (P3 w f ext n t 0) 13 [0,0] [] [] 0 0 .tree
  (EN 3 0) [] [] []
theorem em2_v:RvD (em2 w f ext n t) [] (.done (.ok (.ret (.ref 0)))) 1 0 0 [] []:=by kernel_rfl
def em3:Res:=
 run (P3 w f ext n t 2) 27 (ιx 13 0x2011000100001) [] [(ci,oC di),(di,oDc w k1 k2 (.str sg k3) li)] 0 0 .tree
  (KY (.ref ci) ⟨#[99,104,97,114]⟩) [] [] []
theorem em3_v:RvD (em3 w f ext n t ci di k1 k2 k3 li sg) [] (.done (.ok (.ret (.str sg k3)))) 1 0 1 [] []:=by kernel_rfl
def em4:Res:=
 run (P4 w f ext n t 5) 378 (ιx 258 0x28088882011000001000000162706777720110000010000001666a0a000000a0000000000a0a00a0000abb50000b00a0a000000a0000000000a0a00a0000abba0a000000a0000000000a0a00a0000abb0bbbbbbbb30000a0a000000000000000000000000000000000666066040330003000030808088820110000010000001666) ([Bc 6 tb ts e0 (.ref (n+1)),G4 7 ct (.ref ci::cts) e2].map Sp.x) [(x,oX dx),(dx,oDx w kt tb pb ct co it),(ci,oC di),(di,oDc w k1 k2 (.str sg k3) li),(li,oL dl s0 s1 s2 s3 s4),(L,oFr [de w "self" kl1 (.ref x),de w "typ" kl2 (.str ty kty)] 2),(tb,lst ts e0),(ct,lst (.ref ci::cts) e2)] 0 0 .tree
  (CS (EX w L) ⟨#[118,97,108]⟩ (.str jv kj) (Jy w)) [] [] []
theorem em4_v:RvD (em4 w f ext n t L x dx tb pb ct co it e0 e2 kt ts cts ci di k1 k2 k3 li kl1 kl2 sg ty jv kty kj dl s0 s1 s2 s3 s4) [6,7,9] (.done (.ok .next)) 1 3 15 [some (tb,lst (ts++[.ref (n+1)]) (e0+1)),some (ct,lst [] (e2+1)),some (n+1,oT n ty kty jv kj li)] [G4 7 ct (.ref ci::cts) e2,Bc 6 tb ts e0 (.ref (n+1))]:=by kernel_rfl
end
structure Tab(h:Heap)(c P:Addr)(ps:Array Value):Prop where
 code:h.IsCode c P ps
 tab:h.TableAt c P ps
theorem genexprCode_tab{M:Model}{A:Around}{s:Shared}{env:Env}{c P:Addr}{ps:Array Value}{pos:Pos}{qualname:Str}{scope:Scope}{Q:Value→Shared→Prop}(hc:env.code=.ref c)(T:Tab s.heap c P ps)
  (hQ:∀ code h' tk more,Heap.ExtBut P s.heap h'→s.heap.objs.size≤h'.objs.size→Tab h' c P (ps++more)→Q code {s with heap:=h',toks:=tk}):wpAny M A (genexprCode env pos qualname scope) Q E s:=by
 cases hnf:codeAmong pos ps.toList with
 | none=>exact wpAny_genexprCodeX hc T.code T.tab hnf fun c' h' tk h1 h2 h3 h4 h5 h6 _=>hQ _ _ _ _ h1 (Nat.le_of_lt (Nat.lt_of_le_of_lt h2 h3)) ⟨h4,h6⟩
 | some cv=>
  obtain⟨o,vs,file,tf,flags,tg,inF,text,tt,op,ho,hd,h11,h2,h7,h9,h10,hop,hpd,htr,hne⟩:=id T.code
  unfold genexprCode codeAt
  rw [hc,if_neg (show ¬ ((Value.ref c == Value.none)=true) from Bool.false_ne_true)]
  refine wpAny_bind (wpAny_fieldsOf ho hd ?_)
  rw [h11]
  refine wpAny_bind (wpAny_fieldsOf hop hpd ?_)
  rw [hnf]
  have:=hQ cv s.heap s.toks #[] (Heap.ExtBut.refl _ _) (ιR _) (by simpa using T)
  exact ιp this
theorem Inv.MH{w:World}{ext:Addr→Option Obj}{s:Shared}(S:Ak w ext s){reads pre:Led}(hrd:∀ p∈reads,lkX w ext p.1=some p.2)(hnr:(reads.map (·.1)).Nodup)(own:∀ p∈pre,s.heap.get? p.1=some p.2)(nd:(pre.map (·.1)).Nodup)
  (ap:∀ p∈pre,lkX w ext p.1=none):Inv (lkX w ext) reads.length s (pre.map (·.1)) (reads++pre) (s.heap.objs.size+0) (s.toks+0) s:=by
 have hfst:∀ p∈reads++pre,s.heap.get? p.1=some p.2:=fun p hp'=>by
  rcases ιM hp' with h | h
  ·exact S _ _ (hrd p h)
  ·exact own p h
 have hdrop:((reads++pre).drop reads.length).map (·.1)=pre.map (·.1):=by rw [List.drop_left]
 rw [←hdrop]
 refine Inv.start S hfst ?_ ?_
 ·rw [List.map_append,List.nodup_append]
  refine⟨hnr,nd,fun a ha b hb e=>?_⟩
  subst e
  obtain⟨p,hp1,rfl⟩:=List.mem_map.mp ha
  obtain⟨q,hq1,hq2⟩:=List.mem_map.mp hb
  have h1:=hrd p hp1
  have h2:=ap q hq1
  rw [hq2,h1] at h2; cases h2
 ·intro i p hi hr
  have:∀ (l:Led) (i:Nat),Aq (l++pre) i=some p→l.length≤i→p∈pre:=by
   intro l
   induction l with
   | nil=>intro i h _; exact Bx h
   | cons x l ih=>
    intro i h hl
    cases i with
    | zero=>cases hl
    | succ i=>exact ih i h (Nat.le_of_succ_le_succ hl)
  exact ap p (this reads i hi hr)
theorem Cfg.seg_cons(c:Cfg){b p:Nat}(h:b<p):c.seg b p=.ref (c.ci b)::c.seg (b+1) p:=by
 unfold Cfg.seg
 rw [show p-b=(p-(b+1))+1 from ω00 h,List.range'_succ]
 rfl
theorem Cfg.seg_at(c:Cfg){b p i:Nat}(h:i<p-b):(c.seg b p)[i]? = some (.ref (c.ci (b+i))):=by
 simp [Cfg.seg,h]
section
variable{w:World}{ext:Addr→Option Obj}{c:Cfg}
theorem em_quiet(W:Ae w)(O:c.Ok w ext){s:Shared}(S:Ak w ext s){cenv:Env}{href:Heap}{N I b p:Nat}(hC:cenv.scope.kind=.function)(hx:cenv.kindOf ⟨#[99]⟩=some .local)(hp:p≤c.N)
  (hS:∀ a o,lkX w ext a=some o→href.get? a=some o∧a<N∧a≠I) :
  QuietGen pr2 w cenv ⟨#[99]⟩ [] KK (List.range N) [I] (fun i v=>(c.seg b p).toArray[i]? = some v) (fun _=>true) (fun i y=>∃ t,y=.str (c.sg (b+i)) t) href where
 tests:=fun A' E' i v s₂ m₂ hA hP hn hv hk=>by
  show wpAny _ _ (pure true) _ _ _
  exact ιp ⟨rfl,s₂.heap,s₂.toks,rfl,fun _ _ e=>e⟩
 elt:=fun A' E' i v s₂ m₂ hA hP _ hn hv hk=>by
  have S₂:Ak w ext s₂:=fun a o e=>by
   obtain⟨h1,h2,h3⟩:=hS a o e
   exact hk a (List.mem_range.mpr h2) (by simpa using h3) o h1
  have hP':(c.seg b p)[i]? = some v:=by simpa using hP
  have hi:i<p-b:=by
   have:=List.getElem?_eq_some_iff.mp hP'
   obtain⟨h,_⟩:=this
   rwa [c.seg_len] at h
  rw [c.seg_at hi] at hP'
  injection hP' with hP'
  subst hP'
  have hlt:b+i<c.N:=ω01 hp hi
  show wpAny _ _ (eval (.Attribute (.Name ⟨#[99]⟩ ⟨99,23,99,24⟩) ⟨#[99,104,97,114]⟩ ⟨99,23,99,29⟩) cenv) _ _ s₂
  rw [arm_eval_Attribute]
  show wpAny _ _ (eval (.Name ⟨#[99]⟩ ⟨99,23,99,24⟩) cenv >>= _) _ _ s₂
  rw [eval_Name (env:=cenv) ⟨#[99]⟩ ⟨99,23,99,24⟩ (by decide +kernel)]
  refine wpAny_bind (wpAny_bind (wpAny_standAt (wpAny_loadName_local hC hx hn hv (wpAny_bind (wpAny_standAt (wpAny_bind (wpAny_holding ?_)))))))
  refine CB ?_
  rw [←getT_eq]
  have hrd:∀ q∈[(c.ci (b+i),oC (c.di (b+i))),(c.di (b+i),oDc w (c.k1 (b+i)) (c.k2 (b+i)) (.str (c.sg (b+i)) (c.k3 (b+i))) (c.li (b+i)))],lkX w ext q.1=some q.2:=Ab (O.hci _ hlt) (Ab (O.hdi _ hlt) Aa)
  refine Al (g:=Ac pr2 w A' _ E') (Ei (t:=s₂.toks) (ro:=2) W S₂ hA) rfl (em3_v _ _ _ _ _ (c.ci (b+i)) (c.di (b+i)) (c.k1 (b+i)) (c.k2 (b+i)) (c.k3 (b+i)) (c.li (b+i)) (c.sg (b+i))) (vs:=[]) Aa
   (Inv.MH S₂ (pre:=[]) hrd (Aj hrd rfl) Aa ιN Aa) fun s' I' _=>ιp ?_
  refine wpAny_bind (m:=letTemporaryGo _ _ _) (ιp (ιp ⟨⟨_,rfl⟩,s'.heap,s'.toks,I'.same,fun a o e=>I'.keep a o e (fun h=>nomatch h)⟩))
end
section
variable{w:World}{ext:Addr→Option Obj}{c:Cfg}
noncomputable def Cfg.txt(c:Cfg)(b p:Nat):Str:=Txt.join ⟨#[]⟩ ((List.range' b (p-b)).map c.sg)
theorem em_fold(env:Env)(x:Value):genFold HK env x=pure x:=rfl
noncomputable def finA(Q:Addr→Shared→Prop):PySem.Fin→Shared→Prop
 | .done (.ret (.ref v)),s=>Q v s
 | _,_=>False
theorem of_finA{M:Model}{A:Around}{m:Sem Addr}{Q:Addr→Shared→Prop}{s:Shared}(h:wpAny M A (m >>= fun v=>pure (.done (.ret (.ref v)))) (finA Q) E s):wpAny M A m Q E s:=fun Γ p hΓ=>by
 have:=h Γ p hΓ
 rw [Sem.wp_bind'] at this
 exact Sem.wp_mono M Γ m (fun a p' s' h'=>h') (fun _ _ _ h'=>h') p s this
noncomputable def Jw(Q:Flow→Shared→Prop):PySem.Fin→Shared→Prop
 | .done f,s=>Q f s
 | _,_=>False
theorem DO{M:Model}{A:Around}{m:Sem Flow}{s:Shared}(h:wpAny M A (m >>= fun v=>pure (.done v)) (Jw Q) E s):wpAny M A m Q E s:=fun Γ p hΓ=>by
 have:=h Γ p hΓ
 rw [Sem.wp_bind'] at this
 exact Sem.wp_mono M Γ m (fun a p' s' h'=>h') (fun _ _ _ h'=>h') p s this
theorem of_bindThen{M:Model}{A:Around}{env:Env}{x:Str}{v:Value}{rest:List Stmt}{s:Shared}(h:wpAny M A (CS env x v rest) (Jw Q) E s) :
  wpAny M A (bindName env x v >>= fun _=>execs rest env) Q E s:=by
 refine DO ?_
 rw [EZ] at h
 rw [bind_assoc]
 exact h
theorem DS{a:Array GenState}{g:GenState}(h:g.bare=true):By a (a.push g) where
 keep:=fun i x e=>by
  have:i<a.size:=by
   rcases Nat.lt_or_ge i a.size with q | q
   ·exact q
   ·rw [Array.getElem?_eq_none q] at e; cases e
  rw [Array.getElem?_push_lt this,←e,Array.getElem?_eq_getElem this]
 bare:=fun i x e=>by
  rcases Nat.lt_trichotomy i a.size with q | q | q
  ·rw [Array.getElem?_push_lt q] at e
   exact .inl (by rw [Array.getElem?_eq_getElem q]; exact e)
  ·subst q
   rw [Array.getElem?_push_size] at e
   cases e; exact .inr h
  ·rw [Array.getElem?_eq_none (by simp; exact q)] at e; cases e
theorem Gp{a b:Array GenState}{g:Nat}(h:GenOnlyQ g a b)(hg:∀ i,i<g→i<g):∀ i,i≠g→b[i]? = a[i]?:=by
 rcases h with rfl | ⟨⟨_,ho⟩,_⟩
 ·exact fun _ _=>rfl
 ·exact ho
theorem gext_gen{a b:Array GenState}{g:GenState}(hg:g.bare=true)(h:GenOnlyQ a.size (a.push g) b):By a b where
 keep:=fun i x e=>by
  have hlt:i<a.size:=by
   rcases Nat.lt_or_ge i a.size with q | q
   ·exact q
   ·rw [Array.getElem?_eq_none q] at e; cases e
  rw [Gp h (fun _ h=>h) i (Nat.ne_of_lt hlt)]
  exact(DS hg).keep i x e
 bare:=fun i x e=>by
  by_cases q:i=a.size
  ·rcases h with rfl | ⟨_,hb⟩
   ·exact(DS hg).bare i x e
   ·subst q; exact .inr (hb x e)
  ·rw [Gp h (fun _ h=>h) i q] at e
   exact(DS hg).bare i x e
theorem pass_all(n i:Nat):passing (fun _=>true) n i=(List.range n).drop i:=by
 unfold passing; simp
theorem joinOk_small{l:List Str}(h:∀ x∈l,x.length≤1)(hn:l.length≤1000):JoinOk ⟨#[]⟩ l=true:=by
 have key:∀ (l:List Str) (acc:Nat),(∀ x∈l,x.length≤1)→l.foldl (fun a x=>a+x.length+(⟨#[]⟩:Str).length) acc≤acc+l.length:=by
  intro l
  induction l with
  | nil=>intro acc _; exact ιR _
  | cons x l ih=>
   intro acc h
   have h1:=h x μ0
   have h2:=ih (acc+x.length+(⟨#[]⟩:Str).length) fun y hy=>h y (.tail _ hy)
   have h3:(⟨#[]⟩:Str).length=0:=rfl
   rw [List.foldl_cons,List.length_cons]
   exact ω02 h1 h2 h3
 have:=key l 0 h
 unfold JoinOk
 rw [List.foldl_toArray]
 unfold Builtin.Str.tooLong
 simp only [Bool.not_eq_true',decide_eq_false_iff_not]
 show ¬ _>2 ^ 24
 omega
theorem Tab.at{h h':Heap}{c P:Addr}{ps}(T:Tab h c P ps)(hk:∀ b o,(b=c∨b=P)→h.get? b=some o→h'.get? b=some o):Tab h' c P ps:=by
 obtain⟨⟨o,vs,file,tf,flags,tg,inF,text,tt,op,a,r1,r2,r3,r4,r5,r6,b,r⟩,⟨⟨o',vs',a',r'⟩,t⟩⟩:=T
 exact⟨⟨o,vs,file,tf,flags,tg,inF,text,tt,op,hk _ _ (.inl rfl) a,r1,r2,r3,r4,r5,r6,hk _ _ (.inr rfl) b,r⟩,⟨⟨o',vs',hk _ _ (.inl rfl) a',r'⟩,hk _ _ (.inr rfl) t⟩⟩
structure Emitted(c:Cfg)(ty:Str)(kty b p:Nat)(ts:List Value)(e0 e2:Nat)(ps:Array Value)(st st':Shared):Prop where
 aft:Aft [c.tb,c.ct,225] st st'
 tok:∃ ta dt kj,st.heap.objs.size≤ta∧st'.heap.get? c.tb=some (lst (ts++[.ref ta]) (e0+1))∧st'.heap.get? ta=some (oT dt ty kty (c.txt b p) kj (c.li b))
 ct:st'.heap.get? c.ct=some (lst [] (e2+1))
 tab:∃ more,Tab st'.heap 229 225 (ps++more)
theorem Hs(W:Ae w)(O:c.Ok w ext){b p:Nat}(hb:b<p)(hp:p≤c.N)(hsg:∀ i,i<c.N→(c.sg i).length≤1)(h225:lkX w ext 225=none)(ty:Str)(kty:Nat)(ts:List Value)(e0 e2:Nat)(hts:ts.length≤1000)(ps:Array Value)
  {A:Around} {st:Shared} {R:Result→Shared→Prop} (hA:Ar A 200) (S:Ak w ext st) (htb:st.heap.get? c.tb=some (lst ts e0)) (hct:st.heap.get? c.ct=some (lst (c.seg b p) e2)) (T:Tab st.heap 229 225 ps)
  (hR:∀ st',Emitted c ty kty b p ts e0 e2 ps st st'→R (.ok (.ret .none)) st'):codeAny (model pr2 w) A (.call (.ref 230) ⟨[.ref c.x,.str ty kty],[]⟩) R st:=by
 have hh:A.handled=none:=hA.handled
 refine Bv S (BA w ext 230 (by rfl)) (by have:=hA.depth; exact ω03 this) ?_
 refine AR (BC (t:=st.toks) (ro:=0) W S hA (by decide)) rfl (em0_v _ _ _ _ _ c.x ty kty) (vs:=[]) Aa
  (Inv.MH S (reads:=[]) (pre:=[]) Aa ιN Aa ιN Aa) fun s1 I1 H1=>?_
 have A1:Aft [] st s1:=I1.aft
 have S1:Ak w ext s1:=I1.stat
 have hL:=H1 _ μ0
 generalize hLe:st.heap.objs.size=L at hL I1
 dsimp only at hL
 refine ιp ⟨W.nolimit _ fun a o e=>S1 a o (by show(match lk w a with | some o=>some o | none=>ext a)=_; rw [e]),rfl,?_⟩
 refine codeAny_func ?_
 have hroom:Ar (A.deeper (EX w L)) 190:=⟨hh,by show A.depth+1+190<_; have:=hA.depth; exact ω04 this,by show A.units+3+_<_; have:=hA.units; exact ω05 this⟩
 generalize hAd:A.deeper (EX w L)=Ad at hroom ⊢
 rw [execs_cons]
 show wpAny _ _ (exec (.Assign [.Name ⟨#[118,97,108]⟩ ⟨99,8,99,11⟩] Jz ⟨99,8,99,58⟩) (EX w L) >>= _) _ _ _
 rw [exec_Assign_Name _ _ _ _ _ rfl]
 simp only [bind_assoc,pure_bind]
 refine wpAny_bind (wpAny_standAt ?_)
 refine wpAny_bind ?_
 refine Call_method1 rfl rfl rfl ?_
 refine Calls.Constant_str ?_
 refine⟨"str","str.join",F.plainAttrs_str,F.slot_str_join,F.type_str_join,typeIs_str _ _ _,(fun _ e=>nomatch e),?_⟩
 refine Calls.callWith_builtin rfl (Calls.evalArgs_plain (Calls.spliced_cons (wpAny_mono ?_ (fun v s₁ h₁=>Calls.spliced_nil h₁) fun _ _ e=>e)))
 generalize hs2:({s1 with toks:=s1.toks+1}:Shared)=s2
 have S2:Ak w ext s2:=by subst hs2; exact S1
 have hL2:s2.heap.get? L=some (oFr [de w "self" st.toks (.ref c.x),de w "typ" (st.toks+1) (.str ty kty)] 2):=by subst hs2; exact hL
 refine wpAny_GeneratorExp_walksQ (x:=⟨#[99]⟩) (cl:=[]) hroom.handled rfl rfl (by decide) (by decide) (by decide) rfl (by have:=hroom.depth; exact ω03 this) ?_ (em_fold _)
 have ltL:∀ {a:Addr} {o:Obj},st.heap.get? a=some o→a≠L:=fun e q=>by
  have:=ιH e
  rw [hLe,q] at this
  exact Nat.lt_irrefl _ this
 have k12:∀ a o,st.heap.get? a=some o→s2.heap.get? a=some o:=fun a o e=>by subst hs2; exact A1.keep a o e (fun h=>nomatch h)
 have hrd2:∀ q∈([(c.x,oX c.dx),(c.dx,oDx w c.kt c.tb c.pb c.ct c.co c.it)]:Led),lkX w ext q.1=some q.2:=Ab O.hx (Ab O.hdx Aa)
 have apL:lkX w ext L=none:=by
  cases e:lkX w ext L with
  | none=>rfl
  | some o=>exact absurd rfl (ltL (S L o e))
 refine CB ?_
 rw [←DH]
 refine Al (g:=Ac pr2 w Ad _ _) (Ei (t:=s2.toks) (ro:=2) W S2 hroom.handled) rfl (em1_v _ _ _ _ _ L c.x c.dx c.tb c.pb c.ct c.co c.it c.kt st.toks (st.toks+1) ty kty) (vs:=[]) Aa
  (Inv.MH S2 (pre:=[(L,oFr [de w "self" st.toks (.ref c.x),de w "typ" (st.toks+1) (.str ty kty)] 2)]) hrd2 (Aj hrd2 rfl) (Ab hL2 Aa) (by simp) (Ab apL Aa)) fun s3 I3 H3=>ιp ?_
 show wpAny _ _ (pyIter (.ref c.ct)) _ _ s3
 have S3:Ak w ext s3:=I3.stat
 have hL3:=H3 _ μ0
 dsimp only at hL3
 have k23:∀ a o,st.heap.get? a=some o→s3.heap.get? a=some o:=fun a o e=>I3.keep a o (k12 a o e) (by simpa using ltL e)
 have z3:L<s3.heap.objs.size:=ιH hL3
 have ctI:c.ct≠s3.heap.objs.size:=Nat.ne_of_lt (ιH (k23 _ _ hct))
 have hil:s3.heap.IsList c.ct (c.seg b p).toArray:=⟨_,k23 _ _ hct,rfl,_,rfl⟩
 refine wpAny_pyIter_list hil ?_
 generalize hs4:({s3 with heap:=s3.heap.push {cls:=.type "list_iterator",data:=.fields #[.ref c.ct,.int 0 0]}}:Shared)=s4
 have k34:∀ a o,s3.heap.get? a=some o→s4.heap.get? a=some o:=fun a o e=>by subst hs4; exact Heap.get?_push_of_some _ e
 have S4:Ak w ext s4:=fun a o e=>k34 a o (S3 a o e)
 have hI4:s4.heap.get? s3.heap.objs.size=some {cls:=.type "list_iterator",data:=.fields #[.ref c.ct,.int 0 0]}:=by subst hs4; exact Heap.get?_push_size _ rfl
 have z4:s4.heap.objs.size=s3.heap.objs.size+1:=by subst hs4; exact Heap.size_push ..
 have n225:∀ a o,lkX w ext a=some o→a≠225:=fun a o e q=>by rw [q,h225] at e; cases e
 have nl:∀ {s:Shared},Ak w ext s→s.heap.NoLimit:=fun {s} X=>W.nolimit _ fun a o e=>X a o (by show(match lk w a with | some o=>some o | none=>ext a)=_; rw [e])
 have T4:Tab s4.heap 229 225 ps:=⟨T.code.keeps fun a o e=>k34 a o (k23 a o e),T.tab.keeps fun a o e=>k34 a o (k23 a o e)⟩
 have hP:st.heap.get? 225=some {cls:=.none,data:=.fields ps}:=T.tab.2
 refine⟨nl S4,genexprCode_tab (c:=229) (P:=225) (by kernel_rfl) T4 fun code h5 tk5 more hx5 hsz5 T5=>?_⟩
 generalize hs5:({s4 with heap:=h5,toks:=tk5}:Shared)=s5
 have e5:s5.heap=h5:=by subst hs5; rfl
 have k45:∀ a o,a≠225→s4.heap.get? a=some o→s5.heap.get? a=some o:=fun a o ha e=>by rw [e5]; exact hx5 a o ha e
 have S5:Ak w ext s5:=fun a o e=>k45 a o (n225 a o e) (S4 a o e)
 have T5:Tab s5.heap 229 225 (ps++more):=by rw [e5]; exact T5
 have z5:s4.heap.objs.size≤s5.heap.objs.size:=by rw [e5]; exact hsz5
 have eg:(EX w L).globals=3:=by kernel_rfl
 have eb:(EX w L).builtins=0:=by kernel_rfl
 rw [eg,eb]
 refine of_finA ?_
 rw [←builtinsT_eq]
 refine Al (g:=Ac pr2 w Ad _ _) (Ei (t:=s5.toks) (ro:=0) W S5 hroom.handled) rfl (em2_v w (Ax w) ext s5.heap.objs.size s5.toks) (vs:=[]) Aa
  (Inv.MH S5 (reads:=[]) (pre:=[]) Aa ιN Aa ιN Aa) fun s6 I6 _=>ιp ?_
 have S6:Ak w ext s6:=I6.stat
 have k56:∀ a o,s5.heap.get? a=some o→s6.heap.get? a=some o:=fun a o e=>I6.keep a o e (fun h=>nomatch h)
 have g6:s6.gens=s4.gens∧s6.drawn=s4.drawn∧s6.os=s4.os:=by
  have h:=I6.same
  subst hs5
  generalize s6.heap=hh6 at h
  generalize s6.toks=tt6 at h
  subst h
  exact⟨rfl,rfl,rfl⟩
 have z6:s5.heap.objs.size≤s6.heap.objs.size:=I6.aft.size
 have lt6:∀ {a:Addr} {o:Obj},s6.heap.get? a=some o→a<s6.heap.objs.size:=fun e=>ιH e
 have hI6:s6.heap.get? s3.heap.objs.size=some {cls:=.type "list_iterator",data:=.fields #[.ref c.ct,.int 0 0]}:=k56 _ _ (k45 _ _ (fun e=>by
  have:=ιH (k23 _ _ hP)
  rw [e] at this; exact Nat.lt_irrefl _ this) hI4)
 have ct225:c.ct≠225:=fun e=>by
  rw [e,hP] at hct; cases hct
 have hct6:s6.heap.get? c.ct=some (lst (c.seg b p) e2):=k56 _ _ (k45 _ _ ct225 (k34 _ _ (k23 _ _ hct)))
 have statI:∀ a o,lkX w ext a=some o→a≠s3.heap.objs.size:=fun a o e q=>by
  have:=ιH (S3 a o e)
  rw [q] at this; exact Nat.lt_irrefl _ this
 have hcs:cStatics≠s3.heap.objs.size:=by
  obtain⟨_,hn,_⟩:=nl S3
  exact Nat.ne_of_lt hn.lt
 refine⟨s3.heap.objs.size,[s3.heap.objs.size,c.ct],[s3.heap.objs.size],(c.seg b p).toArray.size,_,_,fun _=>true,fun i y=>∃ t,y=.str (c.sg (b+i)) t,rfl,(fun A' hA'=>Walks.list hA' _ _ ctI _),⟨⟨_,hI6,rfl,rfl⟩,⟨_,hct6,rfl,_,rfl⟩⟩,
  Ab (lt6 hI6) (Ab (lt6 hct6) Aa),nl S6,(fun h=>by
   rcases ιC h with q | q
   ·exact hcs q
   ·cases q),(fun href hk=>em_quiet W O S (b:=b) (p:=p) rfl rfl hp fun a o e=>⟨hk _ _ (S6 a o e),lt6 (S6 a o e),statI a o e⟩),?_⟩
 intro a h7 tk7 gs hgb hag hsz7 hk7 Wk hat
 have hpl:(passing (fun _=>true) (c.seg b p).toArray.size 0)=List.range (p-b):=by
  rw [pass_all,List.drop_zero]
  simp [c.seg_len]
 have hlen:(passing (fun _=>true) (c.seg b p).toArray.size 0).length=p-b:=by rw [hpl,List.length_range]
 have hN:=O.small
 refine SC.joinGen Wk.in4_2 (fun i s st=>st.1.typeIs) hat ?_ List.mem_cons_self (fun i v hv=>?_) (fun s8 l hm8 hl8=>?_) ?_
 ·intro q hq
  show q<h7.objs.size
  rw [hsz7]
  rcases ιC hq with rfl | hq
  ·exact Nat.lt_succ_self _
  ·rcases ιC hq with rfl | hq
   ·exact Nat.lt_succ_of_lt hag
   ·exact Nat.lt_succ_of_lt (Nat.lt_trans (List.mem_range.mp hq) hag)
 ·obtain⟨i,_,t,e⟩:=hv
  exact⟨_,_,e⟩
 ·have hl:l.map (·.1)=(List.range' b (p-b)).map c.sg:=by
   have h1:l.length=p-b:=by
    have:=hl8.1
    rw [hlen] at this
    simpa [strValues] using this
   refine List.ext_getElem? fun j=>?_
   rcases Nat.lt_or_ge j (p-b) with hj | hj
   ·have hjl:j<l.length:=ω06 h1 hj
    have h2:=hl8.2 j (.str l[j].1 l[j].2) (by simp [strValues,hjl])
    obtain⟨i,hi,t,e⟩:=h2
    rw [hpl,List.getElem?_range hj] at hi
    injection hi with hi
    subst hi
    injection e with e1 e2
    simp [hjl,hj,e1]
   ·rw [List.getElem?_eq_none (by simp; exact ω07 h1 hj),List.getElem?_eq_none (by simp; exact ω08 hj)]
  rw [hl]
  refine⟨?_,fun t' k=>?_⟩
  ·refine joinOk_small (fun x hx=>?_) (by simp; exact ω09 hp hN)
   obtain⟨i,hi,rfl⟩:=List.mem_map.mp hx
   have:=List.mem_range'_1.mp hi
   exact hsg i (ω0a hp this)
  ·refine wpAny_bind (wpAny_standAt (of_bindThen ?_))
   generalize hs9:({s8 with toks:=k}:Shared)=s9
   have k69:∀ a o,a≠s3.heap.objs.size→s6.heap.get? a=some o→s9.heap.get? a=some o:=fun a o hne e=>by
    subst hs9
    refine hm8.heap a o (fun hm=>?_) (hk7 a o e)
    rcases ιC hm with q | hm
    ·exact Nat.lt_irrefl _ (q▸lt6 e)
    ·exact hne (by simpa using hm)
   have kst:∀ a o,a≠225→st.heap.get? a=some o→s9.heap.get? a=some o:=fun a o h1 e=>
    k69 a o (fun q=>by
     have:=ιH (k23 a o e)
     rw [q] at this; exact Nat.lt_irrefl _ this) (k56 _ _ (k45 _ _ h1 (k34 _ _ (k23 _ _ e))))
   have S9:Ak w ext s9:=fun a o e=>k69 a o (statI a o e) (S6 a o e)
   have l225:225<L:=by rw [←hLe]; exact ιH hP
   have hL9:s9.heap.get? L=some (oFr [de w "self" st.toks (.ref c.x),de w "typ" (st.toks+1) (.str ty kty)] 2):=
    k69 _ _ (Nat.ne_of_lt z3) (k56 _ _ (k45 _ _ (Nat.ne_of_gt l225) (k34 _ _ hL3)))
   have tb225:c.tb≠225:=fun e=>by
    rw [e,hP] at htb; cases htb
   have htb9:=kst _ _ tb225 htb
   have hct9:=kst _ _ ct225 hct
   rw [c.seg_cons hb] at hct9
   have hbN:b<c.N:=ιL hb hp
   have hrd:∀ q∈([(c.x,oX c.dx),(c.dx,oDx w c.kt c.tb c.pb c.ct c.co c.it),(c.ci b,oC (c.di b)),(c.di b,oDc w (c.k1 b) (c.k2 b) (.str (c.sg b) (c.k3 b)) (c.li b)),(c.li b,oL (c.dl b) (c.ls b 0) (c.ls b 1) (c.ls b 2) (c.ls b 3) (c.ls b 4))]:Led),lkX w ext q.1=some q.2:=
    Ab O.hx (ζ4 O.hdx (O.hci b hbN) (O.hdi b hbN) (O.hli b hbN))
   have nd3:[L,c.tb,c.ct].Nodup:=by
    have:=O.nd
    replace this:=ω9i.1 this; refine ω9j.2 ?_
    exact⟨⟨Ne.symm (ltL htb),Ne.symm (ltL hct)⟩,this.1.2.1,not_false,ιN⟩
   have ap3:∀ a∈[L,c.tb,c.ct],lkX w ext a=none:=Ab apL (ζ2 (O.ap _ (μ0)) (O.ap _ (μ2)))
   have hsl:sizeLine=16777216:=by decide
   refine Al (g:=Ac pr2 w Ad _ _) (Ao (t:=s9.toks) (ro:=5) W S9 hroom (by decide)) rfl (em4_v _ _ _ _ _ L c.x c.dx c.tb c.pb c.ct c.co c.it e0 e2 c.kt ts (c.seg (b+1) p) (c.ci b) (c.di b) (c.k1 b) (c.k2 b) (c.k3 b) (c.li b) st.toks (st.toks+1) (c.sg b) ty (c.txt b p) kty t' (c.dl b) (c.ls b 0) (c.ls b 1) (c.ls b 2) (c.ls b 3) (c.ls b 4))
    (vs:=_) (ζ2 (o_clear S9.new (leR rfl) (by simp [c.seg_len]; exact ω0b hp hN hsl) (List.cons_ne_nil _ _)) (AN S9.new (leR rfl) (ω0c hts hsl)))
    (Inv.MH S9 (pre:=[(L,oFr [de w "self" st.toks (.ref c.x),de w "typ" (st.toks+1) (.str ty kty)] 2),(c.tb,lst ts e0),(c.ct,lst (.ref (c.ci b)::c.seg (b+1) p) e2)]) hrd (Aj hrd rfl) (ζ3 hL9 htb9 hct9) nd3 (ζ3 apL (O.ap _ (μ0)) (O.ap _ (μ2)))) fun s10 I10 H10=>ιp ?_
   show R (.ok (.ret .none)) s10
   have zs:st.heap.objs.size≤s9.heap.objs.size:=by
    rw [hLe]
    exact Nat.le_of_lt (ιH hL9)
   refine hR s10 ⟨?_,⟨s9.heap.objs.size+1,s9.heap.objs.size,t',Nat.le_succ_of_le zs,H10 _ μ0,H10 _ μ2⟩,H10 _ μ1,more,?_⟩
   ·have a12:Aft [] s1 s2:=by subst hs2; exact⟨rfl,By.refl _,fun _ _ e _=>e,ιR _⟩
    have a34:Aft [] s3 s4:=⟨by subst hs4; rfl,by subst hs4; exact By.refl _,fun a o e _=>k34 a o e,by rw [z4]; exact Nat.le_succ _⟩
    have a45:Aft [225] s4 s5:=⟨by subst hs5; rfl,by subst hs5; exact By.refl _,fun a o e ha=>k45 a o (by simpa using ha) e,z5⟩
    have a69:Aft [s6.heap.objs.size,s3.heap.objs.size] s6 s9:=by
     refine⟨?_,?_,fun a o e ha=>k69 a o (fun q=>ha (by simp [q])) e,?_⟩
     ·subst hs9
      have h1:=hm8.drawn
      have h2:=hm8.os
      cases s8
      dsimp only at h1 h2 ⊢
      rw [h1,h2]
     ·subst hs9
      exact gext_gen hgb hm8.gens
     ·have:s6.heap.objs.size≤a:=Nat.le_of_lt hag
      have h1:h7.get? a≠none:=by
       obtain⟨_,_,_,e,_⟩:=hat.1
       rw [show h7.get? a=_ from e]; exact fun q=>nomatch q
      subst hs9
      obtain⟨_,_,_,e,_⟩:=hat.1
      have e2:h7.get? a=some _:=e
      have:=hm8.heap a _ (fun hm=>by
       rcases ιC hm with q | hm
       ·exact Nat.lt_irrefl _ (q▸hag)
       ·have q:a=s3.heap.objs.size:=by simpa using hm
        have h3:s3.heap.objs.size<s6.heap.objs.size:=lt6 hI6
        exact Nat.lt_irrefl _ (Nat.lt_trans (q▸h3) hag)) e2
      exact Nat.le_of_lt (Nat.lt_trans hag (ιH this))
    let D:=[L,s3.heap.objs.size,s6.heap.objs.size,c.tb,c.ct,225]
    have big:Aft D st s10:=
     (A1.mono (D':=D) fun x hx=>nomatch hx).trans<|(a12.mono (D':=D) fun x hx=>nomatch hx).trans<|(I3.aft.mono (D':=D) (Ab μ0 Aa)).trans <|
     (a34.mono (D':=D) fun x hx=>nomatch hx).trans<|(a45.mono (D':=D) (Ab μ5 Aa)).trans<|(I6.aft.mono (D':=D) fun x hx=>nomatch hx).trans <|
     (a69.mono (D':=D) (ζ2 μ2 μ1)).trans (I10.aft.mono (D':=D) (ζ3 μ0 μ3 μ4))
    refine big.drop fun x hx=>?_
    simp only [D,List.mem_cons,List.not_mem_nil,or_false] at hx
    have l3:L≤s3.heap.objs.size:=Nat.le_of_lt z3
    have l6:L≤s6.heap.objs.size:=ιT l3 (Nat.le_of_lt (lt6 hI6))
    rw [hLe]
    rcases hx with rfl | rfl | rfl | rfl | rfl | rfl
    ·exact .inr (ιR _)
    ·exact .inr l3
    ·exact .inr l6
    ·exact .inl (μ0)
    ·exact .inl (μ1)
    ·exact .inl (μ2)
   ·refine T5.at fun q o hq e=>?_
    have lq:q<L:=by
     rw [←hLe]
     rcases hq with rfl | rfl
     ·obtain⟨o,vs,file,tf,flags,tg,inF,text,tt,op,a,_⟩:=T.code
      exact ιH a
     ·exact ιH hP
    have hq':q∉[L,c.tb,c.ct]:=fun hm=>by
     have:=ap3 q hm
     rcases hq with rfl | rfl
     ·have h9:(lkX w ext 229).isSome=true:=by kernel_rfl
      rw [this] at h9; cases h9
     ·rcases ιC hm with q | hm
      ·exact Nat.ne_of_lt l225 q
      ·rcases ιC hm with q | hm
       ·exact tb225 q.symm
       ·exact ct225 (by simpa using hm:(225:Nat)=c.ct).symm
    refine I10.keep q o (k69 q o (fun hq2=>Nat.lt_irrefl _ (Nat.lt_trans (hq2▸lq) z3)) (k56 _ _ e)) hq'
 ·rw [hlen]
  have:sizeLine=16777216:=by decide
  exact ω0d hp hN this
end
section
variable(w:World)(f:Fl)(ext:Addr→Option Obj)(n t L x dx tb pb ct co it:Nat)(kt:Nat→Nat)(p0 q0 r0 p1 q1 r1:Obj)(g0 d0 ci di k1 k2 k3 li kl1 kl2 km:Nat)(sg ms:Str)(dl:Nat)(s0 s1 s2 s3 s4:Value)
def er0:Res:=
 run (P2 w f ext n t 0) 20 [1,1,1,1] [] [] 0 0 .tree
  (ent w ext 265 [.ref x,.str ms km]) [] [] []
theorem er0_v:RvD (er0 w f ext n t x km ms) [0] (.again (.func (A0 w 265) (Af w 265 n))) 1 1 2 [some (n,oFr [de w "self" t (.ref x),de w "message" (t+1) (.str ms km)] 2)] []:=by kernel_rfl
noncomputable abbrev KJ:List Sp:=[IY [.str ms km,.ref li],AL [6,7,8] (.call (.ref 216) ⟨[.ref x],[]⟩) [(pb,p0),(ct,q0),(it,r0)] (Ba (.ref ci)) [p1,q1,r1] g0 d0]
def er1:Res:=
 run (P4 w f ext n t 5) 280 (ιx 175 0xb0bb0bbddd0b000b0b00b0000bccccc50000c0000050005cddd0b000b0b00b0000bccdddb0b000b0b00b0000bcc0cccccccc030000b0b200000000000000000006606640330003000036666202100000010000010000016) ((KJ x pb ct it p0 q0 r0 p1 q1 r1 g0 d0 ci li km ms).reverse.map Sp.x) [(x,oX dx),(dx,oDx w kt tb pb ct co it),(ci,oC di),(di,oDc w k1 k2 (.str sg k3) li),(li,oL dl s0 s1 s2 s3 s4),(L,oFr [de w "self" kl1 (.ref x),de w "message" kl2 (.str ms km)] 2),(pb,p0),(ct,q0),(it,r0)] 0 0 .tree
  (Az (A0 w 265) (Af w 265 L)) [] [] []
theorem er1_v:RvD (er1 w f ext n t L x dx tb pb ct co it kt p0 q0 r0 p1 q1 r1 g0 d0 ci di k1 k2 k3 li kl1 kl2 km sg ms dl s0 s1 s2 s3 s4) [10,12,5] (.done (.error (.ref (n+(0+(g0+0))+1)))) 1 (0+(g0+0)+2+1+1+1) (0+d0+1+1+1+0+1+1+1+1+1+1+1+1+1+1+1) [some (n+(0+(g0+0))+1,It (n+(0+(g0+0))) (n+(0+(g0+0)+2+1))),some (n+(0+(g0+0)+2+1),oEd w (t+(0+d0+8)) (t+(0+d0+10)) (t+(0+d0+13)) (.str ms km) (.ref li) (n+(0+(g0+0)+2+1+1))),some (L,oFr [de w "self" kl1 (.ref x),de w "message" kl2 (.str ms km),de w "char" (t+(0+d0)) (.ref ci),de w "loc" (t+(0+d0+2)) (.ref li)] 4)] (KJ x pb ct it p0 q0 r0 p1 q1 r1 g0 d0 ci li km ms):=by kernel_rfl
noncomputable abbrev KI:List Sp:=[IY [.str ms km,.none],AL [3,4,5] (.call (.ref 216) ⟨[.ref x],[]⟩) [(pb,p0),(ct,q0),(it,r0)] (Ba (.none)) [p1,q1,r1] g0 d0]
def er2:Res:=
 run (P4 w f ext n t 2) 235 (ιx 145 0x8088088aaa0800080800800008999999aaa080008080080000899aaa80800080800800008990999999990300008082000000000000000000033033333202100000010000010000013) ((KI x pb ct it p0 q0 r0 p1 q1 r1 g0 d0 km ms).reverse.map Sp.x) [(x,oX dx),(dx,oDx w kt tb pb ct co it),(L,oFr [de w "self" kl1 (.ref x),de w "message" kl2 (.str ms km)] 2),(pb,p0),(ct,q0),(it,r0)] 0 0 .tree
  (Az (A0 w 265) (Af w 265 L)) [] [] []
theorem er2_v:RvD (er2 w f ext n t L x dx tb pb ct co it kt p0 q0 r0 p1 q1 r1 g0 d0 kl1 kl2 km ms) [7,9,2] (.done (.error (.ref (n+(0+(g0+0))+1)))) 1 (0+(g0+0)+2+1+1+1) (0+d0+1+1+0+1+1+1+1+1+1+1+1+1+1+1) [some (n+(0+(g0+0))+1,It (n+(0+(g0+0))) (n+(0+(g0+0)+2+1))),some (n+(0+(g0+0)+2+1),oEd w (t+(0+d0+7)) (t+(0+d0+9)) (t+(0+d0+12)) (.str ms km) (.none) (n+(0+(g0+0)+2+1+1))),some (L,oFr [de w "self" kl1 (.ref x),de w "message" kl2 (.str ms km),de w "char" (t+(0+d0)) (.none),de w "loc" (t+(0+d0+1)) (.none)] 4)] (KI x pb ct it p0 q0 r0 p1 q1 r1 g0 d0 km ms):=by kernel_rfl
end
theorem DF{h h' base:Heap}:∀ {l:List Env},h.FunFrames base l→(∀ b∈l.filterMap (·.frame),∀ o,h.get? b=some o→∃ o',h'.get? b=some o'∧o'.data=o.data)→h'.FunFrames base l
 | [],_,_=>trivial
 | env::rest,hl,k=>by
  obtain⟨hk,⟨L,o,hf,hn,ho,hd⟩,hr⟩:=hl
  obtain⟨o',ho',hd'⟩:=k L (by rw [List.filterMap_cons,hf]; exact .head _) o ho
  exact⟨hk,⟨L,o',hf,hn,ho',fun vs=>hd'▸hd vs⟩,DF hr fun b hb=>k b (by rw [List.filterMap_cons,hf]; exact .tail _ hb)⟩
theorem Bl{D:List Addr}{s s':Shared}{base:Heap}{l:List Env}(hl:s.heap.FunFrames base l)(a:Aft D s s')(hD:∀ b∈l.filterMap (·.frame),b∉D):s'.heap.FunFrames base l:=
 DF hl fun b hb o e=>⟨o,a.keep b o e (hD b hb),rfl⟩
theorem CF{D:List Addr}{s s':Shared}{base:Heap}(hb:base.StaysIn s.heap)(a:Aft D s s')(hD:∀ x∈D,base.get? x=none):base.StaysIn s'.heap:=fun b o e=>a.keep b o (hb b o e) fun q=>by
 rw [hD b q] at e; cases e
structure AF(w:World)(base:Heap)(outer:List Env)(D:List Addr)(lv:Value)(st:Shared)(e:Addr)(st':Shared):Prop where
 same:st'={st with heap:=st'.heap,toks:=st'.toks,gens:=st'.gens}
 gens:By st.gens st'.gens
 size:st.heap.objs.size≤st'.heap.objs.size
 nf:NF D st.heap st'.heap
 enew:st.heap.objs.size≤e
 kx:KX (D++outer.filterMap (·.frame)) st.heap st'.heap
 fly:∃ d T a b k ms h sl,Fly base outer (.ref 156) e d T .none st'.heap∧st'.heap.get? d=some ⟨.type "dict",none,.dict #[de w "msg" a ms,de w "loc" b lv,de w "hints" k (.ref h)] 3,sl⟩∧st.heap.objs.size≤T
theorem CV{h:Heap}{a:Nat}{o:Obj}(e:h.get? a=some o)(ha:h.objs.size≤a):False:=Nat.lt_irrefl _ (ιL (ιH e) ha)
theorem CM{env:Env}{outer:List Env}{L b:Addr}(hf:env.frame=some L)(h:b∈(env::outer).filterMap (·.frame)):b=L∨b∈outer.filterMap (·.frame):=by
 rw [List.filterMap_cons,hf] at h
 exact ιC h
theorem AF.from{w base outer D D' lv st0 st e st'}(a:Aft D st0 st)(X:AF w base outer D' lv st e st')(h:∀ x∈D',x∈D∨st0.heap.objs.size≤x):AF w base outer D lv st0 e st' where
 same:=smT a.same X.same
 gens:=a.gens.trans X.gens
 size:=ιT a.size X.size
 nf:=fun b o e hb hd=>X.nf b o (a.keep b o e hb) (fun q=>by
  rcases h b q with q | q
  ·exact hb q
  ·exact CV e q) hd
 enew:=ιT a.size X.enew
 kx:=fun b o e hb=>X.kx b o (a.keep b o e fun q=>hb (List.mem_append_left _ q)) fun q=>by
  rcases ιM q with q | q
  ·rcases h b q with q | q
   ·exact hb (List.mem_append_left _ q)
   ·exact CV e q
  ·exact hb (List.mem_append_right _ q)
 fly:=by
  obtain⟨d,T,aa,b,k,ms,h,sl,x1,x2,x3⟩:=X.fly
  exact⟨d,T,aa,b,k,ms,h,sl,x1,x2,ιT a.size x3⟩
theorem AF.leave{w base outer D lv st e st'}{M:Model}{A:Around}{env:Env}{L:Addr}{Q:Unit→Shared→Prop}(hfr:A.frames=some (env::outer))(hf:env.frame=some L)
  (X:AF w base (env::outer) D lv st e st') (hLn:L∈D∨st.heap.objs.size≤L) (h:∀ st'',AF w base outer D lv st e st''→Q () st''):wpAny M A (leaving env (.ref e)) Q E st':=by
 obtain⟨x1,x2,x3,x4,en,kx,d,T,a,b,k,ms,hh,sl,F,hd,hT⟩:=X
 have kx':∀ b o,st.heap.get? b=some o→b∉D++outer.filterMap (·.frame)→b∉(env::outer).filterMap (·.frame):=fun b o e hb q=>by
  rcases CM hf q with q | q
  ·subst q
   rcases hLn with q | q
   ·exact hb (List.mem_append_left _ q)
   ·exact CV e q
  ·exact hb (List.mem_append_right _ q)
 refine leave_next hfr hf F fun h' T' F' N z zT K=>h _ ⟨?_,x2,ιT x3 z,x4.trans (N.mono fun _ q=>nomatch q),en,fun b o e hb=>K b o (kx b o e fun q=>?_) fun q=>?_,d,T',a,b,k,ms,hh,?_⟩
 ·generalize st'.heap=h1 at x1
  generalize st'.toks=t1 at x1
  generalize st'.gens=g1 at x1
  subst x1; rfl
 ·rcases ιM q with q | q
  ·exact hb (List.mem_append_left _ q)
  ·exact kx' b o e hb q
 ·rcases ιC q with q | q
  ·rw [q] at e; exact CV e en
  rcases ιC q with q | q
  ·rw [q] at e; exact CV e hT
  ·exact kx' b o e hb q
 ·obtain⟨sl',e'⟩:=N d _ hd (fun q=>nomatch q) (fun vs q=>nomatch q)
  exact⟨sl',F'.tail,e',ιT x3 zT⟩
section
variable{w:World}{ext:Addr→Option Obj}
theorem Dq(W:Ae w){f:Nat}{args:Args}{A:Around}{st:Shared}{d:Nat}(hA:Ar A d)(hd:60≤d)(S:Ak w ext st)(hf:HI f=true){fuel:Nat}{hs:List Nat}{U V:Nat}{body env dep envs hdd k fr}{R0:Res}
  (hR:run (P2 w (Ax w) ext st.heap.objs.size st.toks 0) fuel hs [] [] 0 0 .tree (BB (B5 (lkX w ext f)) f args) [] [] []=R0)
  (hv:R0.rv U V [0]=⟨R0.exp,.again (.func body env),1,dep,envs,hdd,1,k,[some (st.heap.objs.size,fr)],([]:List Sp).map Sp.view,true⟩)
  (h:∀ s1,s1={st with heap:=s1.heap,toks:=st.toks+k}→Aft [] st s1→s1.heap.objs.size=st.heap.objs.size+1→s1.heap.get? st.heap.objs.size=some fr→Ak w ext s1→
   wpAny (model pr2 w) (A.deeper env) (execs body env) (fun f s'=>R (.ok (.ret (match f with | .ret v=>v | _=>.none))) s') (fun e s'=>wpAny (model pr2 w) (A.deeper env) (leaving env e) (fun _ s''=>R (.error e) s'') (fun e' s''=>R (.error e') s'') s') s1) :
  codeAny (model pr2 w) A (.call (.ref f) args) R st:=by
 refine Bv S (BA w ext f hf) (by have:=hA.depth; exact ωt this) ?_
 refine AR (BC (t:=st.toks) (ro:=0) W S hA hd) hR hv (vs:=[]) Aa
  (Inv.MH S (reads:=[]) (pre:=[]) Aa ιN Aa ιN Aa) fun s1 I1 H1=>?_
 have S1:Ak w ext s1:=I1.stat
 refine ιp ⟨W.nolimit _ fun a o e=>S1 a o (by show(match lk w a with | some o=>some o | none=>ext a)=_; rw [e]),rfl,codeAny_func (h s1 ?_ I1.aft I1.size (H1 _ μ0) S1)⟩
 have h1:=I1.same
 have h2:s1.toks=st.toks+k:=I1.toks
 generalize s1.heap=hh at h1
 rw [h2] at h1
 subst h1; rfl
theorem exc_cls(w:World)(ext:Addr→Option Obj):lkX w ext 156=some (excClassObj ⟨#[67,111,109,112,105,108,101,114,69,114,114,111,114]⟩ ⟨#[67,111,109,112,105,108,101,114,69,114,114,111,114]⟩ 156 155 [.type "Exception"] [.type "Exception",.type "BaseException",.type "object"]
  true [] [] false none none (some (.ref 132)) none (some (.str ⟨#[67,111,109,112,105,108,101,114,69,114,114,111,114]⟩ 361)) (some (.str ⟨#[67,111,109,112,105,108,101,114,69,114,114,111,114]⟩ 369)) (some (.bool true)) "Exception.__new__"):=by kernel_rfl
theorem Kp{P:Par}{g:Bq}{U V:Nat}{rest:List Value}(hP:∀ b,P.n≤b→P.look b=none)(hz:rest.length≤sizeLine)(hL:P.look=lkX w ext:=by rfl):AK P g U V (IY rest):=by
 refine Bu (us:=[]) (ps:=[]) rfl hP fun A s R _ _ _ h4 _ _ hR=>?_
 have h156:=h4 156 _ (by rw [hL]; exact exc_cls w ext)
 obtain⟨h,gs,d,t,os⟩:=s
 refine codeAny_exc_new_subU F.excBase_Exception (by decide +kernel) F.excBase_Exception .base h156 (hR _ ?_) hz
 obtain⟨k1,k2,k3⟩:=BP (s:=h) (l:=[AQ rest,Lm h.objs.size]) (ζ2 rfl rfl)
 exact⟨rfl,rfl,by show _=_+(0+_); rw [Nat.zero_add]; exact k1,fun b o e _=>k2 b o e,(fun p hp=>nomatch hp),k3⟩
end
theorem leave_raised{w:World}{M:Model}{A:Around}{env:Env}{outer:List Env}{L tup d e a b k hl:Nat}{ms lv:Value}{D D':List Addr}{base:Heap}{st s':Shared}{oL:Obj}{Q:Unit→Shared→Prop}
  (hfr:A.frames=some (env::outer)) (hf:env.frame=some L) (hk:env.scope.kind≠.module) (af:Aft D st s') (hDD:∀ x∈D,x∈D'∨st.heap.objs.size≤x) (hst:base.StaysIn st.heap) (hbD:∀ x∈D,base.get? x=none)
  (hL:base.get? L=none) (hLo:s'.heap.get? L=some oL) (hLd:∀ vs,oL.data≠.fields vs) (hff:st.heap.FunFrames base outer) (hfo:∀ b∈outer.filterMap (·.frame),b∉D)
  (he:s'.heap.get? e=some (It tup d)) (hen:base.get? e=none) (hd:s'.heap.get? d=some (oEd w a b k ms lv hl)) (hee:st.heap.objs.size≤e) (hLn:st.heap.objs.size≤L) (hR:∀ s'',AF w base outer D' lv st e s''→Q () s''):wpAny M A (leaving env (.ref e)) Q E s':=by
 refine leave_first (d:=d) hfr ⟨hk,⟨L,oL,hf,hL,hLo,hLd⟩,Bl hff af hfo⟩ hf he (CF hst af hbD) hen rfl rfl rfl fun h' T F N z zT K=>hR {s' with heap:=h'} ⟨?_,af.gens,ιT af.size z,?_,hee,fun b o e' hb=>K b o (af.keep b o e' fun q=>?_) fun q=>?_,d,T,a,b,k,ms,hl,?_⟩
 ·have h1:=af.same
  generalize s'.heap=q1 at h1
  generalize s'.toks=q2 at h1
  generalize s'.gens=q3 at h1
  subst h1; rfl
 ·refine NF.trans (fun x o e hx hd=>⟨o.slots,af.keep x o e fun q=>?_⟩) (N.mono fun _ q=>nomatch q)
  rcases hDD x q with q | q
  ·exact hx q
  ·exact Nat.lt_irrefl _ (ιL (ιH e) q)
 ·rcases hDD b q with q | q
  ·exact hb (List.mem_append_left _ q)
  ·exact CV e' q
 ·rcases ιC q with q | q
  ·rw [q] at e'; exact CV e' hee
  ·rcases CM hf q with q | q
   ·rw [q] at e'; exact CV e' hLn
   ·exact hb (List.mem_append_right _ q)
 ·obtain⟨sl,e'⟩:=N d _ hd (fun q=>nomatch q) (fun vs q=>nomatch q)
  exact⟨sl,F.tail,e',ιT af.size zT⟩
section
variable{w:World}{ext:Addr→Option Obj}{c:Cfg}
noncomputable def LS.locv(c:Cfg)(s:LS):Value:=if s.p<c.N then .ref (c.li s.p) else .none
theorem E3{base h:Heap}(hb:base.StaysIn h){a:Nat}(ha:h.objs.size≤a):base.get? a=none:=by
 cases q:base.get? a with
 | none=>rfl
 | some o=>exact absurd (ιL (ιH (hb a o q)) ha) (Nat.lt_irrefl _)
structure Rs(c:Cfg)(base:Heap)(outer:List Env)(A:Around)(st:Shared):Prop where
 frames:A.frames=some outer
 stays:base.StaysIn st.heap
 hide:∀ a∈[c.pb,c.ct,c.it],base.get? a=none
 ff:st.heap.FunFrames base outer
 fo:∀ b∈outer.filterMap (·.frame),b∉[c.pb,c.ct,c.it]
theorem Ca{s:LS}{st:Shared}(h:∀ p∈s.ents c,st.heap.get? p.1=some p.2):∀ a∈[c.pb,c.ct,c.it],a<st.heap.objs.size:=fun a ha=>by
 rcases ιC ha with rfl | ha
 ·exact ιH (h (_,_) μ0)
 ·rcases ιC ha with rfl | ha
  ·exact ιH (h (_,_) μ1)
  ·obtain rfl:a=c.it:=by simpa using ha
   exact ιH (h (_,_) μ2)
theorem Gt(W:Ae w)(O:c.Ok w ext)(s:LS)(F:s.WF c)(ms:Str)(km:Nat){A:Around}{st:Shared}{base:Heap}{outer:List Env}(hA:Ar A 200)(S:Ak w ext st)(own:∀ p∈s.ents c,st.heap.get? p.1=some p.2)
  (X:Rs c base outer A st) (hR:∀ e st',AF w base outer [c.pb,c.ct,c.it] (s.locv c) st e st'→R (.error (.ref e)) st'):codeAny (model pr2 w) A (.call (.ref 265) ⟨[.ref c.x,.str ms km],[]⟩) R st:=by
 refine Dq W hA (by decide) S (by rfl) rfl (er0_v _ _ _ _ _ c.x km ms) fun s1 e1 A1 z1 hL S1=>?_
 generalize hLe:st.heap.objs.size=L at hL z1
 have hroom:Ar (A.deeper (Af w 265 L)) 190:=⟨hA.handled,by show A.depth+1+190<_; have:=hA.depth; exact ω04 this,by show A.units+3+_<_; have:=hA.units; exact ω05 this⟩
 have hfr:(A.deeper (Af w 265 L)).frames=some (Af w 265 L::outer):=Around.frames_deeper X.frames
 generalize hAd:A.deeper (Af w 265 L)=Ad at hroom hfr ⊢
 have ek:(Af w 265 L).scope.kind=.function:=by kernel_rfl
 have ltL:∀ {a:Addr} {o:Obj},st.heap.get? a=some o→a≠L:=fun e q=>by
  have:=ιH e
  rw [hLe,q] at this
  exact Nat.lt_irrefl _ this
 have apL:lkX w ext L=none:=by
  cases e:lkX w ext L with
  | none=>rfl
  | some o=>exact absurd rfl (ltL (S L o e))
 have own1:∀ p∈s.ents c,s1.heap.get? p.1=some p.2:=fun p hp=>A1.keep _ _ (own p hp) (fun h=>nomatch h)
 obtain⟨g0,d0,NC⟩:=Hi W O s F
 have hroom':=hroom
 have hu:max Ad.units Ad.units+10*30+10*60<cLine:=by have:=hroom.units; exact ω0e this
 have hdp:max Ad.depth Ad.depth+30+60<recursionLimit:=by have:=hroom.depth; exact ω0f this
 have nd4:(L::[c.pb,c.ct,c.it]).Nodup:=List.nodup_cons.mpr ⟨fun hm=>by
   have:=Ca own L hm
   rw [hLe] at this; exact Nat.lt_irrefl _ this,AY O s⟩
 have sz2:([Value.str ms km,.none]:List Value).length≤sizeLine:=by show 2≤sizeLine; decide
 refine DO ?_
 rw [←DV]
 have fin:∀ (tup a b k hl e d:Nat) (es:List DictEntry) (ek:Nat) (s':Shared),Aft [L,c.pb,c.ct,c.it] s1 s'→s'.heap.get? L=some (oFr es ek)→s'.heap.get? e=some (It tup d)→L≤e→s'.heap.get? d=some (oEd w a b k (.str ms km) (s.locv c) hl)→
   wpAny (model pr2 w) Ad (.raise (.ref e):Sem PySem.Fin) (Jw fun f s'=>R (.ok (.ret (match f with | .ret v=>v | _=>.none))) s') (fun e s'=>wpAny (model pr2 w) Ad (leaving (Af w 265 L) e) (fun _ s''=>R (.error e) s'') (fun e' s''=>R (.error e') s'') s') s':=by
  intro tup a b k hl e d es ek' s' af hLo he hLe' hd
  refine wpAny_throw ?_
  refine leave_raised (D:=[L,c.pb,c.ct,c.it]) (D':=[c.pb,c.ct,c.it]) (L:=L) hfr rfl (by rw [ek]; decide) ((A1.mono fun _ q=>nomatch q).trans af) (fun x hx=>?_) X.stays (fun x hx=>?_) (E3 X.stays (by rw [hLe]; exact ιR _)) hLo ιF X.ff (fun q hq hm=>?_) he (E3 X.stays (by rw [hLe]; exact hLe')) hd (by rw [hLe]; exact hLe') (by rw [hLe]; exact ιR _) fun s'' hX=>hR e s'' hX
  ·rcases ιC hx with rfl | hx
   ·exact .inr (by rw [hLe]; exact ιR _)
   ·exact .inl hx
  ·rcases ιC hx with rfl | hx
   ·exact E3 X.stays (by rw [hLe]; exact ιR _)
   ·exact X.hide x hx
  ·rcases ιC hm with rfl | hm
   ·obtain⟨_,o,ho,_⟩:=X.ff.mem hq
    exact ltL ho rfl
   ·exact X.fo q hq hm
 by_cases hp:s.p<c.N
 ·have hrd:∀ q∈([(c.x,oX c.dx),(c.dx,oDx w c.kt c.tb c.pb c.ct c.co c.it),(c.ci s.p,oC (c.di s.p)),(c.di s.p,oDc w (c.k1 s.p) (c.k2 s.p) (.str (c.sg s.p) (c.k3 s.p)) (c.li s.p)),(c.li s.p,oL (c.dl s.p) (c.ls s.p 0) (c.ls s.p 1) (c.ls s.p 2) (c.ls s.p 3) (c.ls s.p 4))]:Led),lkX w ext q.1=some q.2:=
   Ab O.hx (ζ4 O.hdx (O.hci _ hp) (O.hdi _ hp) (O.hli _ hp))
  simp only [LS.chr,if_pos hp] at NC
  have elv:s.locv c=.ref (c.li s.p):=by simp only [LS.locv,if_pos hp]
  rw [elv] at fin
  refine Al (g:=Ac pr2 w Ad _ _) (Ao (t:=s1.toks) (ro:=5) W S1 hroom (by decide)) rfl
   (er1_v _ _ _ _ _ L c.x c.dx c.tb c.pb c.ct c.co c.it c.kt _ _ _ _ _ _ g0 d0 (c.ci s.p) (c.di s.p) (c.k1 s.p) (c.k2 s.p) (c.k3 s.p) (c.li s.p) st.toks (st.toks+1) km (c.sg s.p) ms (c.dl s.p) (c.ls s.p 0) (c.ls s.p 1) (c.ls s.p 2) (c.ls s.p 3) (c.ls s.p 4))
   (vs:=_) (ζ2 (Kp (w:=w) (ext:=ext) S1.new sz2) (NC.obl (is:=[6,7,8]) rfl S1.new rfl rfl rfl hdp hu))
   (Inv.MH S1 (pre:=(L,oFr [de w "self" st.toks (.ref c.x),de w "message" (st.toks+1) (.str ms km)] 2)::s.ents c) hrd (Aj hrd rfl) (Ab hL own1) nd4 (Ab apL (AO O s)))
   fun s' I' H=>fin _ _ _ _ _ _ _ _ _ s' I'.aft (H _ μ2) (H _ μ0) (by show L≤s1.heap.objs.size+(0+(g0+0))+1; exact ω0g z1) (H _ μ1)
 ·have hrd:∀ q∈([(c.x,oX c.dx),(c.dx,oDx w c.kt c.tb c.pb c.ct c.co c.it)]:Led),lkX w ext q.1=some q.2:=Ab O.hx (Ab O.hdx Aa)
  simp only [LS.chr,if_neg hp] at NC
  have elv:s.locv c=.none:=by simp only [LS.locv,if_neg hp]
  rw [elv] at fin
  refine Al (g:=Ac pr2 w Ad _ _) (Ao (t:=s1.toks) (ro:=2) W S1 hroom (by decide)) rfl
   (er2_v _ _ _ _ _ L c.x c.dx c.tb c.pb c.ct c.co c.it c.kt _ _ _ _ _ _ g0 d0 st.toks (st.toks+1) km ms)
   (vs:=_) (ζ2 (Kp (w:=w) (ext:=ext) S1.new sz2) (NC.obl (is:=[3,4,5]) rfl S1.new rfl rfl rfl hdp hu))
   (Inv.MH S1 (pre:=(L,oFr [de w "self" st.toks (.ref c.x),de w "message" (st.toks+1) (.str ms km)] 2)::s.ents c) hrd (Aj hrd rfl) (Ab hL own1) nd4 (Ab apL (AO O s)))
   fun s' I' H=>fin _ _ _ _ _ _ _ _ _ s' I'.aft (H _ μ2) (H _ μ0) (by show L≤s1.heap.objs.size+(0+(g0+0))+1; exact ω0g z1) (H _ μ1)
end
section
variable(w:World)(f:Fl)(ext:Addr→Option Obj)(n t x:Nat)
def es0:Res:=
 run (P2 w f ext n t 0) 16 [1,1] [] [] 0 0 .tree
  (ent w ext 387 [.ref x]) [] [] []
theorem es0_v:RvD (es0 w f ext n t x) [0] (.again (.func (A0 w 387) (Af w 387 n))) 1 1 1 [some (n,oFr [de w "self" t (.ref x)] 1)] []:=by kernel_rfl
end
section
variable(w:World)(f:Fl)(ext:Addr→Option Obj)(n t L kl x dx tb pb ct co it:Nat)(kt:Nat→Nat)(p0 q0 r0 p1 q1 r1 p2 q2 r2 p3 q3 r3 p4 q4 r4 p5 q5 r5:Obj)(g0 d0 g1 d1 g2 d2 g3 d3 g4 d4:Nat)
noncomputable abbrev KH:List Sp:=[AL [3,4,5] (.call (.ref 244) ⟨[.ref x,.str ⟨⟨[85]⟩⟩ (t+(1+d0+1+d1+1+d2+1+d3))],[]⟩) [(pb,p4),(ct,q4),(it,r4)] (Ba (.bool false)) [p5,q5,r5] g4 d4,AL [3,4,5] (.call (.ref 244) ⟨[.ref x,.str ⟨⟨[117]⟩⟩ (t+(1+d0+1+d1+1+d2))],[]⟩) [(pb,p3),(ct,q3),(it,r3)] (Ba (.bool false)) [p4,q4,r4] g3 d3,AL [3,4,5] (.call (.ref 244) ⟨[.ref x,.str ⟨⟨[120]⟩⟩ (t+(1+d0+1+d1))],[]⟩) [(pb,p2),(ct,q2),(it,r2)] (Ba (.bool false)) [p3,q3,r3] g2 d2,AL [3,4,5] (.call (.ref 244) ⟨[.ref x,.str ιf 583],[]⟩) [(pb,p1),(ct,q1),(it,r1)] (Ba (.bool false)) [p2,q2,r2] g1 d1,AL [3,4,5] (.call (.ref 244) ⟨[.ref x,.str ιb (t+0)],[]⟩) [(pb,p0),(ct,q0),(it,r0)] (Ba (.bool false)) [p1,q1,r1] g0 d0]
def es1:Res:=
 run (P4 w f ext n t 2) 220 (ιx 160 0x1021000000100000100000132021000000100000100000132021000000100000100000132021000000100000100000132020110001000000132100000010000010000013202100000010000010000013) ((KH t x pb ct it p0 q0 r0 p1 q1 r1 p2 q2 r2 p3 q3 r3 p4 q4 r4 p5 q5 r5 g0 d0 g1 d1 g2 d2 g3 d3 g4 d4).reverse.map Sp.x) [(x,oX dx),(dx,oDx w kt tb pb ct co it),(L,oFr [de w "self" kl (.ref x)] 1),(pb,p0),(ct,q0),(it,r0)] 0 0 .tree
  (Az (A0 w 387) (Af w 387 L)) [] [] []
theorem es1_v:RvC (es1 w f ext n t L kl x dx tb pb ct co it kt p0 q0 r0 p1 q1 r1 p2 q2 r2 p3 q3 r3 p4 q4 r4 p5 q5 r5 g0 d0 g1 d1 g2 d2 g3 d3 g4 d4) [2,3,4,5] (.call (.call (.ref 265) ⟨[.ref x,.str ⟨⟨[85,110,101,120,112,101,99,116,101,100,32,101,115,99,97,112,101,32,99,104,97,114,97,99,116,101,114]⟩⟩ (t+(1+d0+1+d1+1+d2+1+d3+1+d4))],[]⟩)) 1 (0+(g0+0)+(g1+0)+(g2+0)+(g3+0)+(g4+0)) (1+d0+1+d1+1+d2+1+d3+1+d4+1) [some (L,oFr [de w "self" kl (.ref x)] 1),some (pb,p5),some (ct,q5),some (it,r5)] (KH t x pb ct it p0 q0 r0 p1 q1 r1 p2 q2 r2 p3 q3 r3 p4 q4 r4 p5 q5 r5 g0 d0 g1 d1 g2 d2 g3 d3 g4 d4):=by kernel_rfl
variable(e:Nat)
theorem es1_k:(es1 w f ext n t L kl x dx tb pb ct co it kt p0 q0 r0 p1 q1 r1 p2 q2 r2 p3 q3 r3 p4 q4 r4 p5 q5 r5 g0 d0 g1 d1 g2 d2 g3 d3 g4 d4).kk (.error (.ref e))=.raise (.ref e):=by kernel_rfl
end
noncomputable abbrev Bh:Str:=ιb
noncomputable abbrev BE:Str:=ιf
noncomputable abbrev AJ:Str:=ιa
noncomputable abbrev tx:Str:=⟨⟨[120]⟩⟩
noncomputable abbrev tu:Str:=⟨⟨[117]⟩⟩
noncomputable abbrev tU:Str:=⟨⟨[85]⟩⟩
noncomputable def LS.o1(c:Cfg)(s:LS):Obj:=lst (Iz c s.hold s.p) s.e1
noncomputable def LS.o2(c:Cfg)(s:LS):Obj:=lst (c.seg s.b s.p) s.e2
noncomputable def LS.o3(c:Cfg)(s:LS):Obj:=JJ c s.exh s.hold s.p
noncomputable def LS.accs(c:Cfg)(vs:Str):Nat→LS→LS
 | 0,s=>s
 | n+1,s=>(s.acc c vs).accs c vs n
theorem LS.MI{c:Cfg}{vs:Str}:∀ {n:Nat} {s:LS},s.WF c→(s.accs c vs n).WF c
 | 0,_,h=>h
 | n+1,s,h=>LS.MI (n:=n) (s:=s.acc c vs) (LS.MG h)
noncomputable abbrev LS.m1(c:Cfg)(s:LS):LS:=s.acc c Bh
noncomputable abbrev LS.m2(c:Cfg)(s:LS):LS:=(s.m1 c).acc c BE
noncomputable abbrev LS.m3(c:Cfg)(s:LS):LS:=(s.m2 c).acc c tx
noncomputable abbrev LS.m4(c:Cfg)(s:LS):LS:=(s.m3 c).acc c tu
noncomputable abbrev LS.m5(c:Cfg)(s:LS):LS:=(s.m4 c).acc c tU
noncomputable def LS.esc(c:Cfg)(s:LS):Option LS:=
 if s.hit c Bh then some (s.m1 c)
 else if (s.m1 c).hit c BE then some ((s.m2 c).accs c BE 2)
 else if (s.m2 c).hit c tx then some ((s.m3 c).accs c AJ 2)
 else if (s.m3 c).hit c tu then some ((s.m4 c).accs c AJ 4)
 else if (s.m4 c).hit c tU then some ((s.m5 c).accs c AJ 4)
 else none
theorem LS.MJ{c:Cfg}{s s':LS}(h:s.WF c)(e:s.esc c=some s'):s'.WF c:=by
 unfold LS.esc at e
 have h1:=LS.MG (vs:=Bh) h
 have h2:=LS.MG (vs:=BE) h1
 have h3:=LS.MG (vs:=tx) h2
 have h4:=LS.MG (vs:=tu) h3
 have h5:=LS.MG (vs:=tU) h4
 repeat' split at e
 all_goals first | (cases e; first | assumption | (apply LS.MI; assumption)) | (cases e)
theorem LS.MK{c:Cfg}{vs:Str}{s:LS}(F:s.WF c)(h:s.hit c vs=false):(s.acc c vs).p=s.p:=by
 unfold LS.hit at h
 unfold LS.acc LS.next LS.back
 by_cases hp:s.p<c.N
 ·rw [decide_eq_true hp,Bool.true_and] at h
  simp [hp,h]
 ·simp [hp]
section
variable{w:World}{ext:Addr→Option Obj}{c:Cfg}
noncomputable abbrev Cfg.ro2(c:Cfg)(w:World):Led:=[(c.x,oX c.dx),(c.dx,oDx w c.kt c.tb c.pb c.ct c.co c.it)]
theorem Bi(O:c.Ok w ext):∀ p∈c.ro2 w,lkX w ext p.1=some p.2:=Ab O.hx (Ab O.hdx Aa)
theorem esc_ok(W:Ae w)(O:c.Ok w ext)(s s':LS)(F:s.WF c)(e:s.esc c=some s'):∃ gr dk,Con w ext 160 (.call (.ref 387) ⟨[.ref c.x],[]⟩) (s.ents c) (Ba .none) (s'.objs c) gr dk:=by
 have F1:=LS.MG (vs:=Bh) F
 have F2:=LS.MG (vs:=BE) F1
 have F3:=LS.MG (vs:=tx) F2
 have F4:=LS.MG (vs:=tu) F3
 have F5:=LS.MG (vs:=tU) F4
 unfold LS.esc at e
 by_cases h0:(s).hit c Bh=true
 ·rw [if_pos h0] at e
  cases e
  obtain⟨g0,d0,C0⟩:=AB W O Bh (s) F
  rw [show(s).hit c Bh=true from h0] at C0
  exact⟨_,_,Con.MF W (by rfl) (by decide) (AY O _) (AO O _) (c.ro2 w) (Bi O) (Aj (Bi O) rfl) fun A st R hA S Par I h=>by
   have hu:max A.in1.units A.units+10*30+10*60<cLine:=by have:=hA.units; show max (A.units+1) A.units+_+_<_; exact ω0h this
   have hdp:max A.in1.depth A.depth+30+60<recursionLimit:=by have:=hA.depth; show max A.depth A.depth+_+_<_; exact ω0f this
   exact Aw Par rfl (he1_v _ _ _ _ _ c.x c.dx c.tb c.pb c.ct c.co c.it c.kt ((s).o1 c) ((s).o2 c) ((s).o3 c) ((s.m1 c).o1 c) ((s.m1 c).o2 c) ((s.m1 c).o3 c) g0 d0) (Ab ((C0 _).obl (is:=[2,3,4]) rfl S.new rfl rfl rfl hdp hu) (Aa)) I fun s' I' H=>h s' _ I' H⟩
 rw [if_neg h0] at e
 by_cases h1:(s.m1 c).hit c BE=true
 ·rw [if_pos h1] at e
  cases e
  obtain⟨g0,d0,C0⟩:=AB W O Bh (s) F
  rw [show(s).hit c Bh=false from Bool.eq_false_iff.mpr h0] at C0
  obtain⟨g1,d1,C1⟩:=AB W O BE (s.m1 c) F1
  rw [show(s.m1 c).hit c BE=true from h1] at C1
  obtain⟨g2,d2,C2⟩:=AB W O BE (s.m2 c) F2
  obtain⟨g3,d3,C3⟩:=AB W O BE ((s.m2 c).accs c BE 1) (LS.MI (n:=1) F2)
  exact⟨_,_,Con.MF W (by rfl) (by decide) (AY O _) (AO O _) (c.ro2 w) (Bi O) (Aj (Bi O) rfl) fun A st R hA S Par I h=>by
   have hu:max A.in1.units A.units+10*30+10*60<cLine:=by have:=hA.units; show max (A.units+1) A.units+_+_<_; exact ω0h this
   have hdp:max A.in1.depth A.depth+30+60<recursionLimit:=by have:=hA.depth; show max A.depth A.depth+_+_<_; exact ω0f this
   exact Aw Par rfl (he2_v _ _ _ _ _ c.x c.dx c.tb c.pb c.ct c.co c.it c.kt ((s).o1 c) ((s).o2 c) ((s).o3 c) ((s.m1 c).o1 c) ((s.m1 c).o2 c) ((s.m1 c).o3 c) ((s.m2 c).o1 c) ((s.m2 c).o2 c) ((s.m2 c).o3 c) (((s.m2 c).accs c BE 1).o1 c) (((s.m2 c).accs c BE 1).o2 c) (((s.m2 c).accs c BE 1).o3 c) (((s.m2 c).accs c BE 2).o1 c) (((s.m2 c).accs c BE 2).o2 c) (((s.m2 c).accs c BE 2).o3 c) g0 d0 g1 d1 g2 d2 g3 d3 ((s.m2 c).hit c BE) (((s.m2 c).accs c BE 1).hit c BE)) (Ab ((C3 _).obl (is:=[2,3,4]) rfl S.new rfl rfl rfl hdp hu) (Ab ((C2 _).obl (is:=[2,3,4]) rfl S.new rfl rfl rfl hdp hu) (Ab ((C1 _).obl (is:=[2,3,4]) rfl S.new rfl rfl rfl hdp hu) (Ab ((C0 _).obl (is:=[2,3,4]) rfl S.new rfl rfl rfl hdp hu) (Aa))))) I fun s' I' H=>h s' _ I' H⟩
 rw [if_neg h1] at e
 by_cases h2:(s.m2 c).hit c tx=true
 ·rw [if_pos h2] at e
  cases e
  obtain⟨g0,d0,C0⟩:=AB W O Bh (s) F
  rw [show(s).hit c Bh=false from Bool.eq_false_iff.mpr h0] at C0
  obtain⟨g1,d1,C1⟩:=AB W O BE (s.m1 c) F1
  rw [show(s.m1 c).hit c BE=false from Bool.eq_false_iff.mpr h1] at C1
  obtain⟨g2,d2,C2⟩:=AB W O tx (s.m2 c) F2
  rw [show(s.m2 c).hit c tx=true from h2] at C2
  obtain⟨g3,d3,C3⟩:=AB W O AJ (s.m3 c) F3
  obtain⟨g4,d4,C4⟩:=AB W O AJ ((s.m3 c).accs c AJ 1) (LS.MI (n:=1) F3)
  exact⟨_,_,Con.MF W (by rfl) (by decide) (AY O _) (AO O _) (c.ro2 w) (Bi O) (Aj (Bi O) rfl) fun A st R hA S Par I h=>by
   have hu:max A.in1.units A.units+10*30+10*60<cLine:=by have:=hA.units; show max (A.units+1) A.units+_+_<_; exact ω0h this
   have hdp:max A.in1.depth A.depth+30+60<recursionLimit:=by have:=hA.depth; show max A.depth A.depth+_+_<_; exact ω0f this
   exact Aw Par rfl (he3_v _ _ _ _ _ c.x c.dx c.tb c.pb c.ct c.co c.it c.kt ((s).o1 c) ((s).o2 c) ((s).o3 c) ((s.m1 c).o1 c) ((s.m1 c).o2 c) ((s.m1 c).o3 c) ((s.m2 c).o1 c) ((s.m2 c).o2 c) ((s.m2 c).o3 c) ((s.m3 c).o1 c) ((s.m3 c).o2 c) ((s.m3 c).o3 c) (((s.m3 c).accs c AJ 1).o1 c) (((s.m3 c).accs c AJ 1).o2 c) (((s.m3 c).accs c AJ 1).o3 c) (((s.m3 c).accs c AJ 2).o1 c) (((s.m3 c).accs c AJ 2).o2 c) (((s.m3 c).accs c AJ 2).o3 c) g0 d0 g1 d1 g2 d2 g3 d3 g4 d4 ((s.m3 c).hit c AJ) (((s.m3 c).accs c AJ 1).hit c AJ)) (Ab ((C4 _).obl (is:=[2,3,4]) rfl S.new rfl rfl rfl hdp hu) (Ab ((C3 _).obl (is:=[2,3,4]) rfl S.new rfl rfl rfl hdp hu) (Ab ((C2 _).obl (is:=[2,3,4]) rfl S.new rfl rfl rfl hdp hu) (Ab ((C1 _).obl (is:=[2,3,4]) rfl S.new rfl rfl rfl hdp hu) (Ab ((C0 _).obl (is:=[2,3,4]) rfl S.new rfl rfl rfl hdp hu) (Aa)))))) I fun s' I' H=>h s' _ I' H⟩
 rw [if_neg h2] at e
 by_cases h3:(s.m3 c).hit c tu=true
 ·rw [if_pos h3] at e
  cases e
  obtain⟨g0,d0,C0⟩:=AB W O Bh (s) F
  rw [show(s).hit c Bh=false from Bool.eq_false_iff.mpr h0] at C0
  obtain⟨g1,d1,C1⟩:=AB W O BE (s.m1 c) F1
  rw [show(s.m1 c).hit c BE=false from Bool.eq_false_iff.mpr h1] at C1
  obtain⟨g2,d2,C2⟩:=AB W O tx (s.m2 c) F2
  rw [show(s.m2 c).hit c tx=false from Bool.eq_false_iff.mpr h2] at C2
  obtain⟨g3,d3,C3⟩:=AB W O tu (s.m3 c) F3
  rw [show(s.m3 c).hit c tu=true from h3] at C3
  obtain⟨g4,d4,C4⟩:=AB W O AJ (s.m4 c) F4
  obtain⟨g5,d5,C5⟩:=AB W O AJ ((s.m4 c).accs c AJ 1) (LS.MI (n:=1) F4)
  obtain⟨g6,d6,C6⟩:=AB W O AJ ((s.m4 c).accs c AJ 2) (LS.MI (n:=2) F4)
  obtain⟨g7,d7,C7⟩:=AB W O AJ ((s.m4 c).accs c AJ 3) (LS.MI (n:=3) F4)
  exact⟨_,_,Con.MF W (by rfl) (by decide) (AY O _) (AO O _) (c.ro2 w) (Bi O) (Aj (Bi O) rfl) fun A st R hA S Par I h=>by
   have hu:max A.in1.units A.units+10*30+10*60<cLine:=by have:=hA.units; show max (A.units+1) A.units+_+_<_; exact ω0h this
   have hdp:max A.in1.depth A.depth+30+60<recursionLimit:=by have:=hA.depth; show max A.depth A.depth+_+_<_; exact ω0f this
   exact Aw Par rfl (he4_v _ _ _ _ _ c.x c.dx c.tb c.pb c.ct c.co c.it c.kt ((s).o1 c) ((s).o2 c) ((s).o3 c) ((s.m1 c).o1 c) ((s.m1 c).o2 c) ((s.m1 c).o3 c) ((s.m2 c).o1 c) ((s.m2 c).o2 c) ((s.m2 c).o3 c) ((s.m3 c).o1 c) ((s.m3 c).o2 c) ((s.m3 c).o3 c) ((s.m4 c).o1 c) ((s.m4 c).o2 c) ((s.m4 c).o3 c) (((s.m4 c).accs c AJ 1).o1 c) (((s.m4 c).accs c AJ 1).o2 c) (((s.m4 c).accs c AJ 1).o3 c) (((s.m4 c).accs c AJ 2).o1 c) (((s.m4 c).accs c AJ 2).o2 c) (((s.m4 c).accs c AJ 2).o3 c) (((s.m4 c).accs c AJ 3).o1 c) (((s.m4 c).accs c AJ 3).o2 c) (((s.m4 c).accs c AJ 3).o3 c) (((s.m4 c).accs c AJ 4).o1 c) (((s.m4 c).accs c AJ 4).o2 c) (((s.m4 c).accs c AJ 4).o3 c) g0 d0 g1 d1 g2 d2 g3 d3 g4 d4 g5 d5 g6 d6 g7 d7 ((s.m4 c).hit c AJ) (((s.m4 c).accs c AJ 1).hit c AJ) (((s.m4 c).accs c AJ 2).hit c AJ) (((s.m4 c).accs c AJ 3).hit c AJ)) (Ab ((C7 _).obl (is:=[2,3,4]) rfl S.new rfl rfl rfl hdp hu) (Ab ((C6 _).obl (is:=[2,3,4]) rfl S.new rfl rfl rfl hdp hu) (Ab ((C5 _).obl (is:=[2,3,4]) rfl S.new rfl rfl rfl hdp hu) (Ab ((C4 _).obl (is:=[2,3,4]) rfl S.new rfl rfl rfl hdp hu) (Ab ((C3 _).obl (is:=[2,3,4]) rfl S.new rfl rfl rfl hdp hu) (Ab ((C2 _).obl (is:=[2,3,4]) rfl S.new rfl rfl rfl hdp hu) (Ab ((C1 _).obl (is:=[2,3,4]) rfl S.new rfl rfl rfl hdp hu) (Ab ((C0 _).obl (is:=[2,3,4]) rfl S.new rfl rfl rfl hdp hu) (Aa))))))))) I fun s' I' H=>h s' _ I' H⟩
 rw [if_neg h3] at e
 by_cases h4:(s.m4 c).hit c tU=true
 ·rw [if_pos h4] at e
  cases e
  obtain⟨g0,d0,C0⟩:=AB W O Bh (s) F
  rw [show(s).hit c Bh=false from Bool.eq_false_iff.mpr h0] at C0
  obtain⟨g1,d1,C1⟩:=AB W O BE (s.m1 c) F1
  rw [show(s.m1 c).hit c BE=false from Bool.eq_false_iff.mpr h1] at C1
  obtain⟨g2,d2,C2⟩:=AB W O tx (s.m2 c) F2
  rw [show(s.m2 c).hit c tx=false from Bool.eq_false_iff.mpr h2] at C2
  obtain⟨g3,d3,C3⟩:=AB W O tu (s.m3 c) F3
  rw [show(s.m3 c).hit c tu=false from Bool.eq_false_iff.mpr h3] at C3
  obtain⟨g4,d4,C4⟩:=AB W O tU (s.m4 c) F4
  rw [show(s.m4 c).hit c tU=true from h4] at C4
  obtain⟨g5,d5,C5⟩:=AB W O AJ (s.m5 c) F5
  obtain⟨g6,d6,C6⟩:=AB W O AJ ((s.m5 c).accs c AJ 1) (LS.MI (n:=1) F5)
  obtain⟨g7,d7,C7⟩:=AB W O AJ ((s.m5 c).accs c AJ 2) (LS.MI (n:=2) F5)
  obtain⟨g8,d8,C8⟩:=AB W O AJ ((s.m5 c).accs c AJ 3) (LS.MI (n:=3) F5)
  exact⟨_,_,Con.MF W (by rfl) (by decide) (AY O _) (AO O _) (c.ro2 w) (Bi O) (Aj (Bi O) rfl) fun A st R hA S Par I h=>by
   have hu:max A.in1.units A.units+10*30+10*60<cLine:=by have:=hA.units; show max (A.units+1) A.units+_+_<_; exact ω0h this
   have hdp:max A.in1.depth A.depth+30+60<recursionLimit:=by have:=hA.depth; show max A.depth A.depth+_+_<_; exact ω0f this
   exact Aw Par rfl (he5_v _ _ _ _ _ c.x c.dx c.tb c.pb c.ct c.co c.it c.kt ((s).o1 c) ((s).o2 c) ((s).o3 c) ((s.m1 c).o1 c) ((s.m1 c).o2 c) ((s.m1 c).o3 c) ((s.m2 c).o1 c) ((s.m2 c).o2 c) ((s.m2 c).o3 c) ((s.m3 c).o1 c) ((s.m3 c).o2 c) ((s.m3 c).o3 c) ((s.m4 c).o1 c) ((s.m4 c).o2 c) ((s.m4 c).o3 c) ((s.m5 c).o1 c) ((s.m5 c).o2 c) ((s.m5 c).o3 c) (((s.m5 c).accs c AJ 1).o1 c) (((s.m5 c).accs c AJ 1).o2 c) (((s.m5 c).accs c AJ 1).o3 c) (((s.m5 c).accs c AJ 2).o1 c) (((s.m5 c).accs c AJ 2).o2 c) (((s.m5 c).accs c AJ 2).o3 c) (((s.m5 c).accs c AJ 3).o1 c) (((s.m5 c).accs c AJ 3).o2 c) (((s.m5 c).accs c AJ 3).o3 c) (((s.m5 c).accs c AJ 4).o1 c) (((s.m5 c).accs c AJ 4).o2 c) (((s.m5 c).accs c AJ 4).o3 c) g0 d0 g1 d1 g2 d2 g3 d3 g4 d4 g5 d5 g6 d6 g7 d7 g8 d8 ((s.m5 c).hit c AJ) (((s.m5 c).accs c AJ 1).hit c AJ) (((s.m5 c).accs c AJ 2).hit c AJ) (((s.m5 c).accs c AJ 3).hit c AJ)) (Ab ((C8 _).obl (is:=[2,3,4]) rfl S.new rfl rfl rfl hdp hu) (Ab ((C7 _).obl (is:=[2,3,4]) rfl S.new rfl rfl rfl hdp hu) (Ab ((C6 _).obl (is:=[2,3,4]) rfl S.new rfl rfl rfl hdp hu) (Ab ((C5 _).obl (is:=[2,3,4]) rfl S.new rfl rfl rfl hdp hu) (Ab ((C4 _).obl (is:=[2,3,4]) rfl S.new rfl rfl rfl hdp hu) (Ab ((C3 _).obl (is:=[2,3,4]) rfl S.new rfl rfl rfl hdp hu) (Ab ((C2 _).obl (is:=[2,3,4]) rfl S.new rfl rfl rfl hdp hu) (Ab ((C1 _).obl (is:=[2,3,4]) rfl S.new rfl rfl rfl hdp hu) (Ab ((C0 _).obl (is:=[2,3,4]) rfl S.new rfl rfl rfl hdp hu) (Aa)))))))))) I fun s' I' H=>h s' _ I' H⟩
 rw [if_neg h4] at e
 cases e
end
noncomputable abbrev CI(test:Expr)(body orelse:List Stmt)(env:Env):Sem PySem.Fin:=PySem.W.Fast.tw12362719219628433562 test body orelse env
noncomputable abbrev Dj(target:Expr)(it:Value)(body orelse:List Stmt)(env:Env):Sem PySem.Fin:=PySem.W.Fast.tw15207555903498437823 target it body orelse env
noncomputable def C9(M:Model)(A:Around)(R:Result→Shared→Prop):PySem.Fin→Shared→Prop
 | .done f,s=>R (.ok f) s
 | .again c,s=>c.quiet=true∧codeAny M A c R s
section
variable{prog:Program}{w:World}{A:Around}{R:Result→Shared→Prop}{s:Shared}{env:Env}
theorem Ee{test:Expr}{body orelse:List Stmt}(h:wpAny (model prog w) (A.under (.whileLoop test body orelse env)) (CI test body orelse env) (C9 (model prog w) A R) (notedBy (model prog w) (A.under (.whileLoop test body orelse env)) env fun e s'=>R (.error e) s') s) :
  codeAny (model prog w) A (.whileLoop test body orelse env) R s:=by
 refine codeAny_of_tree ?_
 show wpAny _ _ ((whileTurn test body orelse env).onRaise (fun x=>do noteFrame x env; theTreesLotGoes x)) _ _ s
 refine wpAny_noted ?_
 unfold CI at h
 rw [←PySem.W.Fast.te12362719219628433562] at h
 exact wpAny_mono h (fun fin s' q=>by cases fin <;> exact q) fun _ _ q=>q
theorem Cp{target:Expr}{it:Value}{body orelse:List Stmt}(h:wpAny (model prog w) (A.under (.forLoop target it body orelse env)) (Dj target it body orelse env) (C9 (model prog w) A R) (notedBy (model prog w) (A.under (.forLoop target it body orelse env)) env fun e s'=>R (.error e) s') s) :
  codeAny (model prog w) A (.forLoop target it body orelse env) R s:=by
 refine codeAny_of_tree ?_
 show wpAny _ _ ((forTurn target it body orelse env).onRaise (fun x=>do noteFrame x env; theTreesLotGoes x)) _ _ s
 refine wpAny_noted ?_
 unfold Dj at h
 rw [←PySem.W.Fast.te15207555903498437823] at h
 exact wpAny_mono h (fun fin s' q=>by cases fin <;> exact q) fun _ _ q=>q
end
theorem CT{A:Around}{d:Nat}{test:Expr}{body orelse:List Stmt}{env:Env}(h:Ar A (d+1)):Ar (A.under (.whileLoop test body orelse env)) d∧(A.under (.whileLoop test body orelse env)).frames=A.frames:=
 ⟨⟨h.handled,by have:=h.depth; show A.depth+0+d<_; exact ω0i this,by have:=h.units; have:=BD (.whileLoop test body orelse env); show A.units+(Code.whileLoop test body orelse env).cUnits+10*d<_; omega⟩,rfl⟩
theorem BU{A:Around}{d:Nat}{target:Expr}{it:Value}{body orelse:List Stmt}{env:Env}(h:Ar A (d+1)):Ar (A.under (.forLoop target it body orelse env)) d∧(A.under (.forLoop target it body orelse env)).frames=A.frames:=
 ⟨⟨h.handled,by have:=h.depth; show A.depth+0+d<_; exact ω0i this,by have:=h.units; have:=BD (.forLoop target it body orelse env); show A.units+(Code.forLoop target it body orelse env).cUnits+10*d<_; omega⟩,rfl⟩
theorem AG{P:Par}{prog:Program}{w:World}{A:Around}{Fi:PySem.Fin→Shared→Prop}{hs:List Nat}{as:List Ans}{σ:Led}{m k:Nat}{t:Sem PySem.Fin}{s₀ s:Shared}{D:List Addr}{fuel:Nat}(O:Cx P (Ac prog w A Fi E)){R0:Res}{sel:List Nat}{U V:Nat}{c:Code}{m' k' led}{vs:List Sp}
  (hv:R0.rv U V sel=⟨R0.exp,.call c,1,0,[],none,m',k',led,vs.map Sp.view,true⟩) (hR:run P fuel hs as σ m k .tree t [] [] []=R0)
  (ho:∀ v∈vs,AK P (Ac prog w A Fi E) U V v) (I:Inv P.look P.ro s₀ D σ (P.n+m) (P.t+k) s)
  (h:∀ s',Inv P.look P.ro s₀ D R0.led (P.n+m') (P.t+k') s'→DY s'.heap led→codeAny (model prog w) A c (fun r s''=>wpAny (model prog w) A (R0.kk r) Fi E s'') s'):wpAny (model prog w) A t Fi E s:=by
 have e1:R0.act=R0.exp:=congrArg AP.act hv
 have e2:R0.out=.call c:=congrArg AP.out hv
 have e3:R0.ko.kind=1:=congrArg AP.base hv
 have e7:R0.hd=none:=congrArg AP.hd hv
 have e4:sel.map (Aq R0.led)=led:=congrArg AP.led hv
 have e5:R0.obl.map E2=vs.map Sp.view:=congrArg AP.obl hv
 have e8:R0.m=m':=congrArg AP.m hv
 have e9:R0.k=k':=congrArg AP.k hv
 have e10:Ez U V R0.obl=true:=congrArg AP.ok hv
 have eko:R0.ko=.tree:=by
  cases q:R0.ko with
  | tree=>rfl
  | _=>rw [q] at e3; cases e3
 have:=Df O R0 hR (by rw [e2]; rfl) e1 (Ey e5 e10 ho) I fun s' I'=>by
  unfold Fb
  rw [e2,e7,eko]
  rw [e8,e9] at I'
  show codeAny (model prog w) (A.mark none) c _ s'
  rw [Around.mark_none]
  exact h s' I' (I'.held sel e4)
 exact this
section
variable{w:World}{ext:Addr→Option Obj}{s:Shared}{A:Around}{d:Nat}{Fi:PySem.Fin→Shared→Prop}{E:Value→Shared→Prop}{fuel:Nat}{hs:List Nat}{as:List Ans}{σ:Led}{t:Sem PySem.Fin}{R0:Res}{l:List Nat}{U V m' k':Nat}{led:List (Option (Addr×Obj))}{vs:List Sp}
theorem iB(S:Ak w ext s)(hp:∀ p∈σ,s.heap.get? p.1=some p.2)(nd:(σ.map (·.1)).Nodup)(ap:∀ p∈σ,lkX w ext p.1=none):Inv (lkX w ext) 0 s (σ.map (·.1)) σ (s.heap.objs.size+0) (s.toks+0) s:=Inv.MH S (reads:=[]) (pre:=σ) Aa ιN hp nd ap
theorem uL(W:Ae w)(S:Ak w ext s)(hA:Ar A d){r:Result}{dep envs hd}(hR:run (P4 w (Ax w) ext s.heap.objs.size s.toks 0) fuel hs as σ 0 0 .tree t [] [] []=R0)(hv:R0.rv U V l=⟨R0.exp,.done r,1,dep,envs,hd,m',k',led,vs.map Sp.view,true⟩)(ho:∀ v∈vs,AK (P4 w (Ax w) ext s.heap.objs.size s.toks 0) (Ac pr2 w A Fi E) U V v)
  (hp:∀ p∈σ,s.heap.get? p.1=some p.2) (nd:(σ.map (·.1)).Nodup) (ap:∀ p∈σ,lkX w ext p.1=none) (h:∀ s',Inv (lkX w ext) 0 s (σ.map (·.1)) R0.led (s.heap.objs.size+m') (s.toks+k') s'→DY s'.heap led→(Ac pr2 w A Fi E).J (leafOf r) s')
  (h60:60≤d:=by decide):wpAny (model pr2 w) A t Fi E s:=
 Al (g:=Ac pr2 w A Fi E) (Ao (t:=s.toks) (ro:=0) W S hA h60) hR hv ho (iB S hp nd ap) h
theorem uA(W:Ae w)(S:Ak w ext s)(hA:Ar A d){c:Code}{dep envs hd}(hR:run (P4 w (Ax w) ext s.heap.objs.size s.toks 0) fuel hs as σ 0 0 .tree t [] [] []=R0)(hv:R0.rv U V l=⟨R0.exp,.again c,1,dep,envs,hd,m',k',led,vs.map Sp.view,true⟩)(ho:∀ v∈vs,AK (P4 w (Ax w) ext s.heap.objs.size s.toks 0) (Ac pr2 w A Fi E) U V v)
  (hp:∀ p∈σ,s.heap.get? p.1=some p.2) (nd:(σ.map (·.1)).Nodup) (ap:∀ p∈σ,lkX w ext p.1=none) (h:∀ s',Inv (lkX w ext) 0 s (σ.map (·.1)) R0.led (s.heap.objs.size+m') (s.toks+k') s'→DY s'.heap led→(Ac pr2 w A Fi E).J (.pure (.again c)) s')
  (h60:60≤d:=by decide):wpAny (model pr2 w) A t Fi E s:=
 AR (g:=Ac pr2 w A Fi E) (Ao (t:=s.toks) (ro:=0) W S hA h60) hR hv ho (iB S hp nd ap) h
theorem uC(W:Ae w)(S:Ak w ext s)(hA:Ar A d){c:Code}(hv:R0.rv U V l=⟨R0.exp,.call c,1,0,[],none,m',k',led,vs.map Sp.view,true⟩)(hR:run (P4 w (Ax w) ext s.heap.objs.size s.toks 0) fuel hs as σ 0 0 .tree t [] [] []=R0)(ho:∀ v∈vs,AK (P4 w (Ax w) ext s.heap.objs.size s.toks 0) (Ac pr2 w A Fi E) U V v)
  (hp:∀ p∈σ,s.heap.get? p.1=some p.2) (nd:(σ.map (·.1)).Nodup) (ap:∀ p∈σ,lkX w ext p.1=none) (h:∀ s',Inv (lkX w ext) 0 s (σ.map (·.1)) R0.led (s.heap.objs.size+m') (s.toks+k') s'→DY s'.heap led→codeAny (model pr2 w) A c (fun r s''=>wpAny (model pr2 w) A (R0.kk r) Fi E s'') s')
  (h60:60≤d:=by decide):wpAny (model pr2 w) A t Fi E s:=
 AG (Ao (t:=s.toks) (ro:=0) W S hA h60) hv hR ho (iB S hp nd ap) h
end
structure Bs(w:World)(base:Heap)(l:List Env)(D:List Addr)(lv fl:Value)(st:Shared)(e:Addr)(st':Shared):Prop where
 same:st'={st with heap:=st'.heap,toks:=st'.toks,gens:=st'.gens}
 gens:By st.gens st'.gens
 size:st.heap.objs.size≤st'.heap.objs.size
 nf:NF D st.heap st'.heap
 enew:st.heap.objs.size≤e
 kx:KX (D++l.filterMap (·.frame)) st.heap st'.heap
 fly:∃ d T a b k ms h sl,Fly base l (.ref 156) e d T fl st'.heap∧st'.heap.get? d=some ⟨.type "dict",none,.dict #[de w "msg" a ms,de w "loc" b lv,de w "hints" k (.ref h)] 3,sl⟩∧st.heap.objs.size≤T
section
variable{w:World}{base:Heap}{l:List Env}{D:List Addr}{lv fl:Value}{st:Shared}{e:Addr}{st':Shared}
theorem AF.toF(X:AF w base l D lv st e st'):Bs w base l D lv .none st e st':=⟨X.same,X.gens,X.size,X.nf,X.enew,X.kx,X.fly⟩
theorem Bs.toR(X:Bs w base l D lv .none st e st'):AF w base l D lv st e st':=⟨X.same,X.gens,X.size,X.nf,X.enew,X.kx,X.fly⟩
theorem Bs.step{fl':Value}{h':Heap}{F':List Addr}(X:Bs w base l D lv fl st e st')(N:NF [] st'.heap h')(z:st'.heap.objs.size≤h'.objs.size)(K:KX F' st'.heap h')(hF:∀ b∈F',b∈l.filterMap (·.frame)∨st.heap.objs.size≤b)(F:∀ d T,Fly base l (.ref 156) e d T fl st'.heap→st.heap.objs.size≤T→∃ T',Fly base l (.ref 156) e d T' fl' h'∧st.heap.objs.size≤T'):Bs w base l D lv fl' st e {st' with heap:=h'}:=by
 obtain⟨x1,x2,x3,x4,en,kx,d,T,a,b,k,ms,hh,sl,FF,hd,hT⟩:=X
 obtain⟨T',F',hT'⟩:=F d T FF hT
 obtain⟨sl',e'⟩:=N d _ hd (fun q=>nomatch q) (fun vs q=>nomatch q)
 refine⟨?_,x2,ιT x3 z,x4.trans (N.mono fun _ q=>nomatch q),en,fun b o e hb=>K b o (kx b o e hb) fun q=>?_,d,T',a,b,k,ms,hh,sl',F',e',hT'⟩
 ·generalize st'.heap=h1 at x1
  generalize st'.toks=t1 at x1
  generalize st'.gens=g1 at x1
  subst x1; rfl
 ·rcases hF b q with q | q
  ·exact hb (List.mem_append_right _ q)
  ·exact CV e q
theorem Fly.uniq{h:Heap}{d d' T T':Addr}{fl fl' cls:Value}{e:Addr}(F:Fly base l cls e d T fl h)(F':Fly base l cls e d' T' fl' h):d'=d∧T'=T:=by
 obtain⟨_,_,_,_,_,⟨oe,vs,he,_,hdc,hd,h1⟩,_⟩:=F
 obtain⟨_,_,_,_,_,⟨oe',vs',he',_,hdc',hd',h1'⟩,_⟩:=F'
 rw [he] at he'
 cases he'
 rw [hdc] at hdc'
 cases hdc'
 rw [hd] at hd'
 cases hd'
 rw [h1] at h1'
 cases h1'
 exact⟨rfl,rfl⟩
variable{M:Model}{A:Around}{E:Value→Shared→Prop}{env:Env}{outer:List Env}{L:Addr}
theorem Bs.noted(hfr:A.frames=some (env::outer))(hf:env.frame=some L)(X:Bs w base (env::outer) D lv .none st e st')(h:∀ s'',Bs w base (env::outer) D lv (rawInt L) st e s''→E (.ref e) s''):notedBy M A env E (.ref e) st':=by
 have X':=X
 obtain⟨x1,x2,x3,x4,en,kx,d,T,a,b,k,ms,hh,sl,F,hd,hT⟩:=X
 unfold notedBy
 refine Gh hfr hf F fun h' T' F' N z zT K=>h _ (X'.step N z K (fun b hb=>?_) fun d' T'' F'' hT''=>⟨T',by rw [(F.uniq F'').1]; exact F',ιT x3 zT⟩)
 rcases ιC hb with q | q
 ·exact .inr (by rw [q]; exact en)
 rcases ιC q with q | q
 ·exact .inr (by rw [q]; exact hT)
 ·exact .inl q
theorem Bs.flight{x:Option Addr}{Q:Unit→Shared→Prop}(X:Bs w base l D lv fl st e st')(h:∀ s'',Bs w base l D lv (x.elim .none fun f=>rawInt f) st e s''→Q () s''):wpAny M A (setFlight (.ref e) x) Q E st':=by
 have X':=X
 obtain⟨x1,x2,x3,x4,en,kx,d,T,a,b,k,ms,hh,sl,F,hd,hT⟩:=X
 refine Eg F fun h' F' N z K=>h _ (X'.step N z K (fun b hb=>?_) fun d' T'' F'' hT''=>⟨T,by rw [(F.uniq F'').1]; exact F',hT⟩)
 exact .inr (by rw [ιS hb]; exact hT)
theorem Bs.back(X:Bs w base l D lv fl st e st')(hf:env.frame=some L)(h:∀ s'',Bs w base l D lv (rawInt L) st e s''→E (.ref e) s''):cameBackBy M A env E (.ref e) st':=by
 have X':=X
 obtain⟨x1,x2,x3,x4,en,kx,d,T,a,b,k,ms,hh,sl,⟨f1,f2,f3,f4,f5,⟨oe,vs,he,hcls,hdct,hdd,h1⟩,f7⟩,hd,hT⟩:=X
 unfold cameBackBy
 refine wpAny_bind (wpAny_field he hdd h1 ?_)
 rw [if_neg (show ¬ ((Value.ref T == Value.none)=true) from by simp)]
 rw [hf]
 exact X'.flight h
theorem Bs.ML{Q:Unit→Shared→Prop}(hf:env.frame=some L)(X:Bs w base (env::outer) D lv (rawInt L) st e st')(hLn:L∈D∨st.heap.objs.size≤L)(h:∀ s'',AF w base outer D lv st e s''→Q () s''):wpAny M A (leaving env (.ref e)) Q E st':=by
 have X':=X
 obtain⟨x1,x2,x3,x4,en,kx,d,T,a,b,k,ms,hh,sl,F,hd,hT⟩:=X
 unfold leaving
 refine wpAny_bind (Gi hf F ?_)
 refine X'.flight (x:=none) fun s'' Y=>h s'' ?_
 obtain⟨y1,y2,y3,y4,en',kx',d',T',a',b',k',ms',hh',sl',F',hd',hT'⟩:=Y
 refine⟨y1,y2,y3,y4,en',fun b o e hb=>kx' b o e fun q=>?_,d',T',a',b',k',ms',hh',sl',F'.tail,hd',hT'⟩
 rcases ιM q with q | q
 ·exact hb (List.mem_append_left _ q)
 rcases CM hf q with q | q
 ·subst q
  rcases hLn with q | q
  ·exact hb (List.mem_append_left _ q)
  ·exact CV e q
 ·exact hb (List.mem_append_right _ q)
end
section
variable{w:World}{ext:Addr→Option Obj}{c:Cfg}
theorem DT{base h:Heap}{l:List Env}(ff:h.FunFrames base l){b:Addr}(hb:b∈l.filterMap (·.frame)):b<h.objs.size:=by
 obtain⟨_,o,ho,_⟩:=ff.mem hb
 exact ιH ho
theorem Rs.enter{base:Heap}{outer:List Env}{A:Around}{st s1:Shared}{env:Env}{fr:Obj}{s:LS}(X:Rs c base outer A st)(own:∀ p∈s.ents c,st.heap.get? p.1=some p.2)(hf:env.frame=some st.heap.objs.size)(hk:env.scope.kind≠.module)(A1:Aft [] st s1)
  (hL:s1.heap.get? st.heap.objs.size=some fr) (hd:∀ vs,fr.data≠.fields vs):Rs c base (env::outer) (A.deeper env) s1 where
 frames:=Around.frames_deeper X.frames
 stays:=CF X.stays A1 Aa
 hide:=X.hide
 ff:=⟨hk,⟨_,fr,hf,E3 X.stays (ιR _),hL,hd⟩,Bl X.ff A1 fun _ _ h=>nomatch h⟩
 fo:=fun b hb hm=>by
  rw [List.filterMap_cons,hf] at hb
  rcases ιC hb with rfl | hb
  ·exact Nat.lt_irrefl _ (Ca own _ hm)
  ·exact X.fo b hb hm
theorem Rs.move{base:Heap}{outer:List Env}{A A':Around}{st s1:Shared}{env:Env}{L:Nat}{fr:Obj}{D:List Addr}(X:Rs c base (env::outer) A st)(hA:A'.frames=A.frames)(hf:env.frame=some L)(a:Aft D st s1)(hD:∀ x∈D,x∈L::[c.pb,c.ct,c.it])(hLo:L∉outer.filterMap (·.frame))
  (hL:s1.heap.get? L=some fr) (hd:∀ vs,fr.data≠.fields vs):Rs c base (env::outer) A' s1 where
 frames:=hA.trans X.frames
 stays:=CF X.stays a fun x hx=>by
  rcases ιC (hD x hx) with rfl | h
  ·exact(X.ff.mem (by rw [List.filterMap_cons,hf]; exact .head _)).1
  ·exact X.hide x h
 hide:=X.hide
 ff:=by
  obtain⟨hk,⟨L',o,hf',hn,ho,_⟩,hr⟩:=X.ff
  rw [hf] at hf'
  cases hf'
  refine⟨hk,⟨L,fr,hf,hn,hL,hd⟩,Bl hr a fun b hb hm=>?_⟩
  rcases ιC (hD b hm) with rfl | h
  ·exact hLo hb
  ·exact X.fo b (by rw [List.filterMap_cons,hf]; exact .tail _ hb) h
 fo:=X.fo
theorem esc_err(W:Ae w)(O:c.Ok w ext)(s:LS)(F:s.WF c)(e:s.esc c=none){A:Around}{st:Shared}{base:Heap}{outer:List Env}(hA:Ar A 300)(S:Ak w ext st)(own:∀ p∈s.ents c,st.heap.get? p.1=some p.2)
  (X:Rs c base outer A st) (hR:∀ e st',AF w base outer [c.pb,c.ct,c.it] (s.locv c) st e st'→R (.error (.ref e)) st'):codeAny (model pr2 w) A (.call (.ref 387) ⟨[.ref c.x],[]⟩) R st:=by
 have F1:=LS.MG (vs:=Bh) F
 have F2:=LS.MG (vs:=BE) F1
 have F3:=LS.MG (vs:=tx) F2
 have F4:=LS.MG (vs:=tu) F3
 have F5:=LS.MG (vs:=tU) F4
 obtain⟨h0,h1,h2,h3,h4⟩:s.hit c Bh=false∧(s.m1 c).hit c BE=false∧(s.m2 c).hit c tx=false∧(s.m3 c).hit c tu=false∧(s.m4 c).hit c tU=false:=by
  unfold LS.esc at e
  refine⟨?_,?_,?_,?_,?_⟩ <;> (repeat' split at e) <;> first | (cases e; done) | (apply Bool.eq_false_iff.mpr; assumption)
 have ep:(s.m5 c).p=s.p:=(LS.MK F4 h4).trans ((LS.MK F3 h3).trans ((LS.MK F2 h2).trans ((LS.MK F1 h1).trans (LS.MK F h0))))
 obtain⟨g0,d0,C0⟩:=AB W O Bh s F
 obtain⟨g1,d1,C1⟩:=AB W O BE (s.m1 c) F1
 obtain⟨g2,d2,C2⟩:=AB W O tx (s.m2 c) F2
 obtain⟨g3,d3,C3⟩:=AB W O tu (s.m3 c) F3
 obtain⟨g4,d4,C4⟩:=AB W O tU (s.m4 c) F4
 rw [h0] at C0
 rw [h1] at C1
 rw [h2] at C2
 rw [h3] at C3
 rw [h4] at C4
 refine Dq W hA (by decide) S (by rfl) rfl (es0_v _ _ _ _ _ c.x) fun s1 e1 A1 z1 hL S1=>?_
 generalize hLe:st.heap.objs.size=L at hL z1
 have hroom:Ar (A.deeper (Af w 387 L)) 290:=⟨hA.handled,by show A.depth+1+290<_; have:=hA.depth; exact ω04 this,by show A.units+3+_<_; have:=hA.units; exact ω05 this⟩
 have ek:(Af w 387 L).scope.kind=.function:=by kernel_rfl
 have X1:Rs c base (Af w 387 L::outer) (A.deeper (Af w 387 L)) s1:=X.enter (fr:=oFr [de w "self" st.toks (.ref c.x)] 1) own (by rw [hLe]; rfl) (by rw [ek]; decide) A1 (by rw [hLe]; exact hL) ιF
 have hLo:L∉outer.filterMap (·.frame):=fun hm=>by
  have:=DT X.ff hm
  rw [hLe] at this; exact Nat.lt_irrefl _ this
 generalize hAd:A.deeper (Af w 387 L)=Ad at hroom X1 ⊢
 have ltL:∀ {a:Addr} {o:Obj},st.heap.get? a=some o→a≠L:=fun e q=>by
  have:=ιH e
  rw [hLe,q] at this
  exact Nat.lt_irrefl _ this
 have apL:lkX w ext L=none:=by
  cases e:lkX w ext L with
  | none=>rfl
  | some o=>exact absurd rfl (ltL (S L o e))
 have own1:∀ p∈s.ents c,s1.heap.get? p.1=some p.2:=fun p hp=>A1.keep _ _ (own p hp) (fun h=>nomatch h)
 have hu:max Ad.units Ad.units+10*30+10*60<cLine:=by have:=hroom.units; exact ω0e this
 have hdp:max Ad.depth Ad.depth+30+60<recursionLimit:=by have:=hroom.depth; exact ω0f this
 have nd4:(L::[c.pb,c.ct,c.it]).Nodup:=List.nodup_cons.mpr ⟨fun hm=>by
   have:=Ca own L hm
   rw [hLe] at this; exact Nat.lt_irrefl _ this,AY O s⟩
 refine DO ?_
 rw [←DV]
 refine AG (Ao (t:=s1.toks) (ro:=2) W S1 hroom (by decide)) (es1_v _ _ _ _ _ L st.toks c.x c.dx c.tb c.pb c.ct c.co c.it c.kt (s.o1 c) (s.o2 c) (s.o3 c) ((s.m1 c).o1 c) ((s.m1 c).o2 c) ((s.m1 c).o3 c) ((s.m2 c).o1 c) ((s.m2 c).o2 c) ((s.m2 c).o3 c) ((s.m3 c).o1 c) ((s.m3 c).o2 c) ((s.m3 c).o3 c) ((s.m4 c).o1 c) ((s.m4 c).o2 c) ((s.m4 c).o3 c) ((s.m5 c).o1 c) ((s.m5 c).o2 c) ((s.m5 c).o3 c) g0 d0 g1 d1 g2 d2 g3 d3 g4 d4) rfl
  (ζ5 ((C4 _).obl (is:=[3,4,5]) rfl S1.new rfl rfl rfl hdp hu) ((C3 _).obl (is:=[3,4,5]) rfl S1.new rfl rfl rfl hdp hu) ((C2 _).obl (is:=[3,4,5]) rfl S1.new rfl rfl rfl hdp hu) ((C1 _).obl (is:=[3,4,5]) rfl S1.new rfl rfl rfl hdp hu) ((C0 _).obl (is:=[3,4,5]) rfl S1.new rfl rfl rfl hdp hu))
  (Inv.MH S1 (pre:=(L,oFr [de w "self" st.toks (.ref c.x)] 1)::s.ents c) (Bi O) (Aj (Bi O) rfl) (Ab hL own1) nd4 (Ab apL (AO O s)))
  fun s2 I2 H2=>?_
 have A2:Aft (L::[c.pb,c.ct,c.it]) s1 s2:=I2.aft
 have X2:Rs c base (Af w 387 L::outer) Ad s2:=X1.move rfl rfl A2 (fun _ h=>h) hLo (H2 _ μ0) ιF
 refine Gt W O (s.m5 c) F5 _ _ (hroom.le (by decide)) (S1.aft A2 (Ab apL (fun a ha=>O.ap a (.tail _ ha)))) (ζ3 (H2 _ μ1) (H2 _ μ2) (H2 _ μ3)) X2 fun e st' Y=>?_
 rw [es1_k]
 refine wpAny_throw ?_
 show wpAny _ _ (leaving (Af w 387 L) (.ref e)) _ _ _
 have Y':AF w base (Af w 387 L::outer) [c.pb,c.ct,c.it] (s.locv c) st e st':=by
  have:(s.m5 c).locv c=s.locv c:=by unfold LS.locv; rw [ep]
  rw [this] at Y
  have big:Aft [c.pb,c.ct,c.it] st s2:=((A1.mono (D':=L::[c.pb,c.ct,c.it]) fun x h=>nomatch h).trans A2).drop fun x hx=>by
   rcases ιC hx with rfl | hx
   ·exact .inr (by rw [hLe]; exact ιR _)
   ·exact .inl hx
  exact AF.from big Y fun x hx=>.inl hx
 refine Y'.leave (L:=L) X2.frames rfl (.inr (by rw [hLe]; exact ιR _)) fun s3 Z=>hR e s3 Z
end
noncomputable def Lb(w:World)(ext:Addr→Option Obj)(f:Addr)(args:List Value):Sem PySem.Fin:=BB (B5 (lkX w ext f)) f ⟨args,[(⟨#[101,111,102]⟩,.bool false)]⟩
section
variable(w:World)(f:Fl)(ext:Addr→Option Obj)(n t L kl1 kl2 x dx tb pb ct co it cl ec e1 e2 i:Nat)(kt:Nat→Nat)(cv cts:List Value)(ci di k1 k2 k3 li:Nat)(sg:Str)
def ne1:Res:=
 run (P2 w f ext n t 5) 163 (ιx 97 0x9992709777720110000010000001900040004999260666620110000010000001960606066201100000100000019099990) ([Dl 5 pb [] e1 (.ref ci) (t+6),Bc 6 ct cts e2 (.ref ci)].map Sp.x) [(x,oX dx),(dx,oDx w kt tb pb ct co it),(cl,lst cv ec),(ci,oC di),(di,oDc w k1 k2 (.str sg k3) li),(pb,lst [.ref ci] e1),(ct,lst cts e2),(it,oIt cl i)] 0 0 .tree
  (Lb w ext 216 [.ref x]) [] [] []
theorem ne1_v:RvD (ne1 w f ext n t x dx tb pb ct co it cl ec e1 e2 i kt cv cts ci di k1 k2 k3 li sg) [5,6,7] (.done (.ok (.ret (.ref ci)))) 0 1 9 [some (pb,lst [] (e1+1)),some (ct,lst (cts++[.ref ci]) (e2+1)),some (it,oIt cl i)] [Bc 6 ct cts e2 (.ref ci),Dl 5 pb [] e1 (.ref ci) (t+6)]:=by kernel_rfl
def ne2:Res:=
 run (P2 w f ext n t 5) 164 (ιx 99 0x999270977772011000001000000190004000499928088002011000001000000190060606066201100000100000019099990) ([Cg 7 2 it cl cv ec i (.ref ci),Bc 6 ct cts e2 (.ref ci)].map Sp.x) [(x,oX dx),(dx,oDx w kt tb pb ct co it),(cl,lst cv ec),(ci,oC di),(di,oDc w k1 k2 (.str sg k3) li),(pb,lst [] e1),(ct,lst cts e2),(it,oIt cl i)] 0 0 .tree
  (Lb w ext 216 [.ref x]) [] [] []
theorem ne2_v:RvD (ne2 w f ext n t x dx tb pb ct co it cl ec e1 e2 i kt cv cts ci di k1 k2 k3 li sg) [5,6,7] (.done (.ok (.ret (.ref ci)))) 0 1 8 [some (pb,lst [] e1),some (ct,lst (cts++[.ref ci]) (e2+1)),some (it,oIt cl (i+1))] [Bc 6 ct cts e2 (.ref ci),Cg 7 2 it cl cv ec i (.ref ci)]:=by kernel_rfl
def ne0:Res:=
 run (P2 w f ext n t 0) 21 [0,1,1,1,1] [] [] 0 0 .tree
  (Lb w ext 216 [.ref x]) [] [] []
theorem ne0_v:RvD (ne0 w f ext n t x) [0] (.again (.func (A0 w 216) (Af w 216 n))) 1 1 2 [some (n,oFr [de w "self" t (.ref x),de w "eof" (t+1) (.bool false)] 2)] []:=by kernel_rfl
def ne3:Res:=
 run (P4 w f ext n t 3) 134 (ιx 83 0x10210000001000001000001444444927077002011000001000000140050505055201100000100000014) ([AZ 6 2 it cl cv ec i].map Sp.x) [(x,oX dx),(dx,oDx w kt tb pb ct co it),(cl,lst cv ec),(L,oFr [de w "self" kl1 (.ref x),de w "eof" kl2 (.bool false)] 2),(pb,lst [] e1),(ct,lst cts e2),(it,oIt cl i)] 0 0 .tree
  (Az (A0 w 216) (Af w 216 L)) [] [] []
theorem ne3_v:RvC (ne3 w f ext n t L kl1 kl2 x dx tb pb ct co it cl ec e1 e2 i kt cv cts) [3,4,5,6] (.call (.call (.ref 265) ⟨[.ref x,.str ⟨⟨[69,120,112,101,99,116,101,100,32,97,32,99,104,97,114,97,99,116,101,114,44,32,98,117,116,32,97,116,32,101,110,100,32,111,102,32,102,105,108,101]⟩⟩ (t+5)],[]⟩)) 1 2 6 [some (L,oFr [de w "self" kl1 (.ref x),de w "eof" kl2 (.bool false),de w "char" (t+4) .none] 3),some (pb,lst [] e1),some (ct,lst cts e2),some (it,FB i)] [AZ 6 2 it cl cv ec i]:=by kernel_rfl
variable(e:Nat)
theorem ne3_k:(ne3 w f ext n t L kl1 kl2 x dx tb pb ct co it cl ec e1 e2 i kt cv cts).kk (.error (.ref e))=.raise (.ref e):=by kernel_rfl
def ne4:Res:=
 run (P4 w f ext n t 3) 140 (ιx 84 0x102100000010000010000014444449707077002011000001000000140050505055201100000100000014) [] [(x,oX dx),(dx,oDx w kt tb pb ct co it),(cl,lst cv ec),(L,oFr [de w "self" kl1 (.ref x),de w "eof" kl2 (.bool false)] 2),(pb,lst [] e1),(ct,lst cts e2),(it,FB i)] 0 0 .tree
  (Az (A0 w 216) (Af w 216 L)) [] [] []
theorem ne4_v:RvC (ne4 w f ext n t L kl1 kl2 x dx tb pb ct co it cl ec e1 e2 i kt cv cts) [3,4,5,6] (.call (.call (.ref 265) ⟨[.ref x,.str ⟨⟨[69,120,112,101,99,116,101,100,32,97,32,99,104,97,114,97,99,116,101,114,44,32,98,117,116,32,97,116,32,101,110,100,32,111,102,32,102,105,108,101]⟩⟩ (t+5)],[]⟩)) 1 2 6 [some (L,oFr [de w "self" kl1 (.ref x),de w "eof" kl2 (.bool false),de w "char" (t+4) .none] 3),some (pb,lst [] e1),some (ct,lst cts e2),some (it,FB i)] []:=by kernel_rfl
theorem ne4_k:(ne4 w f ext n t L kl1 kl2 x dx tb pb ct co it cl ec e1 e2 i kt cv cts).kk (.error (.ref e))=.raise (.ref e):=by kernel_rfl
end
noncomputable abbrev EU:List (Str×Value):=[(⟨#[101,111,102]⟩,.bool false)]
section
variable{w:World}{ext:Addr→Option Obj}{c:Cfg}
theorem HB(W:Ae w)(O:c.Ok w ext)(s:LS)(F:s.WF c)(hp:s.p<c.N):∃ gr dk,Con w ext 100 (.call (.ref 216) ⟨[.ref c.x],EU⟩) (s.ents c) (Ba (.ref (c.ci s.p))) ((s.next c).objs c) gr dk:=by
 obtain⟨p,b,hold,exh,e1,e2⟩:=s
 have hsz:=sZ
 have hsm:=O.small
 have h1:=F.bp
 have h2:=F.pn
 dsimp only at h1 h2 hp
 have hx:exh=false:=by
  cases exh with
  | false=>rfl
  | true=>have:=F.xp rfl; dsimp only at this; omega
 subst hx
 have hlen:(c.seg b p).length≤sizeLine:=by rw [c.seg_len,hsz]; exact ω0j hp hsm
 simp only [LS.next,if_pos hp,LS.objs,c.seg_succ h1]
 cases hold with
 | true=>
  exact⟨_,_,Con.MF W (by rfl) (by decide) (AY O _) (AO O _) (c.ro5 w p) (BO O hp) (Aj (BO O hp) rfl) fun A s R hA S Par I h=>
   Aw Par rfl (ne1_v _ _ _ _ _ c.x c.dx c.tb c.pb c.ct c.co c.it c.cl c.ec e1 e2 (p+1) c.kt (c.seg 0 c.N) (c.seg b p) (c.ci p) (c.di p) (c.k1 p) (c.k2 p) (c.k3 p) (c.li p) (c.sg p)) (ζ2 (AN S.new (leR rfl) hlen) (F9 S.new (leR rfl) (by decide))) I fun s' I' H=>h s' _ I' H⟩
 | false=>
  exact⟨_,_,Con.MF W (by rfl) (by decide) (AY O _) (AO O _) (c.ro5 w p) (BO O hp) (Aj (BO O hp) rfl) fun A s R hA S Par I h=>
   Aw Par rfl (ne2_v _ _ _ _ _ c.x c.dx c.tb c.pb c.ct c.co c.it c.cl c.ec e1 e2 p c.kt (c.seg 0 c.N) (c.seg b p) (c.ci p) (c.di p) (c.k1 p) (c.k2 p) (c.k3 p) (c.li p) (c.sg p)) (ζ2 (AN S.new (leR rfl) hlen) (DB S.new (leR rfl) (c.seg_get hp))) I fun s' I' H=>h s' _ I' H⟩
theorem GG(W:Ae w)(O:c.Ok w ext)(s:LS)(F:s.WF c)(hp:¬ s.p<c.N){A:Around}{st:Shared}{base:Heap}{outer:List Env}(hA:Ar A 300)(S:Ak w ext st)(own:∀ p∈s.ents c,st.heap.get? p.1=some p.2)
  (X:Rs c base outer A st) (hR:∀ e st',AF w base outer [c.pb,c.ct,c.it] .none st e st'→R (.error (.ref e)) st'):codeAny (model pr2 w) A (.call (.ref 216) ⟨[.ref c.x],EU⟩) R st:=by
 refine Dq W hA (by decide) S (by rfl) rfl (ne0_v _ _ _ _ _ c.x) fun s1 e1 A1 z1 hL S1=>?_
 generalize hLe:st.heap.objs.size=L at hL z1
 have hroom:Ar (A.deeper (Af w 216 L)) 290:=⟨hA.handled,by show A.depth+1+290<_; have:=hA.depth; exact ω04 this,by show A.units+3+_<_; have:=hA.units; exact ω05 this⟩
 have ek:(Af w 216 L).scope.kind=.function:=by kernel_rfl
 have X1:Rs c base (Af w 216 L::outer) (A.deeper (Af w 216 L)) s1:=X.enter (fr:=oFr [de w "self" st.toks (.ref c.x),de w "eof" (st.toks+1) (.bool false)] 2) own (by rw [hLe]; rfl) (by rw [ek]; decide) A1 (by rw [hLe]; exact hL) ιF
 have hLo:L∉outer.filterMap (·.frame):=fun hm=>by
  have:=DT X.ff hm
  rw [hLe] at this; exact Nat.lt_irrefl _ this
 generalize hAd:A.deeper (Af w 216 L)=Ad at hroom X1 ⊢
 have ltL:∀ {a:Addr} {o:Obj},st.heap.get? a=some o→a≠L:=fun e q=>by
  have:=ιH e
  rw [hLe,q] at this
  exact Nat.lt_irrefl _ this
 have apL:lkX w ext L=none:=by
  cases e:lkX w ext L with
  | none=>rfl
  | some o=>exact absurd rfl (ltL (S L o e))
 have own1:∀ p∈s.ents c,s1.heap.get? p.1=some p.2:=fun p hp=>A1.keep _ _ (own p hp) (fun h=>nomatch h)
 have nd4:(L::[c.pb,c.ct,c.it]).Nodup:=List.nodup_cons.mpr ⟨fun hm=>by
   have:=Ca own L hm
   rw [hLe] at this; exact Nat.lt_irrefl _ this,AY O s⟩
 have fin:∀ (s2:Shared) (c2:Nat→Sem PySem.Fin) (ms:Str) (km:Nat) (fr:Obj),Aft (L::[c.pb,c.ct,c.it]) s1 s2→s2.heap.get? L=some fr→(∀ vs,fr.data≠.fields vs)→(∀ p∈(s.next c).ents c,s2.heap.get? p.1=some p.2)→(∀ e,c2 e=.raise (.ref e))→∀ kk:Result→Sem PySem.Fin,(∀ e,kk (.error (.ref e))=c2 e)→
   codeAny (model pr2 w) Ad (.call (.ref 265) ⟨[.ref c.x,.str ms km],[]⟩) (fun r s''=>wpAny (model pr2 w) Ad (kk r) (Jw fun f s'=>R (.ok (.ret (match f with | .ret v=>v | _=>.none))) s') (fun e s'=>wpAny (model pr2 w) Ad (leaving (Af w 216 L) e) (fun _ s''=>R (.error e) s'') (fun e' s''=>R (.error e') s'') s') s'') s2:=by
  intro s2 c2 ms km fr A2 hL2 hfr own2 hc2 kk hkk
  have X2:Rs c base (Af w 216 L::outer) Ad s2:=X1.move rfl rfl A2 (fun _ h=>h) hLo hL2 hfr
  refine Gt W O (s.next c) (LS.next_wf F) _ _ (hroom.le (by decide)) (S1.aft A2 (Ab apL (fun a ha=>O.ap a (.tail _ ha)))) own2 X2 fun e st' Y=>?_
  rw [hkk,hc2]
  refine wpAny_throw ?_
  show wpAny _ _ (leaving (Af w 216 L) (.ref e)) _ _ _
  have Y':AF w base (Af w 216 L::outer) [c.pb,c.ct,c.it] .none st e st':=by
   have:(s.next c).locv c=.none:=by unfold LS.locv LS.next; simp [hp]
   rw [this] at Y
   have big:Aft [c.pb,c.ct,c.it] st s2:=((A1.mono (D':=L::[c.pb,c.ct,c.it]) fun x h=>nomatch h).trans A2).drop fun x hx=>by
    rcases ιC hx with rfl | hx
    ·exact .inr (by rw [hLe]; exact ιR _)
    ·exact .inl hx
   exact AF.from big Y fun x hx=>.inl hx
  exact Y'.leave (L:=L) X2.frames rfl (.inr (by rw [hLe]; exact ιR _)) fun s3 Z=>hR e s3 Z
 obtain⟨p,b,hold,exh,e1',e2⟩:=s
 dsimp only at hp
 have hpn:=F.pn
 dsimp only at hpn
 have hh:hold=false:=by
  cases hold with
  | false=>rfl
  | true=>exact absurd (F.hp rfl) hp
 subst hh
 refine DO ?_
 rw [←DV]
 simp only [LS.next,if_neg hp] at fin
 cases exh with
 | false=>
  exact AG (Ao (t:=s1.toks) (ro:=3) W S1 hroom (by decide)) (ne3_v _ _ _ _ _ L st.toks (st.toks+1) c.x c.dx c.tb c.pb c.ct c.co c.it c.cl c.ec e1' e2 p c.kt (c.seg 0 c.N) (c.seg b p)) rfl
   (Ab (Ch S1.new (leR rfl) (c.seg_end (show c.N≤p from ωy hp))) Aa)
   (Inv.MH S1 (pre:=(L,oFr [de w "self" st.toks (.ref c.x),de w "eof" (st.toks+1) (.bool false)] 2)::LS.ents c ⟨p,b,false,false,e1',e2⟩) (Cs O) (Aj (Cs O) rfl) (Ab hL own1) nd4 (Ab apL (AO O _)))
   fun s2 I2 H2=>fin s2 (fun e=>.raise (.ref e)) _ _ _ I2.aft (H2 _ μ0) ιF (ζ3 (H2 _ μ1) (H2 _ μ2) (H2 _ μ3)) (fun _=>rfl) _ (fun e=>ne3_k _ _ _ _ _ _ _ _ _ _ _ _ _ _ _ _ _ _ _ _ _ _ _ e)
 | true=>
  exact AG (Ao (t:=s1.toks) (ro:=3) W S1 hroom (by decide)) (ne4_v _ _ _ _ _ L st.toks (st.toks+1) c.x c.dx c.tb c.pb c.ct c.co c.it c.cl c.ec e1' e2 p c.kt (c.seg 0 c.N) (c.seg b p)) rfl
   (vs:=[]) Aa
   (Inv.MH S1 (pre:=(L,oFr [de w "self" st.toks (.ref c.x),de w "eof" (st.toks+1) (.bool false)] 2)::LS.ents c ⟨p,b,false,true,e1',e2⟩) (Cs O) (Aj (Cs O) rfl) (Ab hL own1) nd4 (Ab apL (AO O _)))
   fun s2 I2 H2=>fin s2 (fun e=>.raise (.ref e)) _ _ _ I2.aft (H2 _ μ0) ιF (ζ3 (H2 _ μ1) (H2 _ μ2) (H2 _ μ3)) (fun _=>rfl) _ (fun e=>ne4_k _ _ _ _ _ _ _ _ _ _ _ _ _ _ _ _ _ _ _ _ _ _ _ e)
end
noncomputable def Cz(s:Option Stmt):Expr×List Stmt×List Stmt×Pos:=match s with
 | some (.While t b o p)=>(t,b,o,p)
 | _=>(.Constant .none 0 default,[],[],default)
noncomputable def lsT(w:World):Expr:=(Cz (A0 w 373)[1]?).1
noncomputable def lsB(w:World):List Stmt:=(Cz (A0 w 373)[1]?).2.1
noncomputable abbrev lsW(w:World)(L:Nat):Code:=.whileLoop (lsT w) (lsB w) [] (Af w 373 L)
noncomputable def KR(w:World):List Stmt:=(A0 w 373).take 1
noncomputable def M0(w:World):List Stmt:=(A0 w 373).drop 2
theorem ls_body(w:World):A0 w 373=KR w++(.While (lsT w) (lsB w) [] (Cz (A0 w 373)[1]?).2.2.2::M0 w):=by kernel_rfl
theorem E7(env:Env)(b:List Stmt):∀ (a:List Stmt),execs (a++b) env=(execs a env >>= fun f=>match f with | .next=>execs b env | f=>pure f)
 | []=>rfl
 | st::a=>by
  rw [List.cons_append,execs_cons,execs_cons,bind_assoc]
  congr 1
  funext f
  cases f with
  | next=>exact E7 env b a
  | _=>rfl
theorem Bm{M:Model}{A:Around}{env:Env}{a b:List Stmt}{s:Shared}(h:wpAny M A (execs a env) (fun f s'=>match f with | .next=>wpAny M A (execs b env) Q E s' | f=>Q f s') E s):wpAny M A (execs (a++b) env) Q E s:=by
 rw [E7]
 exact wpAny_bind (wpAny_mono h (fun f s' q=>by cases f <;> first | exact q | exact ιp q) fun _ _ q=>q)
theorem Au{M:Model}{A:Around}{env:Env}{a:List Stmt}{s:Shared}(h:wpAny M A (Az a env) (Jw Q) E s):wpAny M A (execs a env) Q E s:=by
 refine DO ?_
 rw [←DV]
 exact h
section
variable(w:World)(f:Fl)(ext:Addr→Option Obj)(n t L kl kc x dx tb pb ct co it ci ci':Nat)(kt:Nat→Nat)(p0 q0 r0 p1 q1 r1 p2 q2 r2:Obj)(g0 d0 g1 d1:Nat)
def ls0:Res:=
 run (P2 w f ext n t 0) 16 [1,1] [] [] 0 0 .tree
  (ent w ext 373 [.ref x]) [] [] []
theorem ls0_v:RvD (ls0 w f ext n t x) [0] (.again (.func (A0 w 373) (Af w 373 n))) 1 1 1 [some (n,oFr [de w "self" t (.ref x)] 1)] []:=by kernel_rfl
noncomputable abbrev Kz:List Sp:=[AL [3,4,5] (.call (.ref 216) ⟨[.ref x],EU⟩) [(pb,p0),(ct,q0),(it,r0)] (Ba (.ref ci)) [p1,q1,r1] g0 d0]
def ls1:Res:=
 run (P4 w f ext n t 2) 49 (ιx 26 0x33202100000010000010000013) ((Kz x pb ct it ci p0 q0 r0 p1 q1 r1 g0 d0).reverse.map Sp.x) [(x,oX dx),(dx,oDx w kt tb pb ct co it),(L,oFr [de w "self" kl (.ref x)] 1),(pb,p0),(ct,q0),(it,r0)] 0 0 .tree
  (Az (KR w) (Af w 373 L)) [] [] []
theorem ls1_v:RvD (ls1 w f ext n t L kl x dx tb pb ct co it ci kt p0 q0 r0 p1 q1 r1 g0 d0) [2,3,4,5] (.done (.ok .next)) 1 (0+(g0+0)) (0+d0+1) [some (L,oFr [de w "self" kl (.ref x),de w "c" (t+(0+d0)) (.ref ci)] 2),some (pb,p1),some (ct,q1),some (it,r1)] (Kz x pb ct it ci p0 q0 r0 p1 q1 r1 g0 d0):=by kernel_rfl
def M1:Res:=
 run (P4 w f ext n t 2) 40 (ιx 24 0x102100000010000010000013) [] [(x,oX dx),(dx,oDx w kt tb pb ct co it),(L,oFr [de w "self" kl (.ref x)] 1),(pb,p0),(ct,q0),(it,r0)] 0 0 .tree
  (Az (KR w) (Af w 373 L)) [] [] []
theorem ls1e_v:RvC (M1 w f ext n t L kl x dx tb pb ct co it kt p0 q0 r0) [2,3,4,5] (.call (.call (.ref 216) ⟨[.ref x],EU⟩)) 1 0 0 [some (L,oFr [de w "self" kl (.ref x)] 1),some (pb,p0),some (ct,q0),some (it,r0)] []:=by kernel_rfl
variable(e:Nat)
theorem ls1e_k:(M1 w f ext n t L kl x dx tb pb ct co it kt p0 q0 r0).kk (.error (.ref e))=.raise (.ref e):=by kernel_rfl
def ls2:Res:=
 run (P4 w f ext n t 2) 40 (ιx 24 0x102100000010000010000013) [] [(x,oX dx),(dx,oDx w kt tb pb ct co it),(L,oFr [de w "self" kl (.ref x),de w "c" kc (.ref ci)] 2)] 0 0 .tree
  (Az (M0 w) (Af w 373 L)) [] [] []
theorem ls2_v:RvC (ls2 w f ext n t L kl kc x dx tb pb ct co it ci kt) [2] (.call (.call (.ref 230) ⟨[.ref x,.str ιh (t+0)],[]⟩)) 1 0 1 [some (L,oFr [de w "self" kl (.ref x),de w "c" kc (.ref ci)] 2)] []:=by kernel_rfl
variable(di k1 k2 k3 li:Nat)(sg:Str)
def lw1:Res:=
 run (P4 w f ext n t 4) 35 (ιx 16 0x2040330003000035) ([Am "str.__ne__" ⟨[.str sg k3,.str ⟨⟨[34]⟩⟩ (t+1)],[]⟩ (.bool false)].map Sp.x) [(x,oX dx),(dx,oDx w kt tb pb ct co it),(ci,oC di),(di,oDc w k1 k2 (.str sg k3) li),(L,oFr [de w "self" kl (.ref x),de w "c" kc (.ref ci)] 2),(pb,p0),(ct,q0),(it,r0)] 0 0 .tree
  (CI (lsT w) (lsB w) [] (Af w 373 L)) [] [] []
theorem lw1_v:RvD (lw1 w f ext n t L kl kc x dx tb pb ct co it ci kt p0 q0 r0 di k1 k2 k3 li sg) [4,5,6,7] (.done (.ok .next)) 1 0 2 [some (L,oFr [de w "self" kl (.ref x),de w "c" kc (.ref ci)] 2),some (pb,p0),some (ct,q0),some (it,r0)] [Am "str.__ne__" ⟨[.str sg k3,.str ⟨⟨[34]⟩⟩ (t+1)],[]⟩ (.bool false)]:=by rcases f with⟨_ | _,_ | _,_ | _⟩ <;> kernel_rfl
noncomputable abbrev Ku:List Sp:=[AL [5,6,7] (.call (.ref 216) ⟨[.ref x],EU⟩) [(pb,p0),(ct,q0),(it,r0)] (Ba (.ref ci')) [p1,q1,r1] g0 d0,Am "str.__eq__" ⟨[.str sg k3,.str ⟨⟨[92]⟩⟩ (t+3)],[]⟩ (.bool false),Am "str.__ne__" ⟨[.str sg k3,.str ⟨⟨[34]⟩⟩ (t+1)],[]⟩ (.bool true)]
def lw2:Res:=
 run (P4 w f ext n t 4) 98 (ιx 58 0x5520210000001000001000001520403300030000352040330003000035) ((Ku t x pb ct it ci' p0 q0 r0 p1 q1 r1 g0 d0 k3 sg).reverse.map Sp.x) [(x,oX dx),(dx,oDx w kt tb pb ct co it),(ci,oC di),(di,oDc w k1 k2 (.str sg k3) li),(L,oFr [de w "self" kl (.ref x),de w "c" kc (.ref ci)] 2),(pb,p0),(ct,q0),(it,r0)] 0 0 .tree
  (CI (lsT w) (lsB w) [] (Af w 373 L)) [] [] []
theorem lw2_v:RvD (lw2 w f ext n t L kl kc x dx tb pb ct co it ci ci' kt p0 q0 r0 p1 q1 r1 g0 d0 di k1 k2 k3 li sg) [4,5,6,7] (.again (lsW w L)) 1 (0+(g0+0)) (4+d0+1) [some (L,oFr [de w "self" kl (.ref x),de w "c" kc (.ref ci')] 2),some (pb,p1),some (ct,q1),some (it,r1)] (Ku t x pb ct it ci' p0 q0 r0 p1 q1 r1 g0 d0 k3 sg):=by rcases f with⟨_ | _,_ | _,_ | _⟩ <;> kernel_rfl
noncomputable abbrev Kt:List Sp:=[AL [5,6,7] (.call (.ref 216) ⟨[.ref x],EU⟩) [(pb,p1),(ct,q1),(it,r1)] (Ba (.ref ci')) [p2,q2,r2] g1 d1,AL [5,6,7] (.call (.ref 387) ⟨[.ref x],[]⟩) [(pb,p0),(ct,q0),(it,r0)] (Ba .none) [p1,q1,r1] g0 d0,Am "str.__eq__" ⟨[.str sg k3,.str ⟨⟨[92]⟩⟩ (t+3)],[]⟩ (.bool true),Am "str.__ne__" ⟨[.str sg k3,.str ⟨⟨[34]⟩⟩ (t+1)],[]⟩ (.bool true)]
def lw3:Res:=
 run (P4 w f ext n t 4) 126 (ιx 80 0x55202100000010000010000015202100001000001000001520403300030000352040330003000035) ((Kt t x pb ct it ci' p0 q0 r0 p1 q1 r1 p2 q2 r2 g0 d0 g1 d1 k3 sg).reverse.map Sp.x) [(x,oX dx),(dx,oDx w kt tb pb ct co it),(ci,oC di),(di,oDc w k1 k2 (.str sg k3) li),(L,oFr [de w "self" kl (.ref x),de w "c" kc (.ref ci)] 2),(pb,p0),(ct,q0),(it,r0)] 0 0 .tree
  (CI (lsT w) (lsB w) [] (Af w 373 L)) [] [] []
theorem lw3_v:RvD (lw3 w f ext n t L kl kc x dx tb pb ct co it ci ci' kt p0 q0 r0 p1 q1 r1 p2 q2 r2 g0 d0 g1 d1 di k1 k2 k3 li sg) [4,5,6,7] (.again (lsW w L)) 1 (0+(g0+0)+(g1+0)) (4+d0+d1+1) [some (L,oFr [de w "self" kl (.ref x),de w "c" kc (.ref ci')] 2),some (pb,p2),some (ct,q2),some (it,r2)] (Kt t x pb ct it ci' p0 q0 r0 p1 q1 r1 p2 q2 r2 g0 d0 g1 d1 k3 sg):=by rcases f with⟨_ | _,_ | _,_ | _⟩ <;> kernel_rfl
noncomputable abbrev Ks:List Sp:=[Am "str.__eq__" ⟨[.str sg k3,.str ⟨⟨[92]⟩⟩ (t+3)],[]⟩ (.bool true),Am "str.__ne__" ⟨[.str sg k3,.str ⟨⟨[34]⟩⟩ (t+1)],[]⟩ (.bool true)]
def lw4:Res:=
 run (P4 w f ext n t 4) 86 (ιx 54 0x102100001000001000001520403300030000352040330003000035) ((Ks t k3 sg).reverse.map Sp.x) [(x,oX dx),(dx,oDx w kt tb pb ct co it),(ci,oC di),(di,oDc w k1 k2 (.str sg k3) li),(L,oFr [de w "self" kl (.ref x),de w "c" kc (.ref ci)] 2),(pb,p0),(ct,q0),(it,r0)] 0 0 .tree
  (CI (lsT w) (lsB w) [] (Af w 373 L)) [] [] []
theorem lw4_v:RvC (lw4 w f ext n t L kl kc x dx tb pb ct co it ci kt p0 q0 r0 di k1 k2 k3 li sg) [4,5,6,7] (.call (.call (.ref 387) ⟨[.ref x],[]⟩)) 1 0 4 [some (L,oFr [de w "self" kl (.ref x),de w "c" kc (.ref ci)] 2),some (pb,p0),some (ct,q0),some (it,r0)] (Ks t k3 sg):=by rcases f with⟨_ | _,_ | _,_ | _⟩ <;> kernel_rfl
end
section
variable(w:World)(f:Fl)(ext:Addr→Option Obj)(n t L kl kc x dx tb pb ct co it ci:Nat)(kt:Nat→Nat)(p0 q0 r0 p1 q1 r1:Obj)(g0 d0:Nat)(di k1 k2 k3 li:Nat)(sg:Str)(e:Nat)
theorem lw4_k:(lw4 w f ext n t L kl kc x dx tb pb ct co it ci kt p0 q0 r0 di k1 k2 k3 li sg).kk (.error (.ref e))=.raise (.ref e):=by rcases f with⟨_ | _,_ | _,_ | _⟩ <;> kernel_rfl
noncomputable abbrev Kr:List Sp:=[Am "str.__eq__" ⟨[.str sg k3,.str ⟨⟨[92]⟩⟩ (t+3)],[]⟩ (.bool false),Am "str.__ne__" ⟨[.str sg k3,.str ⟨⟨[34]⟩⟩ (t+1)],[]⟩ (.bool true)]
def lw5:Res:=
 run (P4 w f ext n t 4) 89 (ιx 56 0x10210000001000001000001520403300030000352040330003000035) ((Kr t k3 sg).reverse.map Sp.x) [(x,oX dx),(dx,oDx w kt tb pb ct co it),(ci,oC di),(di,oDc w k1 k2 (.str sg k3) li),(L,oFr [de w "self" kl (.ref x),de w "c" kc (.ref ci)] 2),(pb,p0),(ct,q0),(it,r0)] 0 0 .tree
  (CI (lsT w) (lsB w) [] (Af w 373 L)) [] [] []
theorem lw5_v:RvC (lw5 w f ext n t L kl kc x dx tb pb ct co it ci kt p0 q0 r0 di k1 k2 k3 li sg) [4,5,6,7] (.call (.call (.ref 216) ⟨[.ref x],EU⟩)) 1 0 4 [some (L,oFr [de w "self" kl (.ref x),de w "c" kc (.ref ci)] 2),some (pb,p0),some (ct,q0),some (it,r0)] (Kr t k3 sg):=by rcases f with⟨_ | _,_ | _,_ | _⟩ <;> kernel_rfl
theorem lw5_k:(lw5 w f ext n t L kl kc x dx tb pb ct co it ci kt p0 q0 r0 di k1 k2 k3 li sg).kk (.error (.ref e))=.raise (.ref e):=by rcases f with⟨_ | _,_ | _,_ | _⟩ <;> kernel_rfl
noncomputable abbrev Kq:List Sp:=[AL [5,6,7] (.call (.ref 387) ⟨[.ref x],[]⟩) [(pb,p0),(ct,q0),(it,r0)] (Ba .none) [p1,q1,r1] g0 d0,Am "str.__eq__" ⟨[.str sg k3,.str ⟨⟨[92]⟩⟩ (t+3)],[]⟩ (.bool true),Am "str.__ne__" ⟨[.str sg k3,.str ⟨⟨[34]⟩⟩ (t+1)],[]⟩ (.bool true)]
def lw6:Res:=
 run (P4 w f ext n t 4) 117 (ιx 78 0x102100000010000010000015202100001000001000001520403300030000352040330003000035) ((Kq t x pb ct it p0 q0 r0 p1 q1 r1 g0 d0 k3 sg).reverse.map Sp.x) [(x,oX dx),(dx,oDx w kt tb pb ct co it),(ci,oC di),(di,oDc w k1 k2 (.str sg k3) li),(L,oFr [de w "self" kl (.ref x),de w "c" kc (.ref ci)] 2),(pb,p0),(ct,q0),(it,r0)] 0 0 .tree
  (CI (lsT w) (lsB w) [] (Af w 373 L)) [] [] []
theorem lw6_v:RvC (lw6 w f ext n t L kl kc x dx tb pb ct co it ci kt p0 q0 r0 p1 q1 r1 g0 d0 di k1 k2 k3 li sg) [4,5,6,7] (.call (.call (.ref 216) ⟨[.ref x],EU⟩)) 1 (0+(g0+0)) (4+d0) [some (L,oFr [de w "self" kl (.ref x),de w "c" kc (.ref ci)] 2),some (pb,p1),some (ct,q1),some (it,r1)] (Kq t x pb ct it p0 q0 r0 p1 q1 r1 g0 d0 k3 sg):=by rcases f with⟨_ | _,_ | _,_ | _⟩ <;> kernel_rfl
theorem lw6_k:(lw6 w f ext n t L kl kc x dx tb pb ct co it ci kt p0 q0 r0 p1 q1 r1 g0 d0 di k1 k2 k3 li sg).kk (.error (.ref e))=.raise (.ref e):=by rcases f with⟨_ | _,_ | _,_ | _⟩ <;> kernel_rfl
end
noncomputable abbrev chQ:Str:=⟨⟨[34]⟩⟩
noncomputable abbrev chB:Str:=⟨⟨[92]⟩⟩
noncomputable def isC(k sg:Str):Bool:=sg.cps.toList == k.cps.toList
inductive SR where
 | ok (s:LS)
 | err (place:Option Nat)
noncomputable def B8(c:Cfg):Option Nat→Value
 | some p=>.ref (c.li p)
 | none=>.none
noncomputable def Ck(c:Cfg)(p:Nat):Option Nat:=if p<c.N then some p else none
theorem placeV_at(c:Cfg)(s:LS):B8 c (Ck c s.p)=s.locv c:=by
 by_cases h:s.p<c.N <;> simp [B8,Ck,LS.locv,h]
noncomputable def AI(c:Cfg):Nat→LS→Nat→SR
 | 0,s,q=>.ok s
 | n+1,s,q=>
  if isC chQ (c.sg q) then .ok s
  else match (if isC chB (c.sg q) then s.esc c else some s) with
   | none=>.err (Ck c s.p)
   | some s1=>if s1.p<c.N then AI c n (s1.next c) s1.p else .err none
section
variable{w:World}{ext:Addr→Option Obj}{c:Cfg}
theorem IE{P:Par}{g:Bq}{U D:Nat}{x y:Str}{t u:Tok}{b:Bool}(hP:∀ b,P.n≤b→P.look b=none)(e:(x.cps.toList != y.cps.toList)=b):AK P g U D (Am "str.__ne__" ⟨[.str x t,.str y u],[]⟩ (.bool b)):=
 E0 hP F.entry_str_ne (by decide +kernel) (by rw [←e]; exact gives_str_ne x y t u)
theorem Dh{P:Par}{g:Bq}{U D:Nat}{x y:Str}{t u:Tok}{b:Bool}(hP:∀ b,P.n≤b→P.look b=none)(e:(x.cps.toList == y.cps.toList)=b):AK P g U D (Am "str.__eq__" ⟨[.str x t,.str y u],[]⟩ (.bool b)):=
 E0 hP F.entry_str_eq (by decide +kernel) (by rw [←e]; exact gives_str_eq x y t u)
theorem LS.MM{c:Cfg}{vs:Str}:∀ {n:Nat} {s:LS},s.p≤(s.accs c vs n).p
 | 0,_=>ιR _
 | n+1,s=>ιT (by unfold LS.acc LS.next LS.back; (repeat' split) <;> simp) (LS.MM (n:=n) (s:=s.acc c vs))
theorem LS.MN{c:Cfg}{vs:Str}{s:LS}:s.p≤(s.acc c vs).p:=LS.MM (n:=1) (s:=s)
theorem LS.MO{c:Cfg}{s s':LS}(e:s.esc c=some s'):s.p≤s'.p:=by
 have h1:=LS.MN (c:=c) (vs:=Bh) (s:=s)
 have h2:=LS.MN (c:=c) (vs:=BE) (s:=s.m1 c)
 have h3:=LS.MN (c:=c) (vs:=tx) (s:=s.m2 c)
 have h4:=LS.MN (c:=c) (vs:=tu) (s:=s.m3 c)
 have h5:=LS.MN (c:=c) (vs:=tU) (s:=s.m4 c)
 unfold LS.esc at e
 repeat' split at e
 all_goals first
  | (cases e; exact h1)
  | (cases e; exact ιT (ιT h1 h2) LS.MM)
  | (cases e; exact ιT (ιT (ιT h1 h2) h3) LS.MM)
  | (cases e; exact ιT (ιT (ιT (ιT h1 h2) h3) h4) LS.MM)
  | (cases e; exact ιT (ιT (ιT (ιT (ιT h1 h2) h3) h4) h5) LS.MM)
  | cases e
noncomputable abbrev lsF(w:World)(x kl kc v:Nat):Obj:=oFr [de w "self" kl (.ref x),de w "c" kc (.ref v)] 2
theorem ls_loop(W:Ae w)(O:c.Ok w ext){base:Heap}{outer:List Env}{L kl kc:Nat}(hLo:L∉outer.filterMap (·.frame))(apL:lkX w ext L=none)(ndL:(L::[c.pb,c.ct,c.it]).Nodup) :
  ∀ (n:Nat) (s:LS) (q:Nat),s.WF c→q<c.N→c.N<s.p+n→∀ {A:Around} {st:Shared} {R:Result→Shared→Prop},Ar A 400→Ak w ext st→(∀ p∈s.ents c,st.heap.get? p.1=some p.2)→st.heap.get? L=some (lsF w c.x kl kc (c.ci q))→
   Rs c base (Af w 373 L::outer) A st→
   (∀ s',AI c n s q=.ok s'→∀ st' v,Aft (L::[c.pb,c.ct,c.it]) st st'→(∀ p∈s'.ents c,st'.heap.get? p.1=some p.2)→st'.heap.get? L=some (lsF w c.x kl kc v)→R (.ok .next) st')→
   (∀ pl,AI c n s q=.err pl→∀ e st',Bs w base (Af w 373 L::outer) (L::[c.pb,c.ct,c.it]) (B8 c pl) (rawInt L) st e st'→R (.error (.ref e)) st')→
   codeAny (model pr2 w) A (lsW w L) R st:=by
 intro n
 induction n with
 | zero=>intro s q F hq hn; have:=F.pn; omega
 | succ n ih=>
  intro s q F hq hn A st R hA S own hL X hok herr
  refine Ee ?_
  obtain⟨hroom,hfr⟩:=CT (test:=lsT w) (body:=lsB w) (orelse:=[]) (env:=Af w 373 L) (hA.le (show 399+1≤400 by decide))
  have X':Rs c base (Af w 373 L::outer) (A.under (lsW w L)) st:=⟨hfr.trans X.frames,X.stays,X.hide,X.ff,X.fo⟩
  generalize A.under (lsW w L)=Ad at hroom hfr X' ⊢
  have hu:∀ d,d≤160→max Ad.units Ad.units+10*30+10*d<cLine:=fun d hd=>by have:=hroom.units; exact ω0k hd this
  have hdp:∀ d,d≤160→max Ad.depth Ad.depth+30+d<recursionLimit:=fun d hd=>by have:=hroom.depth; exact ω0l hd this
  have hrd:∀ p∈([(c.x,oX c.dx),(c.dx,oDx w c.kt c.tb c.pb c.ct c.co c.it),(c.ci q,oC (c.di q)),(c.di q,oDc w (c.k1 q) (c.k2 q) (.str (c.sg q) (c.k3 q)) (c.li q))]:Led),lkX w ext p.1=some p.2:=
   Ab O.hx (ζ3 O.hdx (O.hci q hq) (O.hdi q hq))
  have INV:=Inv.MH S (pre:=(L,lsF w c.x kl kc (c.ci q))::s.ents c) hrd (Aj hrd rfl) (Ab hL own) ndL (Ab apL (AO O s))
  have apD:∀ a∈L::[c.pb,c.ct,c.it],lkX w ext a=none:=Ab apL (fun a ha=>O.ap a (.tail _ ha))
  have on:∀ (s1:LS) (st2:Shared),s1.WF c→s1.p<c.N→s.p≤s1.p→AI c (n+1) s q=AI c n (s1.next c) s1.p→Aft (L::[c.pb,c.ct,c.it]) st st2→(∀ p∈(s1.next c).ents c,st2.heap.get? p.1=some p.2)→st2.heap.get? L=some (lsF w c.x kl kc (c.ci s1.p))→
    wpAny (model pr2 w) Ad (.pure (.again (lsW w L))) (C9 (model pr2 w) A R) (notedBy (model pr2 w) Ad (Af w 373 L) fun e s'=>R (.error e) s') st2:=by
   intro s1 st2 F1 hp1 hle he A2 own2 hL2
   rw [he] at hok herr
   have e1:(s1.next c).p=s1.p+1:=by unfold LS.next; rw [if_pos hp1]
   refine ιp ⟨rfl,ih (s1.next c) s1.p (LS.next_wf F1) hp1 (by rw [e1]; exact ω0m hn hle) hA (S.aft A2 apD) own2 hL2 (X.move rfl rfl A2 (fun _ h=>h) hLo hL2 ιF) (fun s' hs' st' v A3 own' hL'=>hok s' hs' st' v (A2.trans A3) own' hL') fun pl hpl e st' Y=>herr pl hpl e st' ?_⟩
   obtain⟨y1,y2,y3,y4,en,kx,d,T,aa,bb,k,ms,hh,sl,y5,y6,y7⟩:=Y
   exact⟨smT A2.same y1,A2.gens.trans y2,ιT A2.size y3,(NF.ME A2).trans y4,ιT A2.size en,(fun b o e hb=>kx b o (A2.keep b o e fun q=>hb (List.mem_append_left _ q)) hb),d,T,aa,bb,k,ms,hh,sl,y5,y6,ιT A2.size y7⟩
  have up:∀ (pl:Option Nat) (st2:Shared) (e:Addr) (st':Shared),AI c (n+1) s q=.err pl→Aft (L::[c.pb,c.ct,c.it]) st st2→Ad.frames=some (Af w 373 L::outer)→AF w base (Af w 373 L::outer) [c.pb,c.ct,c.it] (B8 c pl) st2 e st'→
    wpAny (model pr2 w) Ad (.raise (.ref e)) (C9 (model pr2 w) A R) (notedBy (model pr2 w) Ad (Af w 373 L) fun e s'=>R (.error e) s') st':=by
   intro pl st2 e st' he A2 hf Y
   refine wpAny_throw ?_
   have Y':AF w base (Af w 373 L::outer) (L::[c.pb,c.ct,c.it]) (B8 c pl) st e st':=AF.from A2 Y fun x hx=>.inl (.tail _ hx)
   exact Y'.toF.noted hf rfl fun s'' Z=>herr pl he e s'' Z
  have mv:∀ (s1:LS) (st2:Shared) (v:Nat),Aft (L::[c.pb,c.ct,c.it]) st st2→(∀ p∈s1.ents c,st2.heap.get? p.1=some p.2)→st2.heap.get? L=some (lsF w c.x kl kc v)→Rs c base (Af w 373 L::outer) Ad st2:=fun s1 st2 v A2 own2 hL2=>X'.move rfl rfl A2 (fun _ h=>h) hLo hL2 ιF
  by_cases hQ:isC chQ (c.sg q)=true
  ·have he:AI c (n+1) s q=.ok s:=by rw [AI,if_pos hQ]
   refine Al (g:=Ac pr2 w Ad _ _) (Ao (t:=st.toks) (ro:=4) W S hroom (by decide)) rfl
    (lw1_v _ _ _ _ _ L kl kc c.x c.dx c.tb c.pb c.ct c.co c.it (c.ci q) c.kt (s.o1 c) (s.o2 c) (s.o3 c) (c.di q) (c.k1 q) (c.k2 q) (c.k3 q) (c.li q) (c.sg q))
    (Ab (IE S.new (by show(!(_ == _))=false; rw [show((c.sg q).cps.toList == chQ.cps.toList)=true from hQ]; rfl)) Aa) INV fun s2 I2 H2=>?_
   exact ιp (hok s he s2 (c.ci q) I2.aft (ζ3 (H2 _ μ1) (H2 _ μ2) (H2 _ μ3)) (H2 _ μ0))
  ·have hQ':((c.sg q).cps.toList != chQ.cps.toList)=true:=by
    have:=Bool.eq_false_iff.mpr hQ
    show(!(_ == _))=true
    rw [show((c.sg q).cps.toList == chQ.cps.toList)=false from this]; rfl
   by_cases hB:isC chB (c.sg q)=true
   ·cases hesc:s.esc c with
    | none=>
     have he:AI c (n+1) s q=.err (Ck c s.p):=by rw [AI,if_neg hQ,if_pos hB,hesc]
     refine AG (Ao (t:=st.toks) (ro:=4) W S hroom (by decide))
      (lw4_v _ _ _ _ _ L kl kc c.x c.dx c.tb c.pb c.ct c.co c.it (c.ci q) c.kt (s.o1 c) (s.o2 c) (s.o3 c) (c.di q) (c.k1 q) (c.k2 q) (c.k3 q) (c.li q) (c.sg q)) rfl
      (ζ2 (Dh S.new hB) (IE S.new hQ')) INV fun s2 I2 H2=>?_
     have own2:∀ p∈s.ents c,s2.heap.get? p.1=some p.2:=Ab (H2 _ μ1) (ζ2 (H2 _ μ2) (H2 _ μ3))
     refine esc_err W O s F hesc (hroom.le (by decide)) (S.aft I2.aft apD) own2 (mv s s2 _ I2.aft own2 (H2 _ μ0)) fun e st' Y=>?_
     rw [lw4_k]
     exact up _ s2 e st' he I2.aft X'.frames (by rw [placeV_at]; exact Y)
    | some s1=>
     obtain⟨g0,d0,C0⟩:=esc_ok W O s s1 F hesc
     have F1:=LS.MJ F hesc
     have hle:=LS.MO hesc
     by_cases hp:s1.p<c.N
     ·obtain⟨g1,d1,C1⟩:=HB W O s1 F1 hp
      have he:AI c (n+1) s q=AI c n (s1.next c) s1.p:=by rw [AI,if_neg hQ,if_pos hB,hesc]; simp only [if_pos hp]
      refine AR (g:=Ac pr2 w Ad _ _) (Ao (t:=st.toks) (ro:=4) W S hroom (by decide)) rfl
       (lw3_v _ _ _ _ _ L kl kc c.x c.dx c.tb c.pb c.ct c.co c.it (c.ci q) (c.ci s1.p) c.kt (s.o1 c) (s.o2 c) (s.o3 c) (s1.o1 c) (s1.o2 c) (s1.o3 c) ((s1.next c).o1 c) ((s1.next c).o2 c) ((s1.next c).o3 c) g0 d0 g1 d1 (c.di q) (c.k1 q) (c.k2 q) (c.k3 q) (c.li q) (c.sg q))
       (ζ4 (C1.obl (is:=[5,6,7]) rfl S.new rfl rfl rfl (hdp 100 (by decide)) (hu 100 (by decide))) (C0.obl (is:=[5,6,7]) rfl S.new rfl rfl rfl (hdp 160 (by decide)) (hu 160 (by decide))) (Dh S.new hB) (IE S.new hQ')) INV fun s2 I2 H2=>?_
      exact on s1 s2 F1 hp hle he I2.aft (ζ3 (H2 _ μ1) (H2 _ μ2) (H2 _ μ3)) (H2 _ μ0)
     ·have he:AI c (n+1) s q=.err none:=by rw [AI,if_neg hQ,if_pos hB,hesc]; simp only [if_neg hp]
      refine AG (Ao (t:=st.toks) (ro:=4) W S hroom (by decide))
       (lw6_v _ _ _ _ _ L kl kc c.x c.dx c.tb c.pb c.ct c.co c.it (c.ci q) c.kt (s.o1 c) (s.o2 c) (s.o3 c) (s1.o1 c) (s1.o2 c) (s1.o3 c) g0 d0 (c.di q) (c.k1 q) (c.k2 q) (c.k3 q) (c.li q) (c.sg q)) rfl
       (ζ3 (C0.obl (is:=[5,6,7]) rfl S.new rfl rfl rfl (hdp 160 (by decide)) (hu 160 (by decide))) (Dh S.new hB) (IE S.new hQ')) INV fun s2 I2 H2=>?_
      have own2:∀ p∈s1.ents c,s2.heap.get? p.1=some p.2:=Ab (H2 _ μ1) (ζ2 (H2 _ μ2) (H2 _ μ3))
      refine GG W O s1 F1 hp (hroom.le (by decide)) (S.aft I2.aft apD) own2 (mv s1 s2 _ I2.aft own2 (H2 _ μ0)) fun e st' Y=>?_
      rw [lw6_k]
      exact up none s2 e st' he I2.aft X'.frames Y
   ·have hB':((c.sg q).cps.toList == chB.cps.toList)=false:=Bool.eq_false_iff.mpr hB
    by_cases hp:s.p<c.N
    ·obtain⟨g1,d1,C1⟩:=HB W O s F hp
     have he:AI c (n+1) s q=AI c n (s.next c) s.p:=by rw [AI,if_neg hQ,if_neg hB]; simp only [if_pos hp]
     refine AR (g:=Ac pr2 w Ad _ _) (Ao (t:=st.toks) (ro:=4) W S hroom (by decide)) rfl
      (lw2_v _ _ _ _ _ L kl kc c.x c.dx c.tb c.pb c.ct c.co c.it (c.ci q) (c.ci s.p) c.kt (s.o1 c) (s.o2 c) (s.o3 c) ((s.next c).o1 c) ((s.next c).o2 c) ((s.next c).o3 c) g1 d1 (c.di q) (c.k1 q) (c.k2 q) (c.k3 q) (c.li q) (c.sg q))
      (ζ3 (C1.obl (is:=[5,6,7]) rfl S.new rfl rfl rfl (hdp 100 (by decide)) (hu 100 (by decide))) (Dh S.new hB') (IE S.new hQ')) INV fun s2 I2 H2=>?_
     exact on s s2 F hp (ιR _) he I2.aft (ζ3 (H2 _ μ1) (H2 _ μ2) (H2 _ μ3)) (H2 _ μ0)
    ·have he:AI c (n+1) s q=.err none:=by rw [AI,if_neg hQ,if_neg hB]; simp only [if_neg hp]
     refine AG (Ao (t:=st.toks) (ro:=4) W S hroom (by decide))
      (lw5_v _ _ _ _ _ L kl kc c.x c.dx c.tb c.pb c.ct c.co c.it (c.ci q) c.kt (s.o1 c) (s.o2 c) (s.o3 c) (c.di q) (c.k1 q) (c.k2 q) (c.k3 q) (c.li q) (c.sg q)) rfl
      (ζ2 (Dh S.new hB') (IE S.new hQ')) INV fun s2 I2 H2=>?_
     have own2:∀ p∈s.ents c,s2.heap.get? p.1=some p.2:=Ab (H2 _ μ1) (ζ2 (H2 _ μ2) (H2 _ μ3))
     refine GG W O s F hp (hroom.le (by decide)) (S.aft I2.aft apD) own2 (mv s s2 _ I2.aft own2 (H2 _ μ0)) fun e st' Y=>?_
     rw [lw5_k]
     exact up none s2 e st' he I2.aft X'.frames Y
end
section
variable(w:World)(f:Fl)(ext:Addr→Option Obj)(n t L kl kc x dx tb pb ct co it ci:Nat)(kt:Nat→Nat)(n2 t2 v:Nat)
def ls3:Res:=
 run (P4 w f ext n2 t2 2) 47 (ιx 27 0x000000002011000000100000013) [] [(x,oX dx),(dx,oDx w kt tb pb ct co it),(L,oFr [de w "self" kl (.ref x),de w "c" kc (.ref v)] 2)] 0 0 .tree
  ((ls2 w f ext n t L kl kc x dx tb pb ct co it ci kt).kk (.ok (.ret .none))) [] [] []
theorem ls3_v:RvD (ls3 w f ext n t L kl kc x dx tb pb ct co it ci kt n2 t2 v) [2] (.done (.ok (.ret (.ref n2)))) 1 1 1 [some (L,oFr [de w "self" kl (.ref x),de w "c" kc (.ref v)] 2)] []:=by kernel_rfl
end
noncomputable abbrev B0:Str:=ιh
noncomputable def Ct(c:Cfg)(s:LS):SR:=if s.p<c.N then AI c (c.N+1) (s.next c) s.p else .err none
noncomputable def LS.cut(s:LS):LS:=⟨s.p,s.p,s.hold,s.exh,s.e1,s.e2+1⟩
theorem LS.MP{c:Cfg}{s:LS}(F:s.WF c):s.cut.WF c:=⟨ιR _,F.pn,F.hp,F.xp⟩
theorem LS.MQ{c:Cfg}{s:LS}:(s.next c).b=s.b:=by unfold LS.next; split <;> rfl
theorem LS.MR{c:Cfg}{vs:Str}{s:LS}:(s.acc c vs).b=s.b:=by unfold LS.acc; (repeat' split) <;> first | exact LS.MQ | rfl
theorem LS.MS{c:Cfg}{vs:Str}:∀ {n:Nat} {s:LS},(s.accs c vs n).b=s.b
 | 0,_=>rfl
 | n+1,s=>(LS.MS (n:=n) (s:=s.acc c vs)).trans LS.MR
theorem LS.esc_b{c:Cfg}{s s':LS}(e:s.esc c=some s'):s'.b=s.b:=by
 unfold LS.esc at e
 repeat' split at e
 all_goals first
  | cases e; done
  | (cases e; simp only [LS.MS,LS.MR])
theorem Ef{c:Cfg}:∀ {n:Nat} {s s':LS} {q:Nat},s.WF c→AI c n s q=.ok s'→s'.WF c∧s'.b=s.b∧s.p≤s'.p
 | 0,s,s',q,F,h=>by cases h; exact⟨F,rfl,ιR _⟩
 | n+1,s,s',q,F,h=>by
  rw [AI] at h
  split at h
  ·cases h; exact⟨F,rfl,ιR _⟩
  ·split at h
   ·cases h
   ·rename_i s1 he
    have k:s1.WF c∧s1.b=s.b∧s.p≤s1.p:=by
     split at he
     ·exact⟨LS.MJ F he,LS.esc_b he,LS.MO he⟩
     ·cases he; exact⟨F,rfl,ιR _⟩
    split at h
    ·rename_i hp
     obtain⟨a,b,d⟩:=Ef (LS.next_wf k.1) h
     have e1:(s1.next c).p=s1.p+1:=by unfold LS.next; rw [if_pos hp]
     exact⟨a,b.trans (LS.MQ.trans k.2.1),by omega⟩
    ·cases h
section
variable{w:World}{ext:Addr→Option Obj}{c:Cfg}
structure JA(c:Cfg)(ty tx:Str)(b:Nat)(ts:List Value)(e0:Nat)(s':LS)(st st':Shared):Prop where
 aft:Aft [c.tb,c.pb,c.ct,c.it,225] st st'
 tok:∃ ta dt kty kj,st.heap.objs.size≤ta∧st'.heap.get? c.tb=some (lst (ts++[.ref ta]) (e0+1))∧st'.heap.get? ta=some (oT dt ty kty tx kj (c.li b))
 own:∀ p∈s'.ents c,st'.heap.get? p.1=some p.2
 tab:∃ ps,Tab st'.heap 229 225 ps
theorem Tab.aft{h:Heap}{ps:Array Value}{st st':Shared}{D:List Addr}(T:Tab st.heap 229 225 ps)(a:Aft D st st')(h1:∀ x∈D,lkX w ext x=none)(h2:225∉D):Tab st'.heap 229 225 ps:=T.at fun q o hq e=>a.keep q o e fun hm=>by
 rcases hq with rfl | rfl
 ·have h9:(lkX w ext 229).isSome=true:=by kernel_rfl
  rw [h1 _ hm] at h9; cases h9
 ·exact h2 hm
theorem DK{s:LS}{st:Shared}{ps:Array Value}{ts:List Value}{e0:Nat}(T:Tab st.heap 229 225 ps)(own:∀ p∈s.ents c,st.heap.get? p.1=some p.2)(htb:st.heap.get? c.tb=some (lst ts e0)):225∉[c.tb,c.pb,c.ct,c.it]:=by
 have hP:st.heap.get? 225=some {cls:=.none,data:=.fields ps}:=T.tab.2
 intro hm
 have key:∀ (a:Nat) (o:Obj),225=a→st.heap.get? a=some o→o.cls≠.none→False:=fun a o e ho hc=>by
  subst e
  rw [hP] at ho
  cases ho
  exact hc rfl
 rcases ιC hm with q | hm
 ·exact key _ _ q htb (fun q=>nomatch q)
 rcases ιC hm with q | hm
 ·exact key _ _ q (own (_,_) μ0) (fun q=>nomatch q)
 rcases ιC hm with q | hm
 ·exact key _ _ q (own (_,_) μ1) (fun q=>nomatch q)
 have q:225=c.it:=by simpa using hm
 refine key _ _ q (own (_,_) μ2) ?_
 unfold JJ
 split <;> exact fun q=>nomatch q
theorem lexstr_con(W:Ae w)(O:c.Ok w ext)(hsg:∀ i,i<c.N→(c.sg i).length≤1)(h225:lkX w ext 225=none)(s:LS)(F:s.WF c)(ts:List Value)(e0:Nat)(hts:ts.length≤1000)(ps:Array Value)
  {A:Around} {st:Shared} {R:Result→Shared→Prop} {base:Heap} {outer:List Env} (hA:Ar A 500) (S:Ak w ext st) (own:∀ p∈s.ents c,st.heap.get? p.1=some p.2) (htb:st.heap.get? c.tb=some (lst ts e0)) (T:Tab st.heap 229 225 ps)
  (X:Rs c base outer A st)
  (hok:∀ s',Ct c s=.ok s'→∀ st' (v:Nat),JA c B0 (c.txt s'.b s'.p) s'.b ts e0 s'.cut st st'→R (.ok (.ret (.ref v))) st')
  (herr:∀ pl,Ct c s=.err pl→∀ e st',AF w base outer [c.pb,c.ct,c.it] (B8 c pl) st e st'→R (.error (.ref e)) st') :
  codeAny (model pr2 w) A (.call (.ref 373) ⟨[.ref c.x],[]⟩) R st:=by
 refine Dq W hA (by decide) S (by rfl) rfl (ls0_v _ _ _ _ _ c.x) fun s1 e1 A1 z1 hL S1=>?_
 generalize hLe:st.heap.objs.size=L at hL z1
 have hroom:Ar (A.deeper (Af w 373 L)) 490:=⟨hA.handled,by show A.depth+1+490<_; have:=hA.depth; exact ω04 this,by show A.units+3+_<_; have:=hA.units; exact ω05 this⟩
 have ek:(Af w 373 L).scope.kind=.function:=by kernel_rfl
 have X1:Rs c base (Af w 373 L::outer) (A.deeper (Af w 373 L)) s1:=X.enter (fr:=oFr [de w "self" st.toks (.ref c.x)] 1) own (by rw [hLe]; rfl) (by rw [ek]; decide) A1 (by rw [hLe]; exact hL) ιF
 have hLo:L∉outer.filterMap (·.frame):=fun hm=>by
  have:=DT X.ff hm
  rw [hLe] at this; exact Nat.lt_irrefl _ this
 generalize hAd:A.deeper (Af w 373 L)=Ad at hroom X1 ⊢
 have ltL:∀ {a:Addr} {o:Obj},st.heap.get? a=some o→a≠L:=fun e q=>by
  have:=ιH e
  rw [hLe,q] at this
  exact Nat.lt_irrefl _ this
 have apL:lkX w ext L=none:=by
  cases e:lkX w ext L with
  | none=>rfl
  | some o=>exact absurd rfl (ltL (S L o e))
 have own1:∀ p∈s.ents c,s1.heap.get? p.1=some p.2:=fun p hp=>A1.keep _ _ (own p hp) (fun h=>nomatch h)
 have nd4:(L::[c.pb,c.ct,c.it]).Nodup:=List.nodup_cons.mpr ⟨fun hm=>by
   have:=Ca own L hm
   rw [hLe] at this; exact Nat.lt_irrefl _ this,AY O s⟩
 have apD:∀ a∈L::[c.pb,c.ct,c.it],lkX w ext a=none:=Ab apL (fun a ha=>O.ap a (.tail _ ha))
 have hu:max Ad.units Ad.units+10*30+10*100<cLine:=by have:=hroom.units; exact ω0e this
 have hdp:max Ad.depth Ad.depth+30+100<recursionLimit:=by have:=hroom.depth; exact ω0f this
 have INV:=Inv.MH S1 (pre:=(L,oFr [de w "self" st.toks (.ref c.x)] 1)::s.ents c) (Bi O) (Aj (Bi O) rfl) (Ab hL own1) nd4 (Ab apL (AO O s))
 have low:∀ {D:List Addr} {s2:Shared},Aft (L::D) s1 s2→Aft D st s2:=fun {D s2} A2=>((A1.mono (D':=L::D) fun x h=>nomatch h).trans A2).drop fun x hx=>by
  rcases ιC hx with rfl | hx
  ·exact .inr (by rw [hLe]; exact ιR _)
  ·exact .inl hx
 rw [ls_body]
 refine Bm (Au ?_)
 by_cases hp:s.p<c.N
 ·obtain⟨g0,d0,C0⟩:=HB W O s F hp
  have ep:(s.next c).p=s.p+1:=by unfold LS.next; rw [if_pos hp]
  have Fn:=LS.next_wf F
  have hls:Ct c s=AI c (c.N+1) (s.next c) s.p:=by rw [Ct,if_pos hp]
  rw [hls] at hok herr
  refine Al (g:=Ac pr2 w Ad _ _) (Ao (t:=s1.toks) (ro:=2) W S1 hroom (by decide)) rfl
   (ls1_v _ _ _ _ _ L st.toks c.x c.dx c.tb c.pb c.ct c.co c.it (c.ci s.p) c.kt (s.o1 c) (s.o2 c) (s.o3 c) ((s.next c).o1 c) ((s.next c).o2 c) ((s.next c).o3 c) g0 d0)
   (Ab (C0.obl (is:=[3,4,5]) rfl S1.new rfl rfl rfl hdp hu) Aa) INV fun s2 I2 H2=>ιp ?_
  have A2:Aft (L::[c.pb,c.ct,c.it]) s1 s2:=I2.aft
  have own2:∀ p∈(s.next c).ents c,s2.heap.get? p.1=some p.2:=Ab (H2 _ μ1) (ζ2 (H2 _ μ2) (H2 _ μ3))
  have hL2:=H2 _ μ0
  dsimp only at hL2
  generalize s1.toks+(0+d0)=kc at hL2
  have S2:Ak w ext s2:=S1.aft A2 apD
  have X2:Rs c base (Af w 373 L::outer) Ad s2:=X1.move rfl rfl A2 (fun _ h=>h) hLo hL2 ιF
  show wpAny _ _ (execs _ _) _ _ s2
  refine wpAny_execs_cons (wpAny_While ?_)
  refine ls_loop W O hLo apL nd4 (c.N+1) (s.next c) s.p Fn hp (by rw [ep]; exact ω0n) (hroom.le (by decide)) S2 own2 hL2 X2 (fun s3 hs3 st3 v A3 own3 hL3=>?_) fun pl hpl e st3 Y=>?_
  ·-- emit
   obtain⟨F3,hb3,hp3⟩:=Ef Fn hs3
   have S3:Ak w ext st3:=S2.aft A3 apD
   have hq3:225∉L::[c.pb,c.ct,c.it]:=fun hm=>by
    rcases ιC hm with q | hm
    ·have hP:st.heap.get? 225=some {cls:=.none,data:=.fields ps}:=T.tab.2
     exact ltL hP q
    ·exact DK T own htb (.tail _ hm)
   have A13:=A2.trans A3
   have tbD:c.tb∉L::[c.pb,c.ct,c.it]:=fun hm=>by
    have:=O.nd
    rw [List.nodup_cons] at this
    rcases ιC hm with q | hm
    ·exact ltL htb q
    ·exact this.1 hm
   have T3:Tab st3.heap 229 225 ps:=Tab.aft (w:=w) (ext:=ext) (h:=st.heap) (Tab.aft (w:=w) (ext:=ext) (h:=st.heap) T A1 Aa (fun h=>nomatch h)) A13 apD hq3
   have htb3:st3.heap.get? c.tb=some (lst ts e0):=A13.keep _ _ (A1.keep _ _ htb (fun h=>nomatch h)) tbD
   refine Au ?_
   refine AG (Ao (t:=st3.toks) (ro:=2) W S3 hroom (by decide)) (ls2_v _ _ _ _ _ L st.toks kc c.x c.dx c.tb c.pb c.ct c.co c.it v c.kt) rfl
    (vs:=[]) Aa (Inv.MH S3 (pre:=[(L,lsF w c.x st.toks kc v)]) (Bi O) (Aj (Bi O) rfl) (Ab hL3 Aa) (by simp) (Ab apL Aa)) fun s4 I4 H4=>?_
   have A4:Aft [L] st3 s4:=I4.aft
   have S4:Ak w ext s4:=S3.aft A4 (Ab apL Aa)
   have hL4:=H4 _ μ0
   dsimp only at hL4
   have nL:∀ {a:Addr} {o:Obj},st.heap.get? a=some o→a∉[L]:=fun e q=>ltL e (by simpa using q)
   have own4:∀ p∈s3.ents c,s4.heap.get? p.1=some p.2:=fun p hp=>A4.keep _ _ (own3 p hp) fun q=>by
    have q:p.1=L:=by simpa using q
    have hm:p.1∈[c.pb,c.ct,c.it]:=by
     have:p.1∈(s3.ents c).map (·.1):=List.mem_map_of_mem hp
     exact this
    have:=Ca own _ hm
    rw [q,hLe] at this
    exact Nat.lt_irrefl _ this
   refine Hs W O (b:=s3.b) (p:=s3.p) (by rw [hb3,LS.MQ]; have:=F.bp; exact ω0o ep hp3 this) F3.pn hsg h225 B0 _ ts e0 s3.e2 hts ps (hroom.le (by decide)) S4 (A4.keep _ _ htb3 (nL htb)) (own4 _ μ1)
    (Tab.aft (w:=w) (ext:=ext) (h:=st.heap) T3 A4 (Ab apL Aa) (nL T.tab.2)) fun s5 Em=>?_
   have ndt:∀ a∈[c.tb,c.ct,225],a≠L:=fun a ha=>by
    rcases ιC ha with rfl | ha
    ·exact ltL htb
    rcases ιC ha with rfl | ha
    ·exact ltL (own (c.ct,_) μ1)
    ·obtain rfl:a=225:=by simpa using ha
     have hP:st.heap.get? 225=some {cls:=.none,data:=.fields ps}:=T.tab.2
     exact ltL hP
   have hL5:s5.heap.get? L=some (lsF w c.x st.toks kc v):=Em.aft.keep _ _ hL4 fun q=>ndt _ q rfl
   have S5:Ak w ext s5:=S4.aft Em.aft (ζ3 (O.ap _ μ0) (O.ap _ μ2) h225)
   refine Al (g:=Ac pr2 w Ad _ _) (Ao (t:=s5.toks) (ro:=2) W S5 hroom (by decide)) rfl
    (ls3_v _ _ _ _ _ L st.toks kc c.x c.dx c.tb c.pb c.ct c.co c.it v c.kt s5.heap.objs.size s5.toks v)
    (vs:=[]) Aa (Inv.MH S5 (pre:=[(L,lsF w c.x st.toks kc v)]) (Bi O) (Aj (Bi O) rfl) (Ab hL5 Aa) (by simp) (Ab apL Aa)) fun s6 I6 H6=>ιp ?_
   have A6:Aft [L] s5 s6:=I6.aft
   obtain⟨em1,⟨ta,dt,kj,t1,t2,t3⟩,em3,more,em4⟩:=Em
   have low6:Aft [c.tb,c.pb,c.ct,c.it,225] st s6:=by
    refine low (D:=[c.tb,c.pb,c.ct,c.it,225]) ?_
    exact(A13.mono (ζ4 μ0 μ2 μ3 μ4)).trans ((A4.mono (Ab μ0 Aa)).trans ((em1.mono (ζ3 μ1 μ3 μ5)).trans (A6.mono (Ab μ0 Aa))))
   have zs:L≤s4.heap.objs.size:=by
    rw [←hLe]; exact ιT A1.size (ιT A13.size A4.size)
   have n5:∀ (a:Addr),a≠L→a∉[L]:=fun a h q=>h (by simpa using q)
   have hct5:=em3
   refine hok s3 hs3 s6 _ ⟨low6,⟨ta,dt,_,kj,by rw [hLe]; exact ιT zs t1,A6.keep _ _ t2 (n5 _ (ltL htb)),A6.keep _ _ t3 (n5 _ fun q=>?_)⟩,?_,ps++more,Tab.aft (w:=w) (ext:=ext) (h:=st.heap) em4 A6 (Ab apL Aa) (nL T.tab.2)⟩
   ·have:=ιH hL4
    rw [q] at t1
    exact Nat.lt_irrefl _ (ιL this t1)
   ·have keep6:∀ (a:Addr) (o:Obj),a∈[c.pb,c.it]→s4.heap.get? a=some o→s6.heap.get? a=some o:=fun a o ha e=>by
     have ha3:a∈[c.pb,c.ct,c.it]:=by
      rcases ιC ha with rfl | ha
      ·exact .head _
      ·obtain rfl:a=c.it:=by simpa using ha
       exact .tail _ μ1
     have haL:a≠L:=fun q=>by
      have:=Ca own _ ha3
      rw [q,hLe] at this; exact Nat.lt_irrefl _ this
     refine A6.keep _ _ (em1.keep _ _ e fun q=>?_) (n5 _ haL)
     have nd:=O.nd
     replace nd:=ω9i.1 nd
     have h225':=DK T own htb
     simp only [List.mem_cons,List.not_mem_nil,or_false,not_or] at h225' q ha
     rcases ha with rfl | rfl <;> rcases q with q | q | q
     ·exact nd.1.1 q.symm
     ·exact nd.2.1.1 q
     ·exact h225'.2.1 q.symm
     ·exact nd.1.2.2 q.symm
     ·exact nd.2.2.1 q.symm
     ·exact h225'.2.2.2 q.symm
    have hseg:c.seg s3.p s3.p=[]:=by unfold Cfg.seg; simp
    refine Ab (keep6 _ _ μ0 (own4 _ μ0)) (ζ2 ?_ (keep6 _ _ μ1 (own4 _ μ2)))
    show s6.heap.get? c.ct=some (lst (c.seg s3.p s3.p) (s3.e2+1))
    rw [hseg]
    exact A6.keep _ _ hct5 (n5 _ (ltL (own (c.ct,_) μ1)))
  ·-- refused within
   refine Bs.back (L:=L) Y rfl fun s4 Z=>?_
   refine Bs.ML (L:=L) rfl Z (.inl μ0) fun s5 V=>herr pl hpl e s5 ?_
   have big:Aft [c.pb,c.ct,c.it] st s2:=low A2
   exact AF.from big V fun x hx=>by
    rcases ιC hx with rfl | hx
    ·exact .inr (by rw [hLe]; exact ιR _)
    ·exact .inl hx
 ·have hls:Ct c s=.err none:=by rw [Ct,if_neg hp]
  refine AG (Ao (t:=s1.toks) (ro:=2) W S1 hroom (by decide))
   (ls1e_v _ _ _ _ _ L st.toks c.x c.dx c.tb c.pb c.ct c.co c.it c.kt (s.o1 c) (s.o2 c) (s.o3 c)) rfl
   (vs:=[]) Aa INV fun s2 I2 H2=>?_
  have A2:Aft (L::[c.pb,c.ct,c.it]) s1 s2:=I2.aft
  have own2:∀ p∈s.ents c,s2.heap.get? p.1=some p.2:=Ab (H2 _ μ1) (ζ2 (H2 _ μ2) (H2 _ μ3))
  have X2:Rs c base (Af w 373 L::outer) Ad s2:=X1.move rfl rfl A2 (fun _ h=>h) hLo (H2 _ μ0) ιF
  refine GG W O s F hp (hroom.le (by decide)) (S1.aft A2 apD) own2 X2 fun e st' Y=>?_
  rw [ls1e_k]
  refine wpAny_throw ?_
  show wpAny _ _ (leaving (Af w 373 L) (.ref e)) _ _ _
  have Y':AF w base (Af w 373 L::outer) [c.pb,c.ct,c.it] .none st e st':=AF.from (low A2) Y fun x hx=>.inl hx
  exact Y'.leave (L:=L) X2.frames rfl (.inr (by rw [hLe]; exact ιR _)) fun s3 Z=>herr none hls e s3 Z
end
noncomputable def Ai(w:World)(L cx cy cz:Nat):Env:=FR (B5 (lk w 523)) 523 L [("stop",cz),("start",cy),("lexer",cx)]
noncomputable abbrev An(v:Option Value):Obj:=⟨.type "cell",none,.cell v,#[]⟩
noncomputable abbrev ET(w:World)(k:Nat→Nat)(v:Nat→Value):Obj:=oFr [de w "script" (k 0) (v 0),de w "tape" (k 1) (v 1),de w "head" (k 2) (v 2),de w "pieces" (k 3) (v 3),de w "spots" (k 5) (v 5),de w "chars" (k 4) (v 4),de w "row" (k 6) (v 6),de w "piece" (k 7) (v 7),de w "column" (k 8) (v 8),de w "sign" (k 9) (v 9)] 10
noncomputable def Bp(w:World)(i n:Nat):List Stmt:=((A0 w 523).drop i).take n
noncomputable def ob(w:World)(a:Nat):Obj:=(lk w a).getD default
noncomputable def GL(o:Obj):Array Value:=match o.data with | .fields vs=>vs | _=>#[]
noncomputable def strP(v:Option Value):Str:=match v with | some (.str s _)=>s | _=>⟨#[]⟩
noncomputable def tokP(v:Option Value):Nat:=match v with | some (.str _ t)=>t | _=>0
noncomputable abbrev CG(env:Env)(x:Str):Sem PySem.Fin:=PySem.W.R.bindR (PySem.W.Fast.tw8468629109055619292 env x) fun v=>.pure (.done (.ret v))
theorem loadNameT_eq(env:Env)(x:Str):CG env x=(loadName env x >>= fun v=>pure (.done (.ret v))):=by
 unfold CG
 rw [←PySem.W.R.bindR_eq,←PySem.W.Fast.te8468629109055619292]
 rfl
theorem Dm{M:Model}{A:Around}{env:Env}{x:Str}{Q:Value→Shared→Prop}{s:Shared}(h:wpAny M A (CG env x) (Jv Q) E s):wpAny M A (loadName env x) Q E s:=by
 refine CB ?_
 rw [←loadNameT_eq]
 exact h
noncomputable abbrev IB(f:Value)(args:List Value):Sem PySem.Fin:=PySem.W.R.bindR (PySem.W.Fast.tw11478286150595567475 f args) fun v=>.pure (.done (.ret v))
theorem callT_eq(f:Value)(args:List Value):IB f args=(call f args >>= fun v=>pure (.done (.ret v))):=by
 unfold IB
 rw [←PySem.W.R.bindR_eq,←PySem.W.Fast.te11478286150595567475]
 rfl
theorem of_callT{M:Model}{A:Around}{f:Value}{args:List Value}{Q:Value→Shared→Prop}{s:Shared}(h:wpAny M A (IB f args) (Jv Q) E s):wpAny M A (call f args) Q E s:=by
 refine CB ?_
 rw [←callT_eq]
 exact h
noncomputable def clsP(o:Obj):ClassData:=match o.data with | .cls c=>c | _=>default
noncomputable def Iv(o:Expr)(name:Str)(apos pos:Pos)(env:Env)(ov:Value)(args:List Expr)(kws:List Keyword):Sem PySem.Fin:=
 PySem.W.R.bindR (PySem.W.Fast.tw13401596951702201221 o name apos pos env ov (args.length+kws.length) (PySem.W.Fast.tw4897270859577272712 pos (PySem.W.Fast.tw13897175071876407860 args env)) (PySem.W.Fast.tw621762911399731506 pos (PySem.W.Fast.tw11621922129505618389 kws env))) fun v=>.pure (.done (.ret v))
theorem methT_eq(o:Expr)(name:Str)(apos pos:Pos)(env:Env)(ov:Value)(args:List Expr)(kws:List Keyword) :
  Iv o name apos pos env ov args kws=(methodCall o name apos pos env ov (args.length+kws.length) (backTo pos (starEach args env)) (backToKw pos (keywordEach kws env)) >>= fun v=>pure (.done (.ret v))):=by
 unfold Iv
 rw [←PySem.W.R.bindR_eq,←PySem.W.Fast.te13401596951702201221,←PySem.W.Fast.te4897270859577272712,←PySem.W.Fast.te13897175071876407860,←PySem.W.Fast.te621762911399731506,←PySem.W.Fast.te11621922129505618389]
 rfl
theorem wpAt_method{prog:Program}{w:World}{A:Around}{c:Code}{s:Shared}{env:Env}{o:Expr}{name:Str}{apos pos:Pos}{args:List Expr}{kws:List Keyword}{Q:Value→Shared→Prop}
  (h:PySem.wpAt (model prog w) A c (attributeBase o name env (eval o env)) (fun ov s₁=>wpAny (model prog w) A (Iv o name apos pos env ov args kws) (Jv Q) E s₁) E s):PySem.wpAt (model prog w) A c (eval (.Call (.Attribute o name apos) args kws pos) env) Q E s:=by
 have he:eval (.Call (.Attribute o name apos) args kws pos) env=(do
   let ov←attributeBase o name env (eval o env)
   standAt apos.atName
   methodCall o name apos pos env ov (args.length+kws.length) (backTo pos (starEach args env)) (backToKw pos (keywordEach kws env))):=rfl
 rw [he]
 refine PySem.wpAt_bind (PySem.wpAt_mono h (fun ov s₁ h₁=>PySem.wpAt_of_wpAny (wpAny_bind (wpAny_standAt (CB ?_)))) fun _ _ x=>x)
 rw [←methT_eq]
 exact h₁
noncomputable abbrev Jm(D x C:Nat):Obj:=⟨.type "super",none,.fields #[.ref D,.ref x,.ref C],#[]⟩
noncomputable def EY(w:World)(L:Nat):Env:=FR (B5 (lk w 295)) 295 L [(⟨#[95,95,99,108,97,115,115,95,95]⟩,283)]
structure Hy where
 sp:Str
 p0:Pos
 p1:Pos
 nm:Str
 ap:Pos
 args:List Expr
 kws:List Keyword
 pos:Pos
 p3:Pos
noncomputable def supParts(s:Option Stmt):Hy:=match s with
 | some (.Expr (.Call (.Attribute (.Call (.Name x p0) [] [] p1) nm ap) args kws p2) p3)=>⟨x,p0,p1,nm,ap,args,kws,p2,p3⟩
 | _=>⟨⟨#[]⟩,default,default,⟨#[]⟩,default,[],[],default,default⟩
noncomputable def ckP(w:World):Hy:=supParts (A0 w 295)[0]?
noncomputable def MA(w:World):List Stmt:=(A0 w 295).drop 1
theorem ck_body(w:World):A0 w 295=.Expr (.Call (.Attribute (.Call (.Name "super" (ckP w).p0) [] [] (ckP w).p1) (ckP w).nm (ckP w).ap) (ckP w).args (ckP w).kws (ckP w).pos) (ckP w).p3::MA w:=by kernel_rfl
noncomputable def ckMeth(w:World)(L so:Nat):Sem PySem.Fin:=Iv (.Call (.Name "super" (ckP w).p0) [] [] (ckP w).p1) (ckP w).nm (ckP w).ap (ckP w).pos (EY w L) (.ref so) (ckP w).args (ckP w).kws
noncomputable abbrev AU(es:List DictEntry)(k:Nat):Obj:=⟨.type "dict",none,.dict ⟨es⟩ k,#[]⟩
section
variable(w:World)(f:Fl)(ext:Addr→Option Obj)(n t L kl kc x dx co so:Nat)(k0 k1 k2 tb pb ct:Nat)
def ck0:Res:=
 run (P2 w f ext n t 0) 20 [1,1,1,1] [] [] 0 0 .tree
  (ent w ext 295 [.ref x,.ref co]) [] [] []
theorem ck0_v:RvD (ck0 w f ext n t x co) [0] (.again (.func (A0 w 295) (EY w n))) 1 1 2 [some (n,oFr [de w "self" t (.ref x),de w "coptions" (t+1) (.ref co)] 2)] []:=by kernel_rfl
def ck1:Res:=
 run (P3 w f ext n t 0) 13 [0,0] [] [(L,oFr [de w "self" kl (.ref x),de w "coptions" kc (.ref co)] 2)] 0 0 .tree
  (CG (EY w L) "super") [] [] []
theorem ck1_v:RvD (ck1 w f ext n t L kl kc x co) [0] (.done (.ok (.ret (.type "super")))) 1 0 0 [some (L,oFr [de w "self" kl (.ref x),de w "coptions" kc (.ref co)] 2)] []:=by kernel_rfl
def ck2:Res:=
 run (P3 w f ext n t 0) 12 [0] [] [(L,oFr [de w "self" kl (.ref x),de w "coptions" kc (.ref co)] 2)] 0 0 .tree
  (CG (EY w L) "__class__") [] [] []
theorem ck2_v:RvD (ck2 w f ext n t L kl kc x co) [0] (.done (.ok (.ret (.ref 390)))) 1 0 0 [some (L,oFr [de w "self" kl (.ref x),de w "coptions" kc (.ref co)] 2)] []:=by kernel_rfl
def ck3:Res:=
 run (P3 w f ext n t 0) 12 [1] [] [(L,oFr [de w "self" kl (.ref x),de w "coptions" kc (.ref co)] 2)] 0 0 .tree
  (CG (EY w L) "self") [] [] []
theorem ck3_v:RvD (ck3 w f ext n t L kl kc x co) [0] (.done (.ok (.ret (.ref x)))) 1 0 0 [some (L,oFr [de w "self" kl (.ref x),de w "coptions" kc (.ref co)] 2)] []:=by kernel_rfl
def ck4:Res:=
 run (P4 w f ext n t 0) 148 (ιx 96 0x444010000010100100000016444010000010100100000016444010000010100100000016066350050000000022202022) [] [((x+524),oX dx),(so,Jm 390 (x+524) 390),(L,oFr [de w "self" kl (.ref (x+524)),de w "coptions" kc (.ref co)] 2),(dx,AU [] 0)] 0 0 .tree
  (ckMeth w L so) [] [] []
theorem ck4_v:RvD (ck4 w f ext n t L kl kc x dx co so) [0,2,3,6,7,8] (.done (.ok (.ret .none))) 1 5 8 [some ((x+524),oX dx),some (L,oFr [de w "self" kl (.ref (x+524)),de w "coptions" kc (.ref co)] 2),some (dx,AU [de w "token_buffer" (t+3) (.ref (n+2)),de w "pushed_back" (t+5) (.ref (n+3)),de w "current_text" (t+7) (.ref (n+4))] 3),some (n+2,lst [] 0),some (n+3,lst [] 0),some (n+4,lst [] 0)] []:=by kernel_rfl
def ck5:Res:=
 run (P4 w f ext n t 0) 45 (ιx 25 0x3330100000101001000000122) [] [(x,oX dx),(L,oFr [de w "self" kl (.ref x),de w "coptions" kc (.ref co)] 2),(dx,AU [de w "token_buffer" k0 (.ref tb),de w "pushed_back" k1 (.ref pb),de w "current_text" k2 (.ref ct)] 3)] 0 0 .tree
  (Az (MA w) (EY w L)) [] [] []
theorem ck5_v:RvD (ck5 w f ext n t L kl kc x dx co k0 k1 k2 tb pb ct) [0,2] (.done (.ok .next)) 1 0 2 [some (x,oX dx),some (dx,AU [de w "token_buffer" k0 (.ref tb),de w "pushed_back" k1 (.ref pb),de w "current_text" k2 (.ref ct),de w "coptions" (t+1) (.ref co)] 4)] []:=by kernel_rfl
def ck6:Res:=
 run (P4 w f ext n t 0) 35 (ιx 20 0x22222201100202200000) [] [((x+524),oX dx)] 0 0 .tree
  (IB (.type "super") [.ref 390,.ref (x+524)]) [] [] []
theorem ck6_v:RvD (ck6 w f ext n t x dx) [0,1] (.done (.ok (.ret (.ref n)))) 1 1 0 [some ((x+524),oX dx),some (n,Jm 390 (x+524) 390)] []:=by kernel_rfl
end
theorem Aft.unmark{D:List Addr}{x:Addr}{s s':Shared}(a:Aft (x::D) s s')(h:∀ o,s.heap.get? x=some o→s'.heap.get? x=some o):Aft D s s':=⟨a.same,a.gens,fun b o e hb=>by
 by_cases q:b=x
 ·subst q; exact h o e
 ·exact a.keep b o e fun hm=>by
   rcases ιC hm with r | r
   ·exact q r
   ·exact hb r,a.size⟩
section
variable{w:World}{ext:Addr→Option Obj}
theorem enter_funcAt(W:Ae w){f:Nat}{args:Args}{A:Around}{st:Shared}{d:Nat}(hA:Ar A d)(hd:60≤d)(S:Ak w ext st)(hf:HI f=true){fuel:Nat}{hs:List Nat}{U V:Nat}{body env dep envs hdd k fr}{R0:Res}
  (hR:run (P2 w (Ax w) ext st.heap.objs.size st.toks 0) fuel hs [] [] 0 0 .tree (BB (B5 (lkX w ext f)) f args) [] [] []=R0)
  (hv:R0.rv U V [0]=⟨R0.exp,.again (.func body env),1,dep,envs,hdd,1,k,[some (st.heap.objs.size,fr)],([]:List Sp).map Sp.view,true⟩)
  (h:∀ s1,s1={st with heap:=s1.heap,toks:=st.toks+k}→Aft [] st s1→s1.heap.objs.size=st.heap.objs.size+1→s1.heap.get? st.heap.objs.size=some fr→Ak w ext s1→
   PySem.wpAt (model pr2 w) (A.deeper env) (.func body env) (execs body env) (fun f s'=>R (.ok (.ret (match f with | .ret v=>v | _=>.none))) s') (fun e s'=>wpAny (model pr2 w) (A.deeper env) (leaving env e) (fun _ s''=>R (.error e) s'') (fun e' s''=>R (.error e') s'') s') s1) :
  codeAny (model pr2 w) A (.call (.ref f) args) R st:=by
 refine Bv S (BA w ext f hf) (by have:=hA.depth; exact ωt this) ?_
 refine AR (BC (t:=st.toks) (ro:=0) W S hA hd) hR hv (vs:=[]) Aa
  (Inv.MH S (reads:=[]) (pre:=[]) Aa ιN Aa ιN Aa) fun s1 I1 H1=>?_
 have S1:Ak w ext s1:=I1.stat
 refine ιp ⟨W.nolimit _ fun a o e=>S1 a o (by show(match lk w a with | some o=>some o | none=>ext a)=_; rw [e]),rfl,ks_codeAny_funcAt (h s1 ?_ I1.aft I1.size (H1 _ μ0) S1)⟩
 have h1:=I1.same
 have h2:s1.toks=st.toks+k:=I1.toks
 generalize s1.heap=hh at h1
 rw [h2] at h1
 subst h1; rfl
theorem Ip(w:World)(ext)(a:Nat)(h:(lk w a).isSome=true):lkX w ext a=some (ob w a):=by
 unfold lkX ob
 cases q:lk w a with
 | none=>rw [q] at h; cases h
 | some o=>rfl
theorem cl_init(W:Ae w){x dx co:Nat}(hx5:524≤x){A:Around}{st:Shared}(hA:Ar A 200)(S:Ak w ext st)(hx:st.heap.get? x=some (oX dx))(hdx:st.heap.get? dx=some (AU [] 0))(apx:lkX w ext x=none)(apd:lkX w ext dx=none)
  (hR:∀ st' tb pb ct k0 k1 k2 k3,Aft [dx] st st'→st.heap.objs.size≤tb→tb<pb→pb<ct→st'.heap.get? dx=some (AU [de w "token_buffer" k0 (.ref tb),de w "pushed_back" k1 (.ref pb),de w "current_text" k2 (.ref ct),de w "coptions" k3 (.ref co)] 4)→
   st'.heap.get? tb=some (lst [] 0)→st'.heap.get? pb=some (lst [] 0)→st'.heap.get? ct=some (lst [] 0)→R (.ok (.ret .none)) st') :
  codeAny (model pr2 w) A (.call (.ref 295) ⟨[.ref x,.ref co],[]⟩) R st:=by
 refine enter_funcAt W hA (by decide) S (by rfl) rfl (ck0_v _ _ _ _ _ x co) fun s1 e1 A1 z1 hL S1=>?_
 generalize hLe:st.heap.objs.size=L at hL z1
 have hroom:Ar (A.deeper (EY w L)) 190:=⟨hA.handled,by show A.depth+1+190<_; have:=hA.depth; exact ω04 this,by show A.units+3+_<_; have:=hA.units; exact ω05 this⟩
 have ltL:∀ {a:Addr} {o:Obj},st.heap.get? a=some o→a≠L:=fun e q=>by
  have:=ιH e
  rw [hLe,q] at this
  exact Nat.lt_irrefl _ this
 have apL:lkX w ext L=none:=by
  cases e:lkX w ext L with
  | none=>rfl
  | some o=>exact absurd rfl (ltL (S L o e))
 have nxd:x≠dx:=fun q=>by
  rw [q,hdx] at hx; cases hx
 obtain⟨cc,cd,fd,sl,ef,_,_,_,_⟩:=Db (look:=lkX w ext) (h:=s1.heap) S1 (BA w ext 295 (by rfl))
 have efd:B5 (lkX w ext 295)=fd:=by rw [ef]; rfl
 have eqd:B5 (lkX w ext 295)=B5 (lk w 295):=by kernel_rfl
 rw [eqd] at efd
 rw [ck_body]
 refine ks_wpAt_execs_cons (ks_wpAt_Expr_any (wpAt_method ?_) (by kernel_rfl) (by kernel_rfl))
 generalize hAd:A.deeper (EY w L)=Ad at hroom ⊢
 have JI:(ob w 294).data=.fields (GL (ob w 294)):=by kernel_rfl
 have v294:(GL (ob w 294))[2]? = some (.str (strP (GL (ob w 294))[2]?) (tokP (GL (ob w 294))[2]?)):=by kernel_rfl
 have I0:=Inv.MH S1 (reads:=[]) (pre:=[(L,oFr [de w "self" st.toks (.ref x),de w "coptions" (st.toks+1) (.ref co)] 2)]) Aa ιN (Ab hL Aa) (by simp) (Ab apL Aa)
 refine ks_wpAt_super_base (cc:=294) (f:=295) (fd:=B5 (lk w 295)) (ar:=((B5 (lk w 295)).params.args.head?).getD default) (by kernel_rfl) (by kernel_rfl) (by kernel_rfl) rfl (S1 _ _ ef) (by rw [efd]) (by kernel_rfl) (by kernel_rfl) (S1 _ _ (Ip w ext 294 (by kernel_rfl))) JI v294 (by kernel_rfl) (by kernel_rfl) ?_
 refine Dm ?_
 refine Al (g:=Ac pr2 w Ad _ _) (Ei (t:=s1.toks) (ro:=0) W S1 hroom.handled) rfl (ck1_v _ _ _ _ _ L st.toks (st.toks+1) x co) (vs:=[]) Aa I0 fun s2 I2 H2=>ιp ⟨rfl,?_⟩
 have A2:Aft [L] s1 s2:=I2.aft
 have S2:Ak w ext s2:=S1.aft A2 (Ab apL Aa)
 have hL2:=H2 _ μ0
 refine Dm ?_
 refine Al (g:=Ac pr2 w Ad _ _) (Ei (t:=s2.toks) (ro:=0) W S2 hroom.handled) rfl (ck2_v _ _ _ _ _ L st.toks (st.toks+1) x co) (vs:=[]) Aa
  (Inv.MH S2 (reads:=[]) (pre:=[(L,oFr [de w "self" st.toks (.ref x),de w "coptions" (st.toks+1) (.ref co)] 2)]) Aa ιN (Ab hL2 Aa) (by simp) (Ab apL Aa)) fun s3 I3 H3=>ιp ?_
 have A3:Aft [L] s2 s3:=I3.aft
 have S3:Ak w ext s3:=S2.aft A3 (Ab apL Aa)
 have hL3:=H3 _ μ0
 show wpAny _ _ (loadName _ _) _ _ s3
 rw [show(((B5 (lk w 295)).params.args.head?).getD default).arg=("self" : Str) from by kernel_rfl]
 refine Dm ?_
 refine Al (g:=Ac pr2 w Ad _ _) (Ei (t:=s3.toks) (ro:=0) W S3 hroom.handled) rfl (ck3_v _ _ _ _ _ L st.toks (st.toks+1) x co) (vs:=[]) Aa
  (Inv.MH S3 (reads:=[]) (pre:=[(L,oFr [de w "self" st.toks (.ref x),de w "coptions" (st.toks+1) (.ref co)] 2)]) Aa ιN (Ab hL3 Aa) (by simp) (Ab apL Aa)) fun s4 I4 H4=>ιp ?_
 have A4:Aft [L] s3 s4:=I4.aft
 have S4:Ak w ext s4:=S3.aft A4 (Ab apL Aa)
 have hL4:=H4 _ μ0
 dsimp only at hL4
 have d390:(ob w 390).data=.cls (clsP (ob w 390)):=by kernel_rfl
 refine ks_wpAny_isType_cls (h:=s4.heap) (g:=s4.gens) (d:=s4.drawn) (t:=s4.toks) (os:=s4.os) (S4 _ _ (Ip w ext 390 (by kernel_rfl))) d390 ?_
 refine⟨rfl,?_⟩
 show wpAny _ _ (call _ _) _ _ s4
 obtain⟨y,rfl⟩:∃ y,x=y+524:=⟨x-524,ω0p hx5⟩
 have A14:Aft [L] s1 s4:=A2.trans (A3.trans A4)
 have n1:∀ {a:Addr} {o:Obj},st.heap.get? a=some o→a∉[L]:=fun e q=>ltL e (by simpa using q)
 have k4:∀ {a:Addr} {o:Obj},st.heap.get? a=some o→s4.heap.get? a=some o:=fun e=>A14.keep _ _ (A1.keep _ _ e fun h=>nomatch h) (n1 e)
 refine of_callT ?_
 refine uL W S4 hroom rfl (ck6_v _ _ _ _ _ y dx) Aa (Ab (k4 hx) Aa) (by simp) (Ab apx Aa) fun s5 I5 H5=>ιp ?_
 have hx5:=H5 _ μ0
 have A5:Aft [] s4 s5:=Aft.unmark (D:=[]) I5.aft fun o e=>by
  rw [k4 hx] at e; cases e; exact hx5
 have hso:=H5 _ μ1
 dsimp only at hso hx5
 generalize hse:s4.heap.objs.size=so at hso
 have S5:Ak w ext s5:=S4.aft A5 Aa
 have nso:∀ {a:Addr} {o:Obj},s4.heap.get? a=some o→a≠so:=fun e q=>by
  have:=ιH e
  rw [hse,q] at this
  exact Nat.lt_irrefl _ this
 have apso:lkX w ext so=none:=by
  cases e:lkX w ext so with
  | none=>rfl
  | some o=>exact absurd rfl (nso (S4 so o e))
 have hL5:=A5.keep _ _ hL4 (fun h=>nomatch h)
 have hdx5:=A5.keep _ _ (k4 hdx) (fun h=>nomatch h)
 have nd4:[y+524,so,L,dx].Nodup:=by
  refine ω9i.2 ?_
  exact⟨⟨nso (k4 hx),ltL hx,nxd⟩,⟨(nso hL4).symm,(nso (k4 hdx)).symm⟩,(ltL hdx).symm,not_false,ιN⟩
 refine uL W S5 hroom rfl (ck4_v _ _ _ _ _ L st.toks (st.toks+1) y dx co so) Aa (ζ4 hx5 hso hL5 hdx5) nd4 (ζ4 apx apso apL apd) fun s6 I6 H6=>ιp ?_
 have hx6:=H6 _ μ0
 have hL6:=H6 _ μ1
 have hd6:=H6 _ μ2
 have ht6:=H6 _ μ3
 have hp6:=H6 _ μ4
 have hc6:=H6 _ μ5
 dsimp only at hx6 hL6 hd6 ht6 hp6 hc6
 have A6:Aft [y+524,so,L,dx] s5 s6:=I6.aft
 have S6:Ak w ext s6:=S5.aft A6 (ζ4 apx apso apL apd)
 refine wpAt_of_wpAny (Au ?_)
 have nd3:[y+524,L,dx].Nodup:=by
  replace nd4:=ω9i.1 nd4; refine ω9j.2 ?_
  exact⟨⟨nd4.1.2.1,nd4.1.2.2⟩,nd4.2.2.1,not_false,ιN⟩
 refine uL W S6 hroom rfl (ck5_v _ _ _ _ _ L st.toks (st.toks+1) (y+524) dx co (s5.toks+3) (s5.toks+5) (s5.toks+7) (s5.heap.objs.size+2) (s5.heap.objs.size+3) (s5.heap.objs.size+4)) Aa (ζ3 hx6 hL6 hd6) nd3 (ζ3 apx apL apd) fun s7 I7 H7=>ιp ?_
 have A7:Aft [y+524,L,dx] s6 s7:=I7.aft
 have big0:Aft [y+524,so,L,dx] st s7:=(A1.mono fun x h=>nomatch h).trans ((A14.mono (Ab μ2 Aa)).trans ((A5.mono fun x h=>nomatch h).trans (A6.trans (A7.mono (ζ3 μ0 μ2 μ3)))))
 have lso:st.heap.objs.size≤so:=by rw [←hse]; exact ιT A1.size A14.size
 have big:Aft [y+524,dx] st s7:=big0.drop fun a ha=>by
  simp only [List.mem_cons,List.not_mem_nil,or_false] at ha ⊢
  rcases ha with rfl | rfl | rfl | rfl
  ·exact .inl (.inl rfl)
  ·exact .inr lso
  ·exact .inr (by rw [hLe]; exact ιR _)
  ·exact .inl (.inr rfl)
 have z5:∀ i,st.heap.objs.size≤s5.heap.objs.size+i:=fun i=>ιT (ιT A1.size (ιT A14.size A5.size)) (ιA _ _)
 have n7:∀ i,s5.heap.objs.size+i∉[y+524,L,dx]:=fun i hm=>by
  have l5:∀ {a:Addr} {o:Obj},s5.heap.get? a=some o→a≠s5.heap.objs.size+i:=fun e q=>by
   have:=ιH e
   rw [q] at this
   exact Nat.lt_irrefl _ (Nat.lt_of_le_of_lt (ιA _ _) this)
  replace hm:=ω9k hm
  rcases hm with q | q | q
  ·exact l5 hx5 q.symm
  ·exact l5 hL5 q.symm
  ·exact l5 hdx5 q.symm
 refine hR s7 _ _ _ _ _ _ _ (big.unmark fun o e=>by
  rw [hx] at e; cases e; exact H7 _ μ0) (z5 2) (ω0q) (ω0q) (H7 _ μ1) (A7.keep _ _ ht6 (n7 2)) (A7.keep _ _ hp6 (n7 3)) (A7.keep _ _ hc6 (n7 4))
end
noncomputable abbrev oO(d:Nat):Obj:=⟨.ref 458,some d,.plain,#[]⟩
section
variable(w:World)(f:Fl)(ext:Addr→Option Obj)(n t L cx cy cz:Nat)(k:Nat→Nat)(v:Nat→Value)
def la1:Res:=
 run (P4 w f ext n t 0) 553 [0,0,0,0,0,0,0,0,0,0,0,0,0,0,0,0,0,0,0,0,0,0,0,0,0,0,0,0,0,0,7,0,7,0,0,0,0,3,8,8,0,8,7,0,0,0,0,7,0,0,7,0,7,0,0,0,7,0,6,6,6,8,7,0,0,0,0,7,0,0,7,0,7,0,0,0,7,0,6,6,6,8,7,0,0,0,0,7,0,0,7,0,7,0,0,0,7,0,6,6,6,8,7,0,0,0,0,7,0,0,7,0,7,0,0,0,7,0,6,6,6,8,7,0,0,0,7,0,0,0,7,0,0,0,0,7,6,0,3,13,13,13,13,0,13,7,0,0,0,0,7,0,0,0,7,7,0,6,13,9,9,0,9,0,9,0,0,9,9,9,9,8,7,0,0,0,7,0,0,0,7,0,0,0,0,7,6,0,3,14,14,14,14,14,14,0,14,14,7,0,0,0,0,7,0,0,0,7,7,0,6,14,9,9,0,9,0,9,0,0,9,9,9,9,8,7,0,0,0,7,0,0,0,7,0,0,0,0,7,6,0,3,15,15,15,15,0,15,7,0,0,0,0,7,0,0,0,7,7,0,6,15,9,9,0,9,0,9,0,0,9,9,9,9,8,7,0,0,0,7,0,0,0,7,0,0,0,0,7,6,0,3,16,16,16,16,0,16,7,0,0,0,0,7,0,0,0,7,7,0,6,16,9,9,0,9,0,9,0,0,9,9,9,9,0,0,0,0,0,0,0,0,0,0,0,0,0,0,0,0,0,0,0,0,0,0,0,0,0,0,0,0,0,0,0,0,0,18,0,18,0,0,0,0,1] [] [(L,ET w k v),(cx,An none),(cy,An none),(cz,An none),(520,oP [])] 0 0 .tree
  (Az (Bp w 5 4) (Ai w L cx cy cz)) [] [] []
theorem la1_v:(la1 w f ext n t L cx cy cz k v).rv 30 30 [0,1,2,3,4,6,16,17]=⟨(la1 w f ext n t L cx cy cz k v).exp,.call (.call (.ref 295) ⟨[.ref (n+12),.ref (n+1)],[]⟩),2,AX (la1 w f ext n t L cx cy cz k v).ko,[],none,13,31,
   [some (L,ET w k v),some (cx,An none),some (cy,An none),some (cz,An none),some (520,oP []),some (n+1,oO n),some (n+11,AU [] 0),some (n+12,oX (n+11))],([]:List Sp).map Sp.view,true⟩:=by rcases f with⟨_ | _,_,_⟩ <;> kernel_rfl
end
structure Le where
 args:Arguments
 body:List Stmt
 scope:Scope
noncomputable def M7(s:Option Stmt):Le:=match s with
 | some (.FunctionDef _ a b _ _ _ sc _ _ _)=>⟨a,b,sc⟩
 | _=>⟨default,[],{kind:=.function,names:=[],isGenerator:=false,isCoroutine:=false}⟩
noncomputable def Jf(w:World):Le:=M7 (A0 w 523)[6]?
noncomputable def G8(w:World):Le:=M7 (A0 w 523)[7]?
noncomputable abbrev HT:Str:="law.<locals>.stop"
noncomputable abbrev G6:Str:="law.<locals>.start"
noncomputable abbrev Hh(w:World)(code:Nat):Obj:=⟨.type "function",none,.func {name:="stop",qualname:=HT,params:=(Jf w).args,body:=.stmts (Jf w).body,scope:=(Jf w).scope,globals:=3,closure:=[],defaults:=.none,kwdefaults:=.none,pyModule:=.str "law_rk0007_02" 799,code:=.ref code},#[]⟩
noncomputable abbrev Dn(w:World)(code tu cx cy cz:Nat):Obj:=⟨.type "function",none,.func {name:="start",qualname:=G6,params:=(G8 w).args,body:=.stmts (G8 w).body,scope:=(G8 w).scope,globals:=3,closure:=[("stop",cz),("start",cy),("lexer",cx)],defaults:=.none,kwdefaults:=.none,pyModule:=.str "law_rk0007_02" 799,code:=.ref code,closureTuple:=.ref tu},#[]⟩
noncomputable def IG(R:Res)(i:Nat):Obj:=((Aq R.led i).map (·.2)).getD default
noncomputable def Dr(q:Str)(o:Obj):Bool:=match o with
 | ⟨.type _,_,.fields vs,_⟩=>(match vs.toList with | _::.str q' _::_=>q' == q | _=>false)
 | _=>false
noncomputable abbrev Jp(w:World)(k:Nat→Nat)(v:Nat→Value)(kg g:Nat):Obj:=oFr [de w "script" (k 0) (v 0),de w "tape" (k 1) (v 1),de w "head" (k 2) (v 2),de w "pieces" (k 3) (v 3),de w "spots" (k 5) (v 5),de w "chars" (k 4) (v 4),de w "row" (k 6) (v 6),de w "piece" (k 7) (v 7),de w "column" (k 8) (v 8),de w "sign" (k 9) (v 9),de w "got" kg (.ref g)] 11
noncomputable def IU:Obj→Bool
 | ⟨.none,none,.fields _,⟨[]⟩⟩=>true
 | _=>false
theorem tabOk_ok{o:Obj}(h:IU o=true):∃ more,o=oP more:=by
 unfold IU at h
 split at h
 ·rename_i m; exact⟨m.toList,rfl⟩
 ·cases h
section
variable(w:World)(f:Fl)(ext:Addr→Option Obj)(n t L cx cy cz:Nat)(k:Nat→Nat)(v:Nat→Value)(n2 t2 tb pb ct:Nat)(kt:Nat→Nat)
def la2:Res:=
 run (P4 w f ext n2 t2 0) 85 (ιx 24 0x113300055550440005555022) [] [(L,ET w k v),(cx,An none),(cy,An none),(cz,An none),(520,oP []),(n+12,oX (n+11)),(n+11,AU [de w "token_buffer" (kt 0) (.ref tb),de w "pushed_back" (kt 1) (.ref pb),de w "current_text" (kt 2) (.ref ct),de w "coptions" (kt 3) (.ref (n+1))] 4)] 0 0 ((la1 w f ext n t L cx cy cz k v).ko)
  ((la1 w f ext n t L cx cy cz k v).kk (.ok (.ret .none))) [] [] []
theorem la2_v:RvD (la2 w f ext n t L cx cy cz k v n2 t2 tb pb ct kt) [0,1,2,3,5,6,12,13,20,21,22,4] (.done (.ok .next)) 1 16 15 [some (L,Jp w k v (t2+14) (n2+15)),some (cx,An (some (.ref (n+12)))),some (cy,An (some (.ref (n2+14)))),some (cz,An (some (.ref (n2+6)))),some (n+12,oX (n+11)),some (n+11,AU [de w "token_buffer" (kt 0) (.ref tb),de w "pushed_back" (kt 1) (.ref pb),de w "current_text" (kt 2) (.ref ct),de w "coptions" (kt 3) (.ref (n+1))] 4),some (n2+5,IG (la2 w f ext n t L cx cy cz k v n2 t2 tb pb ct kt) 12),some (n2+6,Hh w (n2+5)),some (n2+13,IG (la2 w f ext n t L cx cy cz k v n2 t2 tb pb ct kt) 20),some (n2+14,Dn w (n2+13) (n2+7) cx cy cz),some (n2+15,lst [] 0),some (520,IG (la2 w f ext n t L cx cy cz k v n2 t2 tb pb ct kt) 4)] []:=by rcases f with⟨_ | _,_,_⟩ <;> kernel_rfl
theorem la2_c12:Dr HT (IG (la2 w f ext n t L cx cy cz k v n2 t2 tb pb ct kt) 12)=true:=by rcases f with⟨_ | _,_,_⟩ <;> kernel_rfl
theorem la2_c20:Dr G6 (IG (la2 w f ext n t L cx cy cz k v n2 t2 tb pb ct kt) 20)=true:=by rcases f with⟨_ | _,_,_⟩ <;> kernel_rfl
theorem la2_c4:IU (IG (la2 w f ext n t L cx cy cz k v n2 t2 tb pb ct kt) 4)=true:=by rcases f with⟨_ | _,_,_⟩ <;> kernel_rfl
end
noncomputable abbrev Br(t:Expr)(env:Env):Sem PySem.Fin:=PySem.W.R.bindR (PySem.W.Fast.tw15418851999007992765 t env (PySem.W.Fast.tw14044960220447912780 t env)) fun b=>.pure (.done (.ret (.bool b)))
theorem isTrueT_eq(t:Expr)(env:Env):Br t env=(isTrue t env (eval t env) >>= fun b=>pure (.done (.ret (.bool b)))):=by
 unfold Br
 rw [←PySem.W.R.bindR_eq,←PySem.W.Fast.te15418851999007992765,←PySem.W.Fast.te14044960220447912780]
 rfl
noncomputable def Jx(Q:Bool→Shared→Prop):PySem.Fin→Shared→Prop
 | .done (.ret (.bool b)),s=>Q b s
 | _,_=>False
theorem B9{M:Model}{A:Around}{t:Expr}{env:Env}{Q:Bool→Shared→Prop}{s:Shared}(h:wpAny M A (Br t env) (Jx Q) E s):wpAny M A (isTrue t env (eval t env)) Q E s:=fun Γ p hΓ=>by
 have:=h Γ p hΓ
 rw [isTrueT_eq,Sem.wp_bind'] at this
 exact Sem.wp_mono M Γ _ (fun a p' s' h'=>h') (fun _ _ _ h'=>h') p s this
noncomputable def Fj(s:Option Stmt):Expr×List Stmt×List Stmt×Pos:=match s with
 | some (.If t b o p)=>(t,b,o,p)
 | _=>(.Constant .none 0 default,[],[],default)
noncomputable def B2(w:World)(code tu cx cy cz st L:Nat):Env:=FR (B5 (some (Dn w code tu cx cy cz))) st L [("stop",cz),("start",cy),("lexer",cx)]
noncomputable def stB(w:World):List Stmt:=(G8 w).body
noncomputable def KP(w:World):List Stmt:=(stB w).take 2
noncomputable def Ev(w:World):=Fj (stB w)[2]?
noncomputable def IX(w:World):List Stmt:=(stB w).drop 3
theorem st_body(w:World):stB w=KP w++(.If (Ev w).1 (Ev w).2.1 (Ev w).2.2.1 (Ev w).2.2.2::IX w):=by kernel_rfl
section
variable(w:World)(f:Fl)(ext:Addr→Option Obj)(n t L kc x dx tb pb ct co it ci di k1 k2 k3 li code tu cx cy cz st sp:Nat)(kt:Nat→Nat)(sg:Str)(p0 q0 r0 p1 q1 r1:Obj)(g0 d0:Nat)
def st0:Res:=
 run (P2 w f ext n t 0) 12 [] [] [] 0 0 .tree
  (BB (B5 (some (Dn w code tu cx cy cz))) st ⟨[],[]⟩) [] [] []
theorem st0_v:RvD (st0 w f ext n t code tu cx cy cz st) [0] (.again (.func (stB w) (B2 w code tu cx cy cz st n))) 1 1 0 [some (n,oFr [] 0)] []:=by kernel_rfl
noncomputable abbrev JS:List Sp:=[AL [6,7,8] (.call (.ref 216) ⟨[.ref x],[]⟩) [(pb,p0),(ct,q0),(it,r0)] (Ba (.none)) [p1,q1,r1] g0 d0]
def st1:Res:=
 run (P4 w f ext n t 5) 55 (ιx 28 0x3666205400000040000040000041) ((JS x pb ct it p0 q0 r0 p1 q1 r1 g0 d0).reverse.map Sp.x) [(cx,An (some (.ref x))),(cy,An (some (.ref st))),(cz,An (some (.ref sp))),(x,oX dx),(dx,oDx w kt tb pb ct co it),(L,oFr [] 0),(pb,p0),(ct,q0),(it,r0)] 0 0 .tree
  (Az (KP w) (B2 w code tu cx cy cz st L)) [] [] []
theorem st1_v:RvD (st1 w f ext n t L x dx tb pb ct co it code tu cx cy cz st sp kt p0 q0 r0 p1 q1 r1 g0 d0) [6,7,8] (.done (.ok (.ret (.ref sp)))) 1 (0+(g0+0)) (0+d0+1) [some (pb,p1),some (ct,q1),some (it,r1)] (JS x pb ct it p0 q0 r0 p1 q1 r1 g0 d0):=by kernel_rfl
noncomputable abbrev JR:List Sp:=[AL [6,7,8] (.call (.ref 216) ⟨[.ref x],[]⟩) [(pb,p0),(ct,q0),(it,r0)] (Ba (.ref ci)) [p1,q1,r1] g0 d0]
def st2:Res:=
 run (P4 w f ext n t 5) 52 (ιx 27 0x666205400000040000040000041) ((JR x pb ct it ci p0 q0 r0 p1 q1 r1 g0 d0).reverse.map Sp.x) [(cx,An (some (.ref x))),(cy,An (some (.ref st))),(cz,An (some (.ref sp))),(x,oX dx),(dx,oDx w kt tb pb ct co it),(L,oFr [] 0),(pb,p0),(ct,q0),(it,r0)] 0 0 .tree
  (Az (KP w) (B2 w code tu cx cy cz st L)) [] [] []
theorem st2_v:RvD (st2 w f ext n t L x dx tb pb ct co it ci code tu cx cy cz st sp kt p0 q0 r0 p1 q1 r1 g0 d0) [5,6,7,8] (.done (.ok .next)) 1 (0+(g0+0)) (0+d0+1) [some (L,oFr [de w "c" (t+(0+d0)) (.ref ci)] 1),some (pb,p1),some (ct,q1),some (it,r1)] (JR x pb ct it ci p0 q0 r0 p1 q1 r1 g0 d0):=by kernel_rfl
def si1:Res:=
 run (P4 w f ext n t 7) 34 (ιx 16 0x2070660006000068) ([Am "str.__contains__" ⟨[.str ιk (t+1),.str sg k3],[]⟩ (.bool true)].map Sp.x) [(cx,An (some (.ref x))),(cy,An (some (.ref st))),(cz,An (some (.ref sp))),(x,oX dx),(dx,oDx w kt tb pb ct co it),(ci,oC di),(di,oDc w k1 k2 (.str sg k3) li),(L,oFr [de w "c" kc (.ref ci)] 1),(pb,p0),(ct,q0),(it,r0)] 0 0 .tree
  (Br (Ev w).1 (B2 w code tu cx cy cz st L)) [] [] []
theorem si1_v:RvD (si1 w f ext n t L kc x dx tb pb ct co it ci di k1 k2 k3 li code tu cx cy cz st sp kt sg p0 q0 r0) [7,8,9,10] (.done (.ok (.ret (.bool true)))) 1 0 2 [some (L,oFr [de w "c" kc (.ref ci)] 1),some (pb,p0),some (ct,q0),some (it,r0)] [Am "str.__contains__" ⟨[.str ιk (t+1),.str sg k3],[]⟩ (.bool true)]:=by kernel_rfl
noncomputable abbrev JX:List Sp:=[AL [8,9,10] (.call (.ref 244) ⟨[.ref x,.str ⟨⟨[34]⟩⟩ (t+4)],[]⟩) [(pb,p0),(ct,q0),(it,r0)] (Ba (.bool true)) [p1,q1,r1] g0 d0,Am "str.__eq__" ⟨[.str sg k3,.str ⟨⟨[76]⟩⟩ (t+3)],[]⟩ (.bool true),Am "str.__contains__" ⟨[.str ιk (t+1),.str sg k3],[]⟩ (.bool false)]
def si2:Res:=
 run (P4 w f ext n t 7) 89 (ιx 56 0x20540000004000004000004120706600060000682070660006000068) ((JX t x pb ct it k3 sg p0 q0 r0 p1 q1 r1 g0 d0).reverse.map Sp.x) [(cx,An (some (.ref x))),(cy,An (some (.ref st))),(cz,An (some (.ref sp))),(x,oX dx),(dx,oDx w kt tb pb ct co it),(ci,oC di),(di,oDc w k1 k2 (.str sg k3) li),(L,oFr [de w "c" kc (.ref ci)] 1),(pb,p0),(ct,q0),(it,r0)] 0 0 .tree
  (Br (Ev w).1 (B2 w code tu cx cy cz st L)) [] [] []
theorem si2_v:RvD (si2 w f ext n t L kc x dx tb pb ct co it ci di k1 k2 k3 li code tu cx cy cz st sp kt sg p0 q0 r0 p1 q1 r1 g0 d0) [7,8,9,10] (.done (.ok (.ret (.bool true)))) 1 (0+(g0+0)) (5+d0) [some (L,oFr [de w "c" kc (.ref ci)] 1),some (pb,p1),some (ct,q1),some (it,r1)] (JX t x pb ct it k3 sg p0 q0 r0 p1 q1 r1 g0 d0):=by rcases f with⟨_ | _,_,_⟩ <;> kernel_rfl
noncomputable abbrev JW:List Sp:=[Am "str.__eq__" ⟨[.str sg k3,.str ⟨⟨[96]⟩⟩ (t+(5+d0+1))],[]⟩ (.bool false),AL [8,9,10] (.call (.ref 244) ⟨[.ref x,.str ⟨⟨[34]⟩⟩ (t+4)],[]⟩) [(pb,p0),(ct,q0),(it,r0)] (Ba (.bool false)) [p1,q1,r1] g0 d0,Am "str.__eq__" ⟨[.str sg k3,.str ⟨⟨[76]⟩⟩ (t+3)],[]⟩ (.bool true),Am "str.__contains__" ⟨[.str ιk (t+1),.str sg k3],[]⟩ (.bool false)]
def si3:Res:=
 run (P4 w f ext n t 7) 113 (ιx 72 0x207066000600006820540000004000004000004120706600060000682070660006000068) ((JW t x pb ct it k3 sg p0 q0 r0 p1 q1 r1 g0 d0).reverse.map Sp.x) [(cx,An (some (.ref x))),(cy,An (some (.ref st))),(cz,An (some (.ref sp))),(x,oX dx),(dx,oDx w kt tb pb ct co it),(ci,oC di),(di,oDc w k1 k2 (.str sg k3) li),(L,oFr [de w "c" kc (.ref ci)] 1),(pb,p0),(ct,q0),(it,r0)] 0 0 .tree
  (Br (Ev w).1 (B2 w code tu cx cy cz st L)) [] [] []
theorem si3_v:RvD (si3 w f ext n t L kc x dx tb pb ct co it ci di k1 k2 k3 li code tu cx cy cz st sp kt sg p0 q0 r0 p1 q1 r1 g0 d0) [7,8,9,10] (.done (.ok (.ret (.bool false)))) 1 (0+(g0+0)+0) (5+d0+1+1+0) [some (L,oFr [de w "c" kc (.ref ci)] 1),some (pb,p1),some (ct,q1),some (it,r1)] (JW t x pb ct it k3 sg p0 q0 r0 p1 q1 r1 g0 d0):=by rcases f with⟨_ | _,_,_⟩ <;> kernel_rfl
noncomputable abbrev JV:List Sp:=[AL [8,9,10] (.call (.ref 244) ⟨[.ref x,.str ⟨⟨[96]⟩⟩ (t+6)],[]⟩) [(pb,p0),(ct,q0),(it,r0)] (Ba (.bool true)) [p1,q1,r1] g0 d0,Am "str.__eq__" ⟨[.str sg k3,.str ⟨⟨[96]⟩⟩ (t+5)],[]⟩ (.bool true),Am "str.__eq__" ⟨[.str sg k3,.str ⟨⟨[76]⟩⟩ (t+3)],[]⟩ (.bool false),Am "str.__contains__" ⟨[.str ιk (t+1),.str sg k3],[]⟩ (.bool false)]
def si4:Res:=
 run (P4 w f ext n t 7) 113 (ιx 72 0x205400000040000040000041207066000600006820706600060000682070660006000068) ((JV t x pb ct it k3 sg p0 q0 r0 p1 q1 r1 g0 d0).reverse.map Sp.x) [(cx,An (some (.ref x))),(cy,An (some (.ref st))),(cz,An (some (.ref sp))),(x,oX dx),(dx,oDx w kt tb pb ct co it),(ci,oC di),(di,oDc w k1 k2 (.str sg k3) li),(L,oFr [de w "c" kc (.ref ci)] 1),(pb,p0),(ct,q0),(it,r0)] 0 0 .tree
  (Br (Ev w).1 (B2 w code tu cx cy cz st L)) [] [] []
theorem si4_v:RvD (si4 w f ext n t L kc x dx tb pb ct co it ci di k1 k2 k3 li code tu cx cy cz st sp kt sg p0 q0 r0 p1 q1 r1 g0 d0) [7,8,9,10] (.done (.ok (.ret (.bool true)))) 1 (0+(g0+0)) (7+d0) [some (L,oFr [de w "c" kc (.ref ci)] 1),some (pb,p1),some (ct,q1),some (it,r1)] (JV t x pb ct it k3 sg p0 q0 r0 p1 q1 r1 g0 d0):=by rcases f with⟨_ | _,_,_⟩ <;> kernel_rfl
noncomputable abbrev JU:List Sp:=[AL [8,9,10] (.call (.ref 244) ⟨[.ref x,.str ⟨⟨[96]⟩⟩ (t+6)],[]⟩) [(pb,p0),(ct,q0),(it,r0)] (Ba (.bool false)) [p1,q1,r1] g0 d0,Am "str.__eq__" ⟨[.str sg k3,.str ⟨⟨[96]⟩⟩ (t+5)],[]⟩ (.bool true),Am "str.__eq__" ⟨[.str sg k3,.str ⟨⟨[76]⟩⟩ (t+3)],[]⟩ (.bool false),Am "str.__contains__" ⟨[.str ιk (t+1),.str sg k3],[]⟩ (.bool false)]
def si5:Res:=
 run (P4 w f ext n t 7) 113 (ιx 72 0x205400000040000040000041207066000600006820706600060000682070660006000068) ((JU t x pb ct it k3 sg p0 q0 r0 p1 q1 r1 g0 d0).reverse.map Sp.x) [(cx,An (some (.ref x))),(cy,An (some (.ref st))),(cz,An (some (.ref sp))),(x,oX dx),(dx,oDx w kt tb pb ct co it),(ci,oC di),(di,oDc w k1 k2 (.str sg k3) li),(L,oFr [de w "c" kc (.ref ci)] 1),(pb,p0),(ct,q0),(it,r0)] 0 0 .tree
  (Br (Ev w).1 (B2 w code tu cx cy cz st L)) [] [] []
theorem si5_v:RvD (si5 w f ext n t L kc x dx tb pb ct co it ci di k1 k2 k3 li code tu cx cy cz st sp kt sg p0 q0 r0 p1 q1 r1 g0 d0) [7,8,9,10] (.done (.ok (.ret (.bool false)))) 1 (0+(g0+0)) (7+d0) [some (L,oFr [de w "c" kc (.ref ci)] 1),some (pb,p1),some (ct,q1),some (it,r1)] (JU t x pb ct it k3 sg p0 q0 r0 p1 q1 r1 g0 d0):=by rcases f with⟨_ | _,_,_⟩ <;> kernel_rfl
noncomputable abbrev JT:List Sp:=[Am "str.__eq__" ⟨[.str sg k3,.str ⟨⟨[96]⟩⟩ (t+5)],[]⟩ (.bool false),Am "str.__eq__" ⟨[.str sg k3,.str ⟨⟨[76]⟩⟩ (t+3)],[]⟩ (.bool false),Am "str.__contains__" ⟨[.str ιk (t+1),.str sg k3],[]⟩ (.bool false)]
def si6:Res:=
 run (P4 w f ext n t 7) 82 (ιx 48 0x207066000600006820706600060000682070660006000068) ((JT t k3 sg).reverse.map Sp.x) [(cx,An (some (.ref x))),(cy,An (some (.ref st))),(cz,An (some (.ref sp))),(x,oX dx),(dx,oDx w kt tb pb ct co it),(ci,oC di),(di,oDc w k1 k2 (.str sg k3) li),(L,oFr [de w "c" kc (.ref ci)] 1),(pb,p0),(ct,q0),(it,r0)] 0 0 .tree
  (Br (Ev w).1 (B2 w code tu cx cy cz st L)) [] [] []
theorem si6_v:RvD (si6 w f ext n t L kc x dx tb pb ct co it ci di k1 k2 k3 li code tu cx cy cz st sp kt sg p0 q0 r0) [7,8,9,10] (.done (.ok (.ret (.bool false)))) 1 0 6 [some (L,oFr [de w "c" kc (.ref ci)] 1),some (pb,p0),some (ct,q0),some (it,r0)] (JT t k3 sg):=by rcases f with⟨_ | _,_,_⟩ <;> kernel_rfl
def sb1:Res:=
 run (P4 w f ext n t 5) 37 (ιx 22 0x1054000040000040000041) [] [(cx,An (some (.ref x))),(cy,An (some (.ref st))),(cz,An (some (.ref sp))),(x,oX dx),(dx,oDx w kt tb pb ct co it),(L,oFr [de w "c" kc (.ref ci)] 1)] 0 0 .tree
  (Az (Ev w).2.1 (B2 w code tu cx cy cz st L)) [] [] []
theorem sb1_v:RvC (sb1 w f ext n t L kc x dx tb pb ct co it ci code tu cx cy cz st sp kt) [5] (.call (.call (.ref 373) ⟨[.ref x],[]⟩)) 1 0 0 [some (L,oFr [de w "c" kc (.ref ci)] 1)] []:=by kernel_rfl
variable(e:Nat)
theorem sb1_k:(sb1 w f ext n t L kc x dx tb pb ct co it ci code tu cx cy cz st sp kt).kk (.error (.ref e))=.raise (.ref e):=by kernel_rfl
def sb2:Res:=
 run (P4 w f ext n t 5) 40 (ιx 24 0x105400000040000040000041) [] [(cx,An (some (.ref x))),(cy,An (some (.ref st))),(cz,An (some (.ref sp))),(x,oX dx),(dx,oDx w kt tb pb ct co it),(L,oFr [de w "c" kc (.ref ci)] 1)] 0 0 .tree
  (Az (Ev w).2.2.1 (B2 w code tu cx cy cz st L)) [] [] []
theorem sb2_v:RvC (sb2 w f ext n t L kc x dx tb pb ct co it ci code tu cx cy cz st sp kt) [5] (.call (.call (.ref 230) ⟨[.ref x,.str ⟨⟨[79,78,69]⟩⟩ (t+0)],[]⟩)) 1 0 1 [some (L,oFr [de w "c" kc (.ref ci)] 1)] []:=by kernel_rfl
def sb3:Res:=
 run (P4 w f ext n t 5) 14 [2] [] [(cx,An (some (.ref x))),(cy,An (some (.ref st))),(cz,An (some (.ref sp))),(x,oX dx),(dx,oDx w kt tb pb ct co it),(L,oFr [de w "c" kc (.ref ci)] 1)] 0 0 .tree
  (Az (IX w) (B2 w code tu cx cy cz st L)) [] [] []
theorem sb3_v:RvD (sb3 w f ext n t L kc x dx tb pb ct co it ci code tu cx cy cz st sp kt) [5] (.done (.ok (.ret (.ref st)))) 1 0 0 [some (L,oFr [de w "c" kc (.ref ci)] 1)] []:=by kernel_rfl
end
section
variable(w:World)(f:Fl)(ext:Addr→Option Obj)(n t L kc x dx tb pb ct co it ci code tu cx cy cz st sp:Nat)(kt:Nat→Nat)(n2 t2 v:Nat)
def sb1c:Res:=
 run (P4 w f ext n2 t2 5) 15 [0] [] [(cx,An (some (.ref x))),(cy,An (some (.ref st))),(cz,An (some (.ref sp))),(x,oX dx),(dx,oDx w kt tb pb ct co it),(L,oFr [de w "c" kc (.ref ci)] 1)] 0 0 .tree
  ((sb1 w f ext n t L kc x dx tb pb ct co it ci code tu cx cy cz st sp kt).kk (.ok (.ret (.ref v)))) [] [] []
theorem sb1c_v:RvD (sb1c w f ext n t L kc x dx tb pb ct co it ci code tu cx cy cz st sp kt n2 t2 v) [5] (.done (.ok .next)) 1 0 0 [some (L,oFr [de w "c" kc (.ref ci)] 1)] []:=by kernel_rfl
def sb2c:Res:=
 run (P4 w f ext n2 t2 5) 12 [] [] [(cx,An (some (.ref x))),(cy,An (some (.ref st))),(cz,An (some (.ref sp))),(x,oX dx),(dx,oDx w kt tb pb ct co it),(L,oFr [de w "c" kc (.ref ci)] 1)] 0 0 .tree
  ((sb2 w f ext n t L kc x dx tb pb ct co it ci code tu cx cy cz st sp kt).kk (.ok (.ret .none))) [] [] []
theorem sb2c_v:RvD (sb2c w f ext n t L kc x dx tb pb ct co it ci code tu cx cy cz st sp kt n2 t2) [5] (.done (.ok .next)) 1 0 0 [some (L,oFr [de w "c" kc (.ref ci)] 1)] []:=by kernel_rfl
end
noncomputable abbrev Er:Str:=⟨⟨[79,78,69]⟩⟩
noncomputable abbrev IV:Str:=ιk
noncomputable abbrev chL:Str:=⟨⟨[76]⟩⟩
noncomputable abbrev chT:Str:=⟨⟨[96]⟩⟩
inductive Lc where
 | stop (s:LS)
 | tok (ty tx:Str) (b:Nat) (s:LS)
 | err (place:Option Nat)
noncomputable def BR(c:Cfg)(s:LS):Lc:=match Ct c s with
 | .ok s'=>.tok B0 (c.txt s'.b s'.p) s'.b s'.cut
 | .err pl=>.err pl
noncomputable def CU(c:Cfg)(s:LS):Lc:=.tok Er (c.txt s.b s.p) s.b s.cut
noncomputable def Bb(c:Cfg)(sg:Str)(s1:LS):Bool×LS:=
 if E4 IV sg then(true,s1)
 else if isC chL sg then(s1.hit c chQ,s1.acc c chQ)
 else if isC chT sg then(s1.hit c chT,s1.acc c chT)
 else(false,s1)
noncomputable def BH(c:Cfg)(s:LS):Lc:=
 if s.p<c.N then
  match Bb c (c.sg s.p) (s.next c) with
  | (true,s2)=>BR c s2
  | (false,s2)=>CU c s2
 else .stop (s.next c)
theorem EC{c:Cfg}{sg:Str}{s1:LS}(F:s1.WF c):(Bb c sg s1).2.WF c∧(Bb c sg s1).2.b=s1.b∧s1.p≤(Bb c sg s1).2.p:=by
 unfold Bb
 repeat' split
 all_goals first
  | exact⟨F,rfl,ιR _⟩
  | exact⟨LS.MG F,LS.MR,LS.MN⟩
section
variable{w:World}{ext:Addr→Option Obj}{c:Cfg}
theorem I9{cl:Value}{d:Option Addr}{fd:FuncData}{sl:Array (Option Value)}{code:Nat}{co:Obj}{body:List Stmt}(h1:fd.scope.isCoroutine=false)(h2:fd.scope.isGenerator=false)(hb:fd.body=.stmts body)(hc:fd.code=.ref code)(ho:lkX w ext code=some co)(hq:Dr fd.qualname co=true) :
  FO (lkX w ext) (some ⟨cl,d,.func fd,sl⟩)=true:=by
 simp only [FO,h1,h2,hb,hc,ho,Bool.not_false,Bool.true_and]
 unfold Dr at hq
 split at hq
 ·exact hq
 ·cases hq
theorem enter_fn(W:Ae w){f:Nat}{o:Obj}{args:Args}{A:Around}{st:Shared}{d:Nat}(hA:Ar A d)(hd:60≤d)(S:Ak w ext st)(ho:lkX w ext f=some o)(hf:FO (lkX w ext) (some o)=true){fuel:Nat}{hs:List Nat}{U V:Nat}{body env dep envs hdd k fr}{R0:Res}
  (hv:R0.rv U V [0]=⟨R0.exp,.again (.func body env),1,dep,envs,hdd,1,k,[some (st.heap.objs.size,fr)],([]:List Sp).map Sp.view,true⟩)
  (hR:run (P2 w (Ax w) ext st.heap.objs.size st.toks 0) fuel hs [] [] 0 0 .tree (BB (B5 (some o)) f args) [] [] []=R0)
  (h:∀ s1,s1={st with heap:=s1.heap,toks:=st.toks+k}→Aft [] st s1→s1.heap.objs.size=st.heap.objs.size+1→s1.heap.get? st.heap.objs.size=some fr→Ak w ext s1→
   wpAny (model pr2 w) (A.deeper env) (execs body env) (fun f s'=>R (.ok (.ret (match f with | .ret v=>v | _=>.none))) s') (fun e s'=>wpAny (model pr2 w) (A.deeper env) (leaving env e) (fun _ s''=>R (.error e) s'') (fun e' s''=>R (.error e') s'') s') s1) :
  codeAny (model pr2 w) A (.call (.ref f) args) R st:=by
 refine Bv S (by rw [ho]; exact hf) (by have:=hA.depth; exact ωt this) ?_
 rw [ho]
 refine AR (BC (t:=st.toks) (ro:=0) W S hA hd) hR hv (vs:=[]) Aa
  (Inv.MH S (reads:=[]) (pre:=[]) Aa ιN Aa ιN Aa) fun s1 I1 H1=>?_
 have S1:Ak w ext s1:=I1.stat
 refine ιp ⟨W.nolimit _ fun a o e=>S1 a o (by show(match lk w a with | some o=>some o | none=>ext a)=_; rw [e]),rfl,codeAny_func (h s1 ?_ I1.aft I1.size (H1 _ μ0) S1)⟩
 have h1:=I1.same
 have h2:s1.toks=st.toks+k:=I1.toks
 generalize s1.heap=hh at h1
 rw [h2] at h1
 subst h1; rfl
structure Clo(w:World)(ext:Addr→Option Obj)(x st sp code tu code2 cx cy cz:Nat):Prop where
 hst:lkX w ext st=some (Dn w code tu cx cy cz)
 hco:∃ o,lkX w ext code=some o∧Dr G6 o=true
 hsp:lkX w ext sp=some (Hh w code2)
 hco2:∃ o,lkX w ext code2=some o∧Dr HT o=true
 hcx:lkX w ext cx=some (An (some (.ref x)))
 hcy:lkX w ext cy=some (An (some (.ref st)))
 hcz:lkX w ext cz=some (An (some (.ref sp)))
 nd:[cx,cy,cz].Nodup
theorem start_con(W:Ae w)(O:c.Ok w ext)(hsg:∀ i,i<c.N→(c.sg i).length≤1)(h225:lkX w ext 225=none){sf sp code tu code2 cx cy cz:Nat}(K:Clo w ext c.x sf sp code tu code2 cx cy cz)(s:LS)(F:s.WF c)(hbp:s.b=s.p)(ts:List Value)(e0:Nat)(hts:ts.length≤1000)(ps:Array Value)
  {A:Around} {st:Shared} {R:Result→Shared→Prop} {base:Heap} {outer:List Env} (hA:Ar A 600) (S:Ak w ext st) (own:∀ p∈s.ents c,st.heap.get? p.1=some p.2) (htb:st.heap.get? c.tb=some (lst ts e0)) (T:Tab st.heap 229 225 ps)
  (X:Rs c base outer A st)
  (hstop:∀ s',BH c s=.stop s'→∀ st',Aft [c.pb,c.ct,c.it] st st'→(∀ p∈s'.ents c,st'.heap.get? p.1=some p.2)→R (.ok (.ret (.ref sp))) st')
  (htok:∀ ty tx b s',BH c s=.tok ty tx b s'→∀ st',JA c ty tx b ts e0 s' st st'→R (.ok (.ret (.ref sf))) st')
  (herr:∀ pl,BH c s=.err pl→∀ e st',AF w base outer [c.pb,c.ct,c.it] (B8 c pl) st e st'→R (.error (.ref e)) st') :
  codeAny (model pr2 w) A (.call (.ref sf) ⟨[],[]⟩) R st:=by
 obtain⟨co,hco,hcq⟩:=K.hco
 refine enter_fn W hA (by decide) S K.hst (I9 (by kernel_rfl) (by kernel_rfl) rfl rfl hco hcq) (st0_v _ _ _ _ _ code tu cx cy cz sf) rfl fun s1 e1 A1 z1 hL S1=>?_
 generalize hLe:st.heap.objs.size=L at hL z1
 generalize hEn:B2 w code tu cx cy cz sf L=En
 have hfrm:En.frame=some L:=by subst hEn; rfl
 have hroom:Ar (A.deeper En) 590:=⟨hA.handled,by show A.depth+1+590<_; have:=hA.depth; exact ω04 this,by show A.units+3+_<_; have:=hA.units; exact ω05 this⟩
 have ek:En.scope.kind=.function:=by subst hEn; kernel_rfl
 have X1:Rs c base (En::outer) (A.deeper En) s1:=X.enter (fr:=oFr [] 0) own (by rw [hLe]; exact hfrm) (by rw [ek]; decide) A1 (by rw [hLe]; exact hL) ιF
 have hLo:L∉outer.filterMap (·.frame):=fun hm=>by
  have:=DT X.ff hm
  rw [hLe] at this; exact Nat.lt_irrefl _ this
 generalize hAd:A.deeper En=Ad at hroom X1 ⊢
 have ltL:∀ {a:Addr} {o:Obj},st.heap.get? a=some o→a≠L:=fun e q=>by
  have:=ιH e
  rw [hLe,q] at this
  exact Nat.lt_irrefl _ this
 have apL:lkX w ext L=none:=by
  cases e:lkX w ext L with
  | none=>rfl
  | some o=>exact absurd rfl (ltL (S L o e))
 have own1:∀ p∈s.ents c,s1.heap.get? p.1=some p.2:=fun p hp=>A1.keep _ _ (own p hp) (fun h=>nomatch h)
 have nd4:(L::[c.pb,c.ct,c.it]).Nodup:=List.nodup_cons.mpr ⟨fun hm=>by
   have:=Ca own L hm
   rw [hLe] at this; exact Nat.lt_irrefl _ this,AY O s⟩
 have apD:∀ a∈L::[c.pb,c.ct,c.it],lkX w ext a=none:=Ab apL (fun a ha=>O.ap a (.tail _ ha))
 have hu:max Ad.units Ad.units+10*30+10*60<cLine:=by have:=hroom.units; exact ω0e this
 have hdp:max Ad.depth Ad.depth+30+60<recursionLimit:=by have:=hroom.depth; exact ω0f this
 have low:∀ {D:List Addr} {s2:Shared},Aft (L::D) s1 s2→Aft D st s2:=fun {D s2} A2=>((A1.mono (D':=L::D) fun x h=>nomatch h).trans A2).drop fun x hx=>by
  rcases ιC hx with rfl | hx
  ·exact .inr (by rw [hLe]; exact ιR _)
  ·exact .inl hx
 have ro5:∀ p∈([(cx,An (some (.ref c.x))),(cy,An (some (.ref sf))),(cz,An (some (.ref sp))),(c.x,oX c.dx),(c.dx,oDx w c.kt c.tb c.pb c.ct c.co c.it)]:Led),lkX w ext p.1=some p.2:=Ab K.hcx (ζ4 K.hcy K.hcz O.hx O.hdx)
 have ncell:∀ {a b:Nat} {o o':Obj},lkX w ext a=some o→lkX w ext b=some o'→Nat.beq (IT o) (IT o')=false→a≠b:=fun h1 h2 h3 q=>by
  subst q; rw [h1] at h2; cases h2; simp at h3
 have tc:∀ (v:Value) (a:Nat),a∈[cx,cy,cz]→∃ v,lkX w ext a=some (An v):=fun v a ha=>by
  replace ha:=ω9k ha
  rcases ha with rfl | rfl | rfl
  ·exact⟨_,K.hcx⟩
  ·exact⟨_,K.hcy⟩
  ·exact⟨_,K.hcz⟩
 have nd5:[cx,cy,cz,c.x,c.dx].Nodup:=by
  have h1:=K.nd
  replace h1:=ω9j.1 h1; refine ω9l.2 ?_
  exact⟨⟨h1.1.1,h1.1.2,ncell K.hcx O.hx rfl,ncell K.hcx O.hdx rfl⟩,⟨h1.2.1,ncell K.hcy O.hx rfl,ncell K.hcy O.hdx rfl⟩,
   ⟨ncell K.hcz O.hx rfl,ncell K.hcz O.hdx rfl⟩,ncell O.hx O.hdx rfl,not_false,ιN⟩
 rw [st_body]
 refine Bm (Au ?_)
 subst hEn
 obtain⟨g0,d0,C0⟩:=Hi W O s F
 have INV:=Inv.MH S1 (pre:=(L,oFr [] 0)::s.ents c) ro5 nd5 (Ab hL own1) nd4 (Ab apL (AO O s))
 by_cases hp:s.p<c.N
 ·have hla:BH c s=match Bb c (c.sg s.p) (s.next c) with | (true,s2)=>BR c s2 | (false,s2)=>CU c s2:=by rw [BH,if_pos hp]
  have ep:(s.next c).p=s.p+1:=by unfold LS.next; rw [if_pos hp]
  have Fn:=LS.next_wf F
  simp only [LS.chr,if_pos hp] at C0
  refine Al (g:=Ac pr2 w Ad _ _) (Ao (t:=s1.toks) (ro:=5) W S1 hroom (by decide)) rfl
   (st2_v _ _ _ _ _ L c.x c.dx c.tb c.pb c.ct c.co c.it (c.ci s.p) code tu cx cy cz sf sp c.kt (s.o1 c) (s.o2 c) (s.o3 c) ((s.next c).o1 c) ((s.next c).o2 c) ((s.next c).o3 c) g0 d0)
   (Ab (C0.obl (is:=[6,7,8]) rfl S1.new rfl rfl rfl hdp hu) Aa) INV fun s2 I2 H2=>ιp ?_
  have A2:Aft (L::[c.pb,c.ct,c.it]) s1 s2:=I2.aft
  have own2:∀ p∈(s.next c).ents c,s2.heap.get? p.1=some p.2:=Ab (H2 _ μ1) (ζ2 (H2 _ μ2) (H2 _ μ3))
  have hL2:=H2 _ μ0
  dsimp only at hL2
  generalize s1.toks+(0+d0)=kc at hL2
  have S2:Ak w ext s2:=S1.aft A2 apD
  show wpAny _ _ (execs _ _) _ _ s2
  refine wpAny_execs_cons (wpAny_If (B9 ?_))
  have ro7:∀ p∈([(cx,An (some (.ref c.x))),(cy,An (some (.ref sf))),(cz,An (some (.ref sp))),(c.x,oX c.dx),(c.dx,oDx w c.kt c.tb c.pb c.ct c.co c.it),(c.ci s.p,oC (c.di s.p)),(c.di s.p,oDc w (c.k1 s.p) (c.k2 s.p) (.str (c.sg s.p) (c.k3 s.p)) (c.li s.p))]:Led),lkX w ext p.1=some p.2:=
   Ab K.hcx (ζ6 K.hcy K.hcz O.hx O.hdx (O.hci _ hp) (O.hdi _ hp))
  have nd7:[cx,cy,cz,c.x,c.dx,c.ci s.p,c.di s.p].Nodup:=by
   have h1:=nd5
   have hci:=O.hci _ hp
   have hdi:=O.hdi _ hp
   have dd:c.dx≠c.di s.p:=fun q=>by
    have h2:=O.hdx
    rw [q,hdi] at h2
    injection h2 with h2
    have h3:=congrArg IT h2
    exact absurd h3 (by show(1002:Nat)≠1005; decide)
   have xx:c.x≠c.ci s.p:=ncell O.hx hci rfl
   replace h1:=ω9l.1 h1; refine ω9m.2 ?_
   refine⟨⟨h1.1.1,h1.1.2.1,h1.1.2.2.1,h1.1.2.2.2,ncell K.hcx hci rfl,ncell K.hcx hdi rfl⟩,⟨h1.2.1.1,h1.2.1.2.1,h1.2.1.2.2,ncell K.hcy hci rfl,ncell K.hcy hdi rfl⟩,
    ⟨h1.2.2.1.1,h1.2.2.1.2,ncell K.hcz hci rfl,ncell K.hcz hdi rfl⟩,⟨h1.2.2.2.1,xx,ncell O.hx hdi rfl⟩,⟨ncell O.hdx hci rfl,dd⟩,ncell hci hdi rfl,not_false,ιN⟩
  have INV2:=Inv.MH S2 (pre:=(L,oFr [de w "c" kc (.ref (c.ci s.p))] 1)::(s.next c).ents c) ro7 nd7 (Ab hL2 own2) nd4 (Ab apL (AO O (s.next c)))
  have behind:∀ (s3:LS) (b:Bool) (st3:Shared),Bb c (c.sg s.p) (s.next c)=(b,s3)→Aft (L::[c.pb,c.ct,c.it]) s1 st3→(∀ p∈s3.ents c,st3.heap.get? p.1=some p.2)→st3.heap.get? L=some (oFr [de w "c" kc (.ref (c.ci s.p))] 1)→
    (fun(b:Bool) (st3:Shared)=>if b=true then wpAny (model pr2 w) Ad (execs (Ev w).2.1 (B2 w code tu cx cy cz sf L)) (fun f s'=>match f with
      | .next=>wpAny (model pr2 w) Ad (execs (IX w) (B2 w code tu cx cy cz sf L)) (fun f s'=>R (.ok (.ret (match f with | .ret v=>v | _=>.none))) s') (fun e s'=>wpAny (model pr2 w) Ad (leaving (B2 w code tu cx cy cz sf L) e) (fun _ s''=>R (.error e) s'') (fun e' s''=>R (.error e') s'') s') s'
      | f=>R (.ok (.ret (match f with | .ret v=>v | _=>.none))) s') (fun e s'=>wpAny (model pr2 w) Ad (leaving (B2 w code tu cx cy cz sf L) e) (fun _ s''=>R (.error e) s'') (fun e' s''=>R (.error e') s'') s') st3
     else wpAny (model pr2 w) Ad (execs (Ev w).2.2.1 (B2 w code tu cx cy cz sf L)) (fun f s'=>match f with
      | .next=>wpAny (model pr2 w) Ad (execs (IX w) (B2 w code tu cx cy cz sf L)) (fun f s'=>R (.ok (.ret (match f with | .ret v=>v | _=>.none))) s') (fun e s'=>wpAny (model pr2 w) Ad (leaving (B2 w code tu cx cy cz sf L) e) (fun _ s''=>R (.error e) s'') (fun e' s''=>R (.error e') s'') s') s'
      | f=>R (.ok (.ret (match f with | .ret v=>v | _=>.none))) s') (fun e s'=>wpAny (model pr2 w) Ad (leaving (B2 w code tu cx cy cz sf L) e) (fun _ s''=>R (.error e) s'') (fun e' s''=>R (.error e') s'') s') st3) b st3:=by
   intro s3 b st3 ho A3 own3 hL3
   have ok3:=EC (c:=c) (sg:=c.sg s.p) Fn
   rw [ho] at ok3
   obtain⟨F3,hb3,hp3⟩:=ok3
   dsimp only at F3 hb3 hp3
   have S3:Ak w ext st3:=S1.aft A3 apD
   have A3':Aft [c.pb,c.ct,c.it] st st3:=low A3
   have tbD:c.tb∉[c.pb,c.ct,c.it]:=by have:=O.nd; rw [List.nodup_cons] at this; exact this.1
   have n225:=DK T own htb
   have htb3:st3.heap.get? c.tb=some (lst ts e0):=A3'.keep _ _ htb tbD
   have T3:Tab st3.heap 229 225 ps:=Tab.aft (w:=w) (ext:=ext) (h:=st.heap) T A3' (fun a ha=>O.ap a (.tail _ ha)) (fun h=>n225 (.tail _ h))
   have X3:Rs c base (B2 w code tu cx cy cz sf L::outer) Ad st3:=X1.move rfl rfl A3 (fun _ h=>h) hLo hL3 ιF
   have I3:=Inv.MH S3 (pre:=[(L,oFr [de w "c" kc (.ref (c.ci s.p))] 1)]) ro5 nd5 (Ab hL3 Aa) (by simp) (Ab apL Aa)
   have ende:∀ (st5:Shared) (s5:LS) (ty tx:Str) (b5:Nat),BH c s=.tok ty tx b5 s5→JA c ty tx b5 ts e0 s5 st3 st5→st5.heap.get? L=some (oFr [de w "c" kc (.ref (c.ci s.p))] 1)→
     wpAny (model pr2 w) Ad (execs (IX w) (B2 w code tu cx cy cz sf L)) (fun f s'=>R (.ok (.ret (match f with | .ret v=>v | _=>.none))) s') (fun e s'=>wpAny (model pr2 w) Ad (leaving (B2 w code tu cx cy cz sf L) e) (fun _ s''=>R (.error e) s'') (fun e' s''=>R (.error e') s'') s') st5:=by
    intro st5 s5 ty tx b5 hl X5 hL5
    have S5:Ak w ext st5:=S3.aft X5.aft (ζ5 (O.ap _ μ0) (O.ap _ μ1) (O.ap _ μ2) (O.ap _ μ3) h225)
    refine Au ?_
    refine Al (g:=Ac pr2 w Ad _ _) (Ao (t:=st5.toks) (ro:=5) W S5 hroom (by decide)) rfl
     (sb3_v _ _ _ _ _ L kc c.x c.dx c.tb c.pb c.ct c.co c.it (c.ci s.p) code tu cx cy cz sf sp c.kt)
     (vs:=[]) Aa (Inv.MH S5 (pre:=[(L,oFr [de w "c" kc (.ref (c.ci s.p))] 1)]) ro5 nd5 (Ab hL5 Aa) (by simp) (Ab apL Aa)) fun s6 I6 H6=>ιp ?_
    have A6:Aft [L] st5 s6:=I6.aft
    obtain⟨x1,⟨ta,dt,kty,kj,t1,t2,t3⟩,x3,ps',x4⟩:=X5
    have nL:∀ {a:Addr} {o:Obj},st.heap.get? a=some o→a∉[L]:=fun e q=>ltL e (by simpa using q)
    have tL:ta∉[L]:=fun q=>by
     have q:ta=L:=by simpa using q
     have:=ιH hL3
     rw [q] at t1
     exact Nat.lt_irrefl _ (ιL this t1)
    refine htok ty tx b5 s5 hl s6 ⟨?_,⟨ta,dt,kty,kj,ιT A3'.size t1,A6.keep _ _ t2 (nL htb),A6.keep _ _ t3 tL⟩,fun p hp=>A6.keep _ _ (x3 p hp) fun q=>?_,ps',Tab.aft (w:=w) (ext:=ext) (h:=st.heap) x4 A6 (Ab apL Aa) (nL T.tab.2)⟩
    ·exact low ((A3.mono (D':=L::[c.tb,c.pb,c.ct,c.it,225]) (ζ4 μ0 μ2 μ3 μ4)).trans ((x1.mono (ζ5 μ1 μ2 μ3 μ4 μ5)).trans (A6.mono (Ab μ0 Aa))))
    ·have q:p.1=L:=by simpa using q
     have hm:p.1∈[c.pb,c.ct,c.it]:=by
      have:p.1∈(s5.ents c).map (·.1):=List.mem_map_of_mem hp
      exact this
     have:=Ca own _ hm
     rw [q,hLe] at this
     exact Nat.lt_irrefl _ this
   have ndt:∀ a∈[c.tb,c.pb,c.ct,c.it,225],a≠L:=fun a ha=>by
    rcases ιC ha with rfl | ha
    ·exact ltL htb
    rcases ιC ha with rfl | ha
    ·exact ltL (own (c.pb,_) μ0)
    rcases ιC ha with rfl | ha
    ·exact ltL (own (c.ct,_) μ1)
    rcases ιC ha with rfl | ha
    ·exact ltL (own (c.it,_) μ2)
    ·obtain rfl:a=225:=by simpa using ha
     exact ltL T.tab.2
   cases b with
   | true=>
    have hl:BH c s=BR c s3:=by rw [hla,ho]
    show(if true=true then _ else _)
    rw [if_pos rfl]
    refine Au ?_
    refine AG (Ao (t:=st3.toks) (ro:=5) W S3 hroom (by decide))
     (sb1_v _ _ _ _ _ L kc c.x c.dx c.tb c.pb c.ct c.co c.it (c.ci s.p) code tu cx cy cz sf sp c.kt) rfl (vs:=[]) Aa I3 fun s4 I4 H4=>?_
    have A4:Aft [L] st3 s4:=I4.aft
    have S4:Ak w ext s4:=S3.aft A4 (Ab apL Aa)
    have hL4:=H4 _ μ0
    dsimp only at hL4
    have nL:∀ {a:Addr} {o:Obj},st.heap.get? a=some o→a∉[L]:=fun e q=>ltL e (by simpa using q)
    have own4:∀ p∈s3.ents c,s4.heap.get? p.1=some p.2:=fun p hp=>A4.keep _ _ (own3 p hp) fun q=>by
     have q:p.1=L:=by simpa using q
     have hm:p.1∈[c.pb,c.ct,c.it]:=by
      have:p.1∈(s3.ents c).map (·.1):=List.mem_map_of_mem hp
      exact this
     have:=Ca own _ hm
     rw [q,hLe] at this
     exact Nat.lt_irrefl _ this
    have X4:Rs c base (B2 w code tu cx cy cz sf L::outer) Ad s4:=X3.move rfl rfl A4 (fun a h=>by rw [ιS h]; exact .head _) hLo hL4 ιF
    refine lexstr_con W O hsg h225 s3 F3 ts e0 hts ps (hroom.le (by decide)) S4 own4 (A4.keep _ _ htb3 (nL htb)) (Tab.aft (w:=w) (ext:=ext) (h:=st.heap) T3 A4 (Ab apL Aa) (nL T.tab.2)) X4 (fun s5 hs5 st5 v X5=>?_) fun pl hpl e st5 Y=>?_
    ·have hL5:st5.heap.get? L=some (oFr [de w "c" kc (.ref (c.ci s.p))] 1):=X5.aft.keep _ _ hL4 fun q=>ndt _ q rfl
     have S5:Ak w ext st5:=S4.aft X5.aft (ζ5 (O.ap _ μ0) (O.ap _ μ1) (O.ap _ μ2) (O.ap _ μ3) h225)
     refine Al (g:=Ac pr2 w Ad _ _) (Ao (t:=st5.toks) (ro:=5) W S5 hroom (by decide)) rfl
      (sb1c_v _ _ _ _ _ L kc c.x c.dx c.tb c.pb c.ct c.co c.it (c.ci s.p) code tu cx cy cz sf sp c.kt st5.heap.objs.size st5.toks v)
      (vs:=[]) Aa (Inv.MH S5 (pre:=[(L,oFr [de w "c" kc (.ref (c.ci s.p))] 1)]) ro5 nd5 (Ab hL5 Aa) (by simp) (Ab apL Aa)) fun s6 I6 H6=>ιp ?_
     have A6:Aft [] st5 s6:=Aft.unmark (D:=[]) I6.aft fun o e=>by rw [hL5] at e; cases e; exact H6 _ μ0
     obtain⟨x1,⟨ta,dt,kty,kj,t1,t2,t3⟩,x3,ps',x4⟩:=X5
     have A4':Aft [] st3 s4:=Aft.unmark (D:=[]) A4 fun o e=>by rw [hL3] at e; cases e; exact hL4
     have n0:∀ a:Addr,a∉([]:List Addr):=fun a h=>nomatch h
     refine ende s6 s5.cut B0 (c.txt s5.b s5.p) s5.b (by rw [hl,BR,hs5]) ⟨(A4'.mono fun x h=>nomatch h).trans (x1.trans (A6.mono fun x h=>nomatch h)),⟨ta,dt,kty,kj,ιT A4.size t1,A6.keep _ _ t2 (n0 _),A6.keep _ _ t3 (n0 _)⟩,fun p hp=>A6.keep _ _ (x3 p hp) (n0 _),ps',Tab.aft (w:=w) (ext:=ext) (h:=st.heap) x4 A6 Aa (n0 _)⟩ (H6 _ μ0)
    ·rw [sb1_k]
     refine wpAny_throw ?_
     show wpAny _ _ (leaving (B2 w code tu cx cy cz sf L) (.ref e)) _ _ _
     have big:Aft [c.pb,c.ct,c.it] st s4:=low (A3.trans (A4.mono (Ab μ0 Aa)))
     have Y':AF w base (B2 w code tu cx cy cz sf L::outer) [c.pb,c.ct,c.it] (B8 c pl) st e st5:=AF.from big Y fun x hx=>.inl hx
     exact Y'.leave (L:=L) X4.frames rfl (.inr (by rw [hLe]; exact ιR _)) fun s6 Z=>herr pl (by rw [hl,BR,hpl]) e s6 Z
   | false=>
    have hl:BH c s=CU c s3:=by rw [hla,ho]
    show(if false=true then _ else _)
    rw [if_neg Bool.false_ne_true]
    refine Au ?_
    refine AG (Ao (t:=st3.toks) (ro:=5) W S3 hroom (by decide))
     (sb2_v _ _ _ _ _ L kc c.x c.dx c.tb c.pb c.ct c.co c.it (c.ci s.p) code tu cx cy cz sf sp c.kt) rfl (vs:=[]) Aa I3 fun s4 I4 H4=>?_
    have A4:Aft [L] st3 s4:=I4.aft
    have S4:Ak w ext s4:=S3.aft A4 (Ab apL Aa)
    have hL4:=H4 _ μ0
    dsimp only at hL4
    have nL:∀ {a:Addr} {o:Obj},st.heap.get? a=some o→a∉[L]:=fun e q=>ltL e (by simpa using q)
    have own4:∀ p∈s3.ents c,s4.heap.get? p.1=some p.2:=fun p hp=>A4.keep _ _ (own3 p hp) fun q=>by
     have q:p.1=L:=by simpa using q
     have hm:p.1∈[c.pb,c.ct,c.it]:=by
      have:p.1∈(s3.ents c).map (·.1):=List.mem_map_of_mem hp
      exact this
     have:=Ca own _ hm
     rw [q,hLe] at this
     exact Nat.lt_irrefl _ this
    refine Hs W O (b:=s3.b) (p:=s3.p) (by rw [hb3,LS.MQ,hbp]; exact ω0r ep hp3) F3.pn hsg h225 Er _ ts e0 s3.e2 hts ps (hroom.le (by decide)) S4 (A4.keep _ _ htb3 (nL htb)) (own4 _ μ1)
     (Tab.aft (w:=w) (ext:=ext) (h:=st.heap) T3 A4 (Ab apL Aa) (nL T.tab.2)) fun s5 Em=>?_
    have hL5:s5.heap.get? L=some (oFr [de w "c" kc (.ref (c.ci s.p))] 1):=Em.aft.keep _ _ hL4 fun q=>by
     replace q:=ω9k q
     rcases q with q | q | q
     ·exact ndt _ μ0 q.symm
     ·exact ndt _ μ2 q.symm
     ·exact ndt 225 (μ4) q.symm
    have S5:Ak w ext s5:=S4.aft Em.aft (ζ3 (O.ap _ μ0) (O.ap _ μ2) h225)
    refine Al (g:=Ac pr2 w Ad _ _) (Ao (t:=s5.toks) (ro:=5) W S5 hroom (by decide)) rfl
     (sb2c_v _ _ _ _ _ L kc c.x c.dx c.tb c.pb c.ct c.co c.it (c.ci s.p) code tu cx cy cz sf sp c.kt s5.heap.objs.size s5.toks)
     (vs:=[]) Aa (Inv.MH S5 (pre:=[(L,oFr [de w "c" kc (.ref (c.ci s.p))] 1)]) ro5 nd5 (Ab hL5 Aa) (by simp) (Ab apL Aa)) fun s6 I6 H6=>ιp ?_
    have A6:Aft [] s5 s6:=Aft.unmark (D:=[]) I6.aft fun o e=>by rw [hL5] at e; cases e; exact H6 _ μ0
    obtain⟨em1,⟨ta,dt,kj,t1,t2,t3⟩,em3,more,em4⟩:=Em
    have A4':Aft [] st3 s4:=Aft.unmark (D:=[]) A4 fun o e=>by rw [hL3] at e; cases e; exact hL4
    have n0:∀ a:Addr,a∉([]:List Addr):=fun a h=>nomatch h
    refine ende s6 s3.cut Er (c.txt s3.b s3.p) s3.b (by rw [hl,CU]) ⟨(A4'.mono fun x h=>nomatch h).trans ((em1.mono (ζ3 μ0 μ2 μ4)).trans (A6.mono fun x h=>nomatch h)),⟨ta,dt,_,kj,ιT A4.size t1,A6.keep _ _ t2 (n0 _),A6.keep _ _ t3 (n0 _)⟩,?_,_,Tab.aft (w:=w) (ext:=ext) (h:=st.heap) em4 A6 Aa (n0 _)⟩ (H6 _ μ0)
    have keep6:∀ (a:Addr) (o:Obj),a∈[c.pb,c.it]→s4.heap.get? a=some o→s6.heap.get? a=some o:=fun a o ha e=>by
     refine A6.keep _ _ (em1.keep _ _ e fun q=>?_) (n0 _)
     have nd:=O.nd
     replace nd:=ω9i.1 nd
     have h225':=n225
     simp only [List.mem_cons,List.not_mem_nil,or_false,not_or] at h225' q ha
     rcases ha with rfl | rfl <;> rcases q with q | q | q
     ·exact nd.1.1 q.symm
     ·exact nd.2.1.1 q
     ·exact h225'.2.1 q.symm
     ·exact nd.1.2.2 q.symm
     ·exact nd.2.2.1 q.symm
     ·exact h225'.2.2.2 q.symm
    have hseg:c.seg s3.p s3.p=[]:=by unfold Cfg.seg; simp
    refine Ab (keep6 _ _ μ0 (own4 _ μ0)) (ζ2 ?_ (keep6 _ _ μ1 (own4 _ μ2)))
    show s6.heap.get? c.ct=some (lst (c.seg s3.p s3.p) (s3.e2+1))
    rw [hseg]
    exact A6.keep _ _ em3 (n0 _)
  have dn:∀ (s3:LS) (st3:Shared),(∀ p,some p∈[some (L,oFr [de w "c" kc (.ref (c.ci s.p))] 1),some (c.pb,s3.o1 c),some (c.ct,s3.o2 c),some (c.it,s3.o3 c)]→st3.heap.get? p.1=some p.2)→(∀ p∈s3.ents c,st3.heap.get? p.1=some p.2):=fun s3 st3 H=>Ab (H _ μ1) (ζ2 (H _ μ2) (H _ μ3))
  by_cases h1:E4 IV (c.sg s.p)=true
  ·refine Al (g:=Ac pr2 w Ad _ _) (Ao (t:=s2.toks) (ro:=7) W S2 hroom (by decide)) rfl
    (si1_v _ _ _ _ _ L kc c.x c.dx c.tb c.pb c.ct c.co c.it (c.ci s.p) (c.di s.p) (c.k1 s.p) (c.k2 s.p) (c.k3 s.p) (c.li s.p) code tu cx cy cz sf sp c.kt (c.sg s.p) ((s.next c).o1 c) ((s.next c).o2 c) ((s.next c).o3 c))
    (Ab (FA S2.new h1) Aa) INV2 fun s3 I3 H3=>ιp (behind (s.next c) true s3 (by rw [Bb,if_pos h1]) (A2.trans I3.aft) (dn _ s3 H3) (H3 _ μ0))
  ·have h1':=Bool.eq_false_iff.mpr h1
   by_cases h2:isC chL (c.sg s.p)=true
   ·have h3:((c.sg s.p).cps.toList == chT.cps.toList)=false:=by
     have:(c.sg s.p).cps.toList=[76]:=by simpa [isC] using h2
     rw [this]; rfl
    obtain⟨g1,d1,C1⟩:=AB W O chQ (s.next c) Fn
    cases hh:(s.next c).hit c chQ with
    | true=>
     rw [hh] at C1
     refine Al (g:=Ac pr2 w Ad _ _) (Ao (t:=s2.toks) (ro:=7) W S2 hroom (by decide)) rfl
      (si2_v _ _ _ _ _ L kc c.x c.dx c.tb c.pb c.ct c.co c.it (c.ci s.p) (c.di s.p) (c.k1 s.p) (c.k2 s.p) (c.k3 s.p) (c.li s.p) code tu cx cy cz sf sp c.kt (c.sg s.p) ((s.next c).o1 c) ((s.next c).o2 c) ((s.next c).o3 c) (((s.next c).acc c chQ).o1 c) (((s.next c).acc c chQ).o2 c) (((s.next c).acc c chQ).o3 c) g1 d1)
      (ζ3 ((C1 _).obl (is:=[8,9,10]) rfl S2.new rfl rfl rfl hdp hu) (Dh S2.new h2) (FA S2.new h1')) INV2 fun s3 I3 H3=>ιp (behind ((s.next c).acc c chQ) true s3 (by rw [Bb,if_neg h1,if_pos h2,hh]) (A2.trans I3.aft) (dn _ s3 H3) (H3 _ μ0))
    | false=>
     rw [hh] at C1
     refine Al (g:=Ac pr2 w Ad _ _) (Ao (t:=s2.toks) (ro:=7) W S2 hroom (by decide)) rfl
      (si3_v _ _ _ _ _ L kc c.x c.dx c.tb c.pb c.ct c.co c.it (c.ci s.p) (c.di s.p) (c.k1 s.p) (c.k2 s.p) (c.k3 s.p) (c.li s.p) code tu cx cy cz sf sp c.kt (c.sg s.p) ((s.next c).o1 c) ((s.next c).o2 c) ((s.next c).o3 c) (((s.next c).acc c chQ).o1 c) (((s.next c).acc c chQ).o2 c) (((s.next c).acc c chQ).o3 c) g1 d1)
      (ζ4 (Dh S2.new h3) ((C1 _).obl (is:=[8,9,10]) rfl S2.new rfl rfl rfl hdp hu) (Dh S2.new h2) (FA S2.new h1')) INV2 fun s3 I3 H3=>ιp (behind ((s.next c).acc c chQ) false s3 (by rw [Bb,if_neg h1,if_pos h2,hh]) (A2.trans I3.aft) (dn _ s3 H3) (H3 _ μ0))
   ·have h2':((c.sg s.p).cps.toList == chL.cps.toList)=false:=Bool.eq_false_iff.mpr h2
    by_cases h3:isC chT (c.sg s.p)=true
    ·obtain⟨g1,d1,C1⟩:=AB W O chT (s.next c) Fn
     cases hh:(s.next c).hit c chT with
     | true=>
      rw [hh] at C1
      refine Al (g:=Ac pr2 w Ad _ _) (Ao (t:=s2.toks) (ro:=7) W S2 hroom (by decide)) rfl
       (si4_v _ _ _ _ _ L kc c.x c.dx c.tb c.pb c.ct c.co c.it (c.ci s.p) (c.di s.p) (c.k1 s.p) (c.k2 s.p) (c.k3 s.p) (c.li s.p) code tu cx cy cz sf sp c.kt (c.sg s.p) ((s.next c).o1 c) ((s.next c).o2 c) ((s.next c).o3 c) (((s.next c).acc c chT).o1 c) (((s.next c).acc c chT).o2 c) (((s.next c).acc c chT).o3 c) g1 d1)
       (ζ4 ((C1 _).obl (is:=[8,9,10]) rfl S2.new rfl rfl rfl hdp hu) (Dh S2.new h3) (Dh S2.new h2') (FA S2.new h1')) INV2 fun s3 I3 H3=>ιp (behind ((s.next c).acc c chT) true s3 (by rw [Bb,if_neg h1,if_neg h2,if_pos h3,hh]) (A2.trans I3.aft) (dn _ s3 H3) (H3 _ μ0))
     | false=>
      rw [hh] at C1
      refine Al (g:=Ac pr2 w Ad _ _) (Ao (t:=s2.toks) (ro:=7) W S2 hroom (by decide)) rfl
       (si5_v _ _ _ _ _ L kc c.x c.dx c.tb c.pb c.ct c.co c.it (c.ci s.p) (c.di s.p) (c.k1 s.p) (c.k2 s.p) (c.k3 s.p) (c.li s.p) code tu cx cy cz sf sp c.kt (c.sg s.p) ((s.next c).o1 c) ((s.next c).o2 c) ((s.next c).o3 c) (((s.next c).acc c chT).o1 c) (((s.next c).acc c chT).o2 c) (((s.next c).acc c chT).o3 c) g1 d1)
       (ζ4 ((C1 _).obl (is:=[8,9,10]) rfl S2.new rfl rfl rfl hdp hu) (Dh S2.new h3) (Dh S2.new h2') (FA S2.new h1')) INV2 fun s3 I3 H3=>ιp (behind ((s.next c).acc c chT) false s3 (by rw [Bb,if_neg h1,if_neg h2,if_pos h3,hh]) (A2.trans I3.aft) (dn _ s3 H3) (H3 _ μ0))
    ·have h3':((c.sg s.p).cps.toList == chT.cps.toList)=false:=Bool.eq_false_iff.mpr h3
     refine Al (g:=Ac pr2 w Ad _ _) (Ao (t:=s2.toks) (ro:=7) W S2 hroom (by decide)) rfl
      (si6_v _ _ _ _ _ L kc c.x c.dx c.tb c.pb c.ct c.co c.it (c.ci s.p) (c.di s.p) (c.k1 s.p) (c.k2 s.p) (c.k3 s.p) (c.li s.p) code tu cx cy cz sf sp c.kt (c.sg s.p) ((s.next c).o1 c) ((s.next c).o2 c) ((s.next c).o3 c))
      (ζ3 (Dh S2.new h3') (Dh S2.new h2') (FA S2.new h1')) INV2 fun s3 I3 H3=>ιp (behind (s.next c) false s3 (by rw [Bb,if_neg h1,if_neg h2,if_neg h3]) (A2.trans I3.aft) (dn _ s3 H3) (H3 _ μ0))
 ·have hla:BH c s=.stop (s.next c):=by rw [BH,if_neg hp]
  simp only [LS.chr,if_neg hp] at C0
  refine Al (g:=Ac pr2 w Ad _ _) (Ao (t:=s1.toks) (ro:=5) W S1 hroom (by decide)) rfl
   (st1_v _ _ _ _ _ L c.x c.dx c.tb c.pb c.ct c.co c.it code tu cx cy cz sf sp c.kt (s.o1 c) (s.o2 c) (s.o3 c) ((s.next c).o1 c) ((s.next c).o2 c) ((s.next c).o3 c) g0 d0)
   (Ab (C0.obl (is:=[6,7,8]) rfl S1.new rfl rfl rfl hdp hu) Aa) INV fun s2 I2 H2=>ιp ?_
  exact hstop _ hla s2 (low I2.aft) (ζ3 (H2 _ μ0) (H2 _ μ1) (H2 _ μ2))
end
noncomputable def exprP(s:Option Stmt):Expr:=match s with
 | some (.Expr (.Yield (some e) _) _)=>e
 | _=>.Constant .none 0 default
noncomputable def JM(s:Option Stmt):Pos×Pos:=match s with
 | some (.Expr (.Yield (some _) yp) p)=>(yp,p)
 | _=>(default,default)
noncomputable def KW(w:World):List Stmt:=(A0 w 208).take 2
noncomputable def gnO(w:World):=Cz (A0 w 208)[2]?
noncomputable def gnI(w:World):=Cz (gnO w).2.1[0]?
noncomputable def gnA(w:World):List Stmt:=(gnO w).2.1.drop 1
noncomputable def gnY(w:World):Expr:=exprP (gnI w).2.1[0]?
noncomputable def M3(w:World):Pos:=(JM (gnI w).2.1[0]?).1
noncomputable def M2(w:World):Pos:=(JM (gnI w).2.1[0]?).2
noncomputable def KU(w:World):Pos:=(gnI w).2.2.2
theorem gn_body(w:World):A0 w 208=KW w++[.While (gnO w).1 (gnO w).2.1 [] (gnO w).2.2.2]:=by kernel_rfl
theorem Ho(w:World):(gnO w).2.1=.While (gnI w).1 (gnI w).2.1 [] (KU w)::gnA w:=by kernel_rfl
theorem gn_inner(w:World):(gnI w).2.1=[.Expr (.Yield (some (gnY w)) (M3 w)) (M2 w)]:=by kernel_rfl
noncomputable abbrev Co(w:World)(k0 k1 k2 k3 x it sf:Nat)(v:Value):Obj:=oFr [de w "self" k0 (.ref x),de w "characters" k1 (.ref it),de w "start_state" k2 (.ref sf),de w "state" k3 v] 4
noncomputable abbrev Ga(fd:FuncData):Obj:=⟨.type "function",none,.func fd,#[]⟩
section
variable(w:World)(f:Fl)(ext:Addr→Option Obj)(n t L k0 k1 k2 k3 x dx tb pb ct co it sf fa ta e0:Nat)(kt:Nat→Nat)(fd:FuncData)(v:Value)
def gn0:Res:=
 run (P4 w f ext n t 0) 24 [1,1,1,1,1,1] [] [] 0 0 .tree
  (BB (B5 (lkX w ext 208)) 208 ⟨[.ref x,.ref it,.ref sf],[]⟩) [] [] []
theorem gn0_v:RvD (gn0 w f ext n t x it sf) [0] (.again (.func (A0 w 208) (Af w 208 n))) 1 1 3 [some (n,oFr [de w "self" t (.ref x),de w "characters" (t+1) (.ref it),de w "start_state" (t+2) (.ref sf)] 3)] []:=by kernel_rfl
def gn1:Res:=
 run (P4 w f ext n t 1) 55 (ιx 28 0x2223330100000101001000000122) [] [(x,oX dx),(L,oFr [de w "self" k0 (.ref x),de w "characters" k1 (.ref it),de w "start_state" k2 (.ref sf)] 3),(dx,AU [de w "token_buffer" (kt 0) (.ref tb),de w "pushed_back" (kt 1) (.ref pb),de w "current_text" (kt 2) (.ref ct),de w "coptions" (kt 3) (.ref co)] 4)] 0 0 .tree
  (Az (KW w) (Af w 208 L)) [] [] []
theorem gn1_v:RvD (gn1 w f ext n t L k0 k1 k2 x dx tb pb ct co it sf kt) [1,2] (.done (.ok .next)) 1 0 3 [some (L,Co w k0 k1 k2 (t+2) x it sf (.ref sf)),some (dx,AU [de w "token_buffer" (kt 0) (.ref tb),de w "pushed_back" (kt 1) (.ref pb),de w "current_text" (kt 2) (.ref ct),de w "coptions" (kt 3) (.ref co),de w "characters" (t+1) (.ref it)] 5)] []:=by kernel_rfl
def gn2:Res:=
 run (P4 w f ext n t 1) 16 [2,1,1] [] [(fa,Ga fd),(L,Co w k0 k1 k2 k3 x it sf (.ref fa))] 0 0 .tree
  (Br (gnO w).1 (Af w 208 L)) [] [] []
theorem KG:RvD (gn2 w f ext n t L k0 k1 k2 k3 x it sf fa fd) [1] (.done (.ok (.ret (.bool true)))) 1 0 0 [some (L,Co w k0 k1 k2 k3 x it sf (.ref fa))] []:=by kernel_rfl
def gn3:Res:=
 run (P4 w f ext n t 0) 14 [1] [] [(L,Co w k0 k1 k2 k3 x it sf (.none))] 0 0 .tree
  (Br (gnO w).1 (Af w 208 L)) [] [] []
theorem gn3_v:RvD (gn3 w f ext n t L k0 k1 k2 k3 x it sf) [0] (.done (.ok (.ret (.bool false)))) 1 0 0 [some (L,Co w k0 k1 k2 k3 x it sf (.none))] []:=by kernel_rfl
def gn4:Res:=
 run (P4 w f ext n t 2) 48 (ιx 26 0x40404044201100000100000013) [] [(x,oX dx),(dx,oDx w kt tb pb ct co it),(L,Co w k0 k1 k2 k3 x it sf (v)),(tb,lst [] e0)] 0 0 .tree
  (Br (gnI w).1 (Af w 208 L)) [] [] []
theorem gn4_v:RvD (gn4 w f ext n t L k0 k1 k2 k3 x dx tb pb ct co it sf e0 kt v) [2,3] (.done (.ok (.ret (.bool false)))) 1 0 3 [some (L,Co w k0 k1 k2 k3 x it sf (v)),some (tb,lst [] e0)] []:=by kernel_rfl
def gn5:Res:=
 run (P4 w f ext n t 2) 48 (ιx 26 0x40404044201100000100000013) [] [(x,oX dx),(dx,oDx w kt tb pb ct co it),(L,Co w k0 k1 k2 k3 x it sf (v)),(tb,lst [.ref ta] e0)] 0 0 .tree
  (Br (gnI w).1 (Af w 208 L)) [] [] []
theorem gn5_v:RvD (gn5 w f ext n t L k0 k1 k2 k3 x dx tb pb ct co it sf ta e0 kt v) [2,3] (.done (.ok (.ret (.bool true)))) 1 0 3 [some (L,Co w k0 k1 k2 k3 x it sf (v)),some (tb,lst [.ref ta] e0)] []:=by kernel_rfl
def gn6:Res:=
 run (P4 w f ext n t 2) 46 (ιx 25 0x2404444201100000100000013) ([Dl 3 tb [] e0 (.ref ta) (t+1)].map Sp.x) [(x,oX dx),(dx,oDx w kt tb pb ct co it),(L,Co w k0 k1 k2 k3 x it sf (v)),(tb,lst [.ref ta] e0)] 0 0 .tree
  (CW (gnY w) (Af w 208 L)) [] [] []
theorem gn6_v:RvD (gn6 w f ext n t L k0 k1 k2 k3 x dx tb pb ct co it sf ta e0 kt v) [2,3] (.done (.ok (.ret (.ref ta)))) 1 0 2 [some (L,Co w k0 k1 k2 k3 x it sf (v)),some (tb,lst [] (e0+1))] [Dl 3 tb [] e0 (.ref ta) (t+1)]:=by kernel_rfl
def gn7:Res:=
 run (P4 w f ext n t 1) 16 [2,1,1] [] [(fa,Ga fd),(L,Co w k0 k1 k2 k3 x it sf (.ref fa))] 0 0 .tree
  (Az (gnA w) (Af w 208 L)) [] [] []
theorem gn7_v:RvC (gn7 w f ext n t L k0 k1 k2 k3 x it sf fa fd) [1] (.call (.call (.ref fa) ⟨[],[]⟩)) 1 0 0 [some (L,Co w k0 k1 k2 k3 x it sf (.ref fa))] []:=by kernel_rfl
variable(e:Nat)
theorem gn7_k:(gn7 w f ext n t L k0 k1 k2 k3 x it sf fa fd).kk (.error (.ref e))=.raise (.ref e):=by kernel_rfl
end
section
variable(w:World)(f:Fl)(ext:Addr→Option Obj)(n t L k0 k1 k2 k3 x it sf fa:Nat)(fd:FuncData)(n2 t2 r:Nat)
def gn8:Res:=
 run (P4 w f ext n2 t2 0) 19 [1,1] [] [(L,Co w k0 k1 k2 k3 x it sf (.ref fa))] 0 0 .tree
  ((gn7 w f ext n t L k0 k1 k2 k3 x it sf fa fd).kk (.ok (.ret (.ref r)))) [] [] []
theorem gn8_v:RvD (gn8 w f ext n t L k0 k1 k2 k3 x it sf fa fd n2 t2 r) [0] (.done (.ok .next)) 1 0 1 [some (L,Co w k0 k1 k2 k3 x it sf (.ref r))] []:=by kernel_rfl
def gn9:Res:=
 run (P4 w f ext n2 t2 0) 19 [1,1] [] [(L,Co w k0 k1 k2 k3 x it sf (.ref fa))] 0 0 .tree
  ((gn7 w f ext n t L k0 k1 k2 k3 x it sf fa fd).kk (.ok (.ret .none))) [] [] []
theorem gn9_v:RvD (gn9 w f ext n t L k0 k1 k2 k3 x it sf fa fd n2 t2) [0] (.done (.ok .next)) 1 0 1 [some (L,Co w k0 k1 k2 k3 x it sf (.none))] []:=by kernel_rfl
variable(sp code:Nat)
def sp1:Res:=
 run (P2 w f ext n t 0) 15 [0] [] [] 0 0 .tree
  (BB (B5 (some (Hh w code))) sp ⟨[],[]⟩) [] [] []
theorem sp1_v:RvD (sp1 w f ext n t sp code) [] (.done (.ok (.ret .none))) 0 1 0 [] []:=by kernel_rfl
end
noncomputable def Jt(look:Addr→Option Obj)(o:Option Obj):Bool:=match o with
 | some ⟨_,_,.func fd,_⟩=>!fd.scope.isCoroutine&&fd.scope.isGenerator&&(match fd.body with | .stmts _=>true | _=>false) &&
  (match fd.code with
   | .ref c=>(match look c with
    | some ⟨.type n,_,.fields vs,_⟩=>(match vs.toList with | _::.str q _::_=>q == fd.qualname | _=>false)
    | _=>false)
   | _=>false)
 | _=>false
theorem codeRec_of_gen{look:Addr→Option Obj}{h:Heap}(hs:∀ a o,look a=some o→h.get? a=some o){o:Option Obj}(e:Jt look o=true) :
  ∃ c d fd sl,o=some ⟨c,d,.func fd,sl⟩∧fd.scope.isCoroutine=false∧fd.scope.isGenerator=true∧fd.body=.stmts (DJ fd)∧h.CodeRec fd.code fd.qualname:=by
 unfold Jt at e
 split at e
 ·rename_i c d fd sl
  simp only [Bool.and_eq_true,Bool.not_eq_true'] at e
  obtain⟨⟨⟨e1,e2⟩,e3⟩,e4⟩:=e
  refine⟨c,d,fd,sl,rfl,e1,e2,?_,?_⟩
  ·unfold DJ; split at e3
   ·rename_i b hb; rw [hb]
   ·cases e3
  ·split at e4
   ·rename_i cc hc
    split at e4
    ·rename_i n d' vs sl' hl
     split at e4
     ·rename_i x q t r hv
      have:q=fd.qualname:=by simpa using e4
      subst this
      exact⟨cc,_,vs,t,hc,hs _ _ hl,rfl,by rw [←Array.getElem?_toList,hv]; rfl⟩
     ·cases e4
    ·cases e4
   ·cases e4
 ·cases e
noncomputable def GK(g:Nat)(nm:Str)(t:Tok)(qn:Str)(t':Tok):Obj:={cls:=.type "generator",data:=.fields #[.int g 0,.str nm t,.str qn t']}
noncomputable def HH(R:Result→Shared→Prop)(nm qn:Str):PySem.Fin→Shared→Prop
 | .again (.func b env),s₂=>s₂.heap.NoLimit∧R (.ok (.ret (.ref s₂.heap.objs.size)))
   {s₂ with gens:=s₂.gens.push (.fresh (.func b env)),toks:=s₂.toks+1+1,heap:=s₂.heap.push (GK s₂.gens.size nm s₂.toks qn (s₂.toks+1))}
 | _,_=>False
theorem call_gen{prog:Program}{w:World}{A:Around}{s:Shared}{look:Addr→Option Obj}{f:Addr}{args:Args}(hs:∀ a o,look a=some o→s.heap.get? a=some o)(hf:Jt look (look f)=true)(hroom:A.depth<recursionLimit)
  (h:wpAny (model prog w) A.in1 (BB (B5 (look f)) f args) (HH R (B5 (look f)).name (B5 (look f)).qualname) (fun e s'=>R (.error e) s') s):codeAny (model prog w) A (.call (.ref f) args) R s:=by
 obtain⟨c,d,fd,sl,e,hco,hgen,hbody,hcd⟩:=codeRec_of_gen hs hf
 have ho:=hs _ _ e
 rw [e] at h
 change wpAny _ A.in1 (BB fd f args) (HH R fd.name fd.qualname) _ s at h
 rw [EM] at h
 refine codeAny_of_tree ?_
 show wpAny _ A.in1 (callAny (.ref f) args) _ _ s
 simp only [callAny]
 refine wpAny_bind (wpAny_load ho ?_)
 obtain⟨cc,oc,vs,tq,hc,hoc,hdc,hq⟩:=hcd
 simp only [callFunction,hco,hgen,hbody,hc]
 refine wpAny_bind (m:=field (.ref cc) 1) (wpAny_field hoc hdc hq (wpAny_bind (ιp ?_)))
 refine Sim.to (Q:=HH R fd.name fd.qualname) (E:=fun e s'=>R (.error e) s') (Sim.bind fun binds=>Sim.bind fun env=>Sim.pure fun s' hq=>?_) (by rw [hc] at h; exact h)
 obtain⟨hn,hr⟩:=hq
 refine wpAny_bind (wpAny_enterFrame hn hroom ?_)
 simp only [newGenerator,newFields]
 exact wpAny_bind (wpAny_bind (wpAny_newGen (wpAny_bind (wpAny_mkText (wpAny_bind (wpAny_mkText (wpAny_newObj_type (ιp hr) (by size_fits))))))))
theorem pyNext_gen{prog:Program}{w:World}{A:Around}{s:Shared}{a:Addr}{g n:Nat}{gs:GenState}{P:Nat→Shared→Shared→Prop}{PE:Nat→Shared→Addr→Shared→Prop}{Y:Protocol}{Q:Option Value→Shared→Prop}(hh:A.handled=none)
  (hl:s.heap.NoLimit) (hroom:A.depth<recursionLimit)
  (hg:s.heap.IsGen a g) (hgs:s.gens[g]? = some gs)
  (hgo:gs.Goes (model prog w) A.in1 (fun n s₀ r s₁=>(r=.ok (.ret .none)∧P n s₀ s₁)∨∃ e,r=.error (.ref e)∧PE n s₀ e s₁) Y n (.send .none) (s.setGen g .running))
  (hY:∀ v s₁ gs',gs'.bare=true→Y (n-1) (s.setGen g .running) v s₁ (fun r' s''=>match n with
    | 0=>False
    | m+1=>gs'.Goes (model prog w) A.in1 (fun n s₀ r s₁=>(r=.ok (.ret .none)∧P n s₀ s₁)∨∃ e,r=.error (.ref e)∧PE n s₀ e s₁) Y m r' s'')→Q (some v) (s₁.setGen g gs'))
  (hP:∀ s₁,P n (s.setGen g .running) s₁→∀ h',s₁.heap.objs.size≤h'.objs.size→(∀ b o,s₁.heap.get? b=some o→h'.get? b=some o)→Q none {s₁.setGen g .finished with heap:=h'})
  (hPE:∀ e s₁,PE n (s.setGen g .running) e s₁→s₁.heap.IsGen a g∧(∀ {A':Around} {Q':Bool→Shared→Prop} {E':Value→Shared→Prop} {s':Shared},A'.handled=none→Aft [] (s₁.setGen g .finished) s'→(∀ s'',Aft [] (s₁.setGen g .finished) s''→Q' false s'')→wpAny (model prog w) A' (isInstance (.ref e) (.type "StopIteration")) Q' E' s')∧∀ s'',Aft [] (s₁.setGen g .finished) s''→E (.ref e) s'') :
  wpAny (model prog w) A (pyNext (.ref a)) Q E s:=by
 unfold pyNext
 refine wpAny_bind (wpAny_attempt (wpAny_callSpecial?_slot (name:=Str.ofString "__next__") hg.typeIs slot_gen_next
  (wpAny_call_entry slot_gen_next hg.typeIs entry_gen_next ?_ (args_gen_next _))))
 show wpAny _ _ (Builtin.Generator.genWake (.ref a) (.send .none)) _ _ s
 unfold Builtin.Generator.genWake
 refine wpAny_bind (wpAny_holding (wpAny_genNumber hg (wpAny_bind (wpAny_genState hgs ?_))))
 cases gs with
 | running=>exact hgo.elim
 | finished=>exact hgo.elim
 | _=>
  refine wpAny_bind (wpAny_roomToWake hl hroom ?_)
  show wpAny _ _ (.resume g (.send .none) [] _) _ _ s
  refine wpAny_resumeQ hgs hgo (fun x s₁ hx=>?_) (fun v s₁ gs' hb hv=>?_)
  ·rcases hx with⟨rfl,hp⟩ | ⟨e,rfl,hp⟩
   ·show wpAny _ _ (newExc (.type "StopIteration") [] >>= _) _ _ _
    refine wpAny_bind ?_
    simp only [newExc,newTuple]
    refine wpAny_bind (wpAny_newObj_type ?_ (by size_fits))
    refine wpAny_bind (m:=firstArgMember _ _) (wpAny_of_eq (a:=Value.none) (by first | rfl | (simp only [firstArgMember]; rfl)) ?_)
    refine wpAny_newObj_type ?_ (by size_fits)
    simp only [raiseNew]
    refine wpAny_bind (wpAny_bind (wpAny_handled ?_))
    rw [show A.in1.handled=none from hh]
    refine wpAny_throw ?_
    refine wpAny_bind (wpAny_isInstance (T:="StopIteration") (b:=true) ⟨_,Heap.get?_push_size _ rfl,rfl⟩ isSubtype_stop ?_)
    exact ιp (hP s₁ hp _ (by rw [Heap.size_push,Heap.size_push]; exact ιT (Nat.le_succ _) (Nat.le_succ _)) fun b o hb=>Heap.get?_push_of_some _ (Heap.get?_push_of_some _ hb))
   ·obtain⟨hgen,hinst,hE⟩:=hPE e s₁ hp
    obtain⟨oG,nm,qn,hoG,hcG,hdG,hsG⟩:=hgen
    show wpAny _ _ (Builtin.Generator.genLeft (.ref a) (.ref e):Sem PySem.Fin) _ _ _
    unfold Builtin.Generator.genLeft Builtin.Generator.madeByALambda
    refine wpAny_bind (wpAny_bind (wpAny_load (s:=s₁.setGen g .finished) (o:=oG) hoG ?_))
    rw [hcG,hdG]
    refine ιp ?_
    refine wpAny_bind (hinst hh (Aft.refl _ _) fun s2 a2=>?_)
    simp only [Bool.and_false,Bool.false_eq_true,if_false]
    show wpAny _ _ (Builtin.Generator.genEscaped (.ref e):Sem PySem.Fin) _ _ _
    unfold Builtin.Generator.genEscaped
    refine wpAny_bind (hinst hh a2 fun s3 a3=>?_)
    show wpAny _ _ (throw (.ref e):Sem PySem.Fin) _ _ _
    refine wpAny_throw ?_
    refine wpAny_bind (hinst hh a3 fun s4 a4=>?_)
    exact wpAny_throw (hE s4 a4)
  ·exact ιp ⟨v,rfl,ιp (hY v s₁ gs' hb hv)⟩
section
variable{prog:Program}{w:World}{A:Around}{R:GenEnd}{Y:Protocol}{n:Nat}{s₀:Shared}{c:Code}{fs:List Frame}{s:Shared}{env:Env}
 {K:Flow→Sem PySem.Fin} {H:Value→Sem PySem.Fin} {gd:Bool→Bool} {lv:List Value→List Value}
theorem seg_split{a b:List Stmt}(h:wpAny (model prog w) (A.over c fs) (execs a env) (fun f s'=>Seg (model prog w) A R Y n s₀ c (match f with | .next=>(execs b env).wrap K H gd lv | f=>K f) fs s') (fun x s'=>Seg (model prog w) A R Y n s₀ c (H x) fs s') s) :
  Seg (model prog w) A R Y n s₀ c ((execs (a++b) env).wrap K H gd lv) fs s:=by
 have e:(execs (a++b) env).wrap K H gd lv=(execs a env).wrap (fun f=>match f with | .next=>(execs b env).wrap K H gd lv | f=>K f) H gd lv:=by
  have:execs (a++b) env=(execs a env >>= fun f=>match f with | .next=>execs b env | f=>pure f):=by
   clear h
   induction a with
   | nil=>rfl
   | cons st a ih=>
    rw [List.cons_append,execs_cons,execs_cons,bind_assoc]
    congr 1
    funext f
    cases f with
    | next=>exact ih
    | _=>rfl
  rw [this,Sem.bind_eq_wrap',Sem.wrap_wrap]
  exact Sem.wrap_congr _ _ _ (fun f=>by cases f <;> rfl) (fun _=>rfl)
 rw [e]
 exact seg_wrap h
theorem seg_back {x:Value} {f:Option Addr} (h:wpAny (model prog w) (A.over c fs) (do
    if (←field x 1) == Value.none then unsupported "frame.own-activation:exception-without-traceback"
    setFlight x f:Sem Unit) (fun _ s'=>Seg (model prog w) A R Y n s₀ c (H x) fs s') (fun e s'=>Seg (model prog w) A R Y n s₀ c (H e) fs s') s) :
  Seg (model prog w) A R Y n s₀ c (((.raise x:Sem Flow).onRaise fun(x:Value)=>do
    if (←field x 1) == Value.none then unsupported "frame.own-activation:exception-without-traceback"
    setFlight x f).wrap K H gd lv) fs s:=by
 rw [Sem.onRaise_eq_wrap,Sem.wrap_wrap]
 show Seg _ A R Y n s₀ c (((do
    if (←field x 1) == Value.none then unsupported "frame.own-activation:exception-without-traceback"
    setFlight x f:Sem Unit).bind fun _=>.raise x).wrap K H _ _) fs s
 rw [Sem.bind_eq_wrap,Sem.wrap_wrap]
 exact seg_wrap h
theorem seg_noted{x:Value}(h:notedBy (model prog w) (A.over c fs) env (fun x s'=>Seg (model prog w) A R Y n s₀ c (.raise x) fs s') x s) :
  Seg (model prog w) A R Y n s₀ c ((do noteFrame x env; theTreesLotGoes x:Sem Unit).wrap (fun _=>.raise x) .raise id id) fs s:=
 seg_wrap (wpAny_bind (wpAny_mono h (fun _ _ q=>wpAny_theTreesLotGoes q) fun _ _ q=>q))
end
noncomputable abbrev Dw:=Str×Str×Nat
noncomputable def Bf(c:Cfg):Nat→LS→List Dw×Option (Option Nat)
 | 0,s=>([],none)
 | m+1,s=>match BH c s with
  | .stop _=>([],none)
  | .err pl=>([],some pl)
  | .tok ty tx b s'=>((ty,tx,b)::(Bf c m s').1,(Bf c m s').2)
theorem DR{c:Cfg}{s s':LS}{ty tx:Str}{b:Nat}(F:s.WF c)(hb:s.b=s.p)(h:BH c s=.tok ty tx b s'):s'.WF c∧s'.b=s'.p∧s.p<s'.p∧b=s.p:=by
 unfold BH at h
 split at h
 ·rename_i hp
  have ep:(s.next c).p=s.p+1:=by unfold LS.next; rw [if_pos hp]
  have ok:=EC (c:=c) (sg:=c.sg s.p) (LS.next_wf F)
  cases ho:Bb c (c.sg s.p) (s.next c) with
  | mk bb s2=>
   rw [ho] at ok
   obtain⟨F2,hb2,hp2⟩:=ok
   dsimp only at F2 hb2 hp2
   rw [ho] at h
   have hb2':s2.b=s.p:=by rw [hb2,LS.MQ,hb]
   cases bb with
   | true=>
    change BR c s2=_ at h
    unfold BR at h
    split at h
    ·rename_i s3 hs3
     cases h
     unfold Ct at hs3
     split at hs3
     ·rename_i hp3
      obtain⟨F3,hb3,hp3'⟩:=Ef (LS.next_wf F2) hs3
      have ep2:(s2.next c).p=s2.p+1:=by unfold LS.next; rw [if_pos hp3]
      exact⟨LS.MP F3,rfl,by show s.p<s3.p; exact ω0s ep hp2 hp3' ep2,by rw [hb3,LS.MQ,hb2']⟩
     ·cases hs3
    ·cases h
   | false=>
    change CU c s2=_ at h
    unfold CU at h
    cases h
    exact⟨LS.MP F2,rfl,by show s.p<s2.p; exact ω0r ep hp2,hb2'⟩
 ·cases h
structure FZ(base:Heap)(l:List Env)(D:List Addr)(s s':Shared):Prop where
 same:s'={s with heap:=s'.heap,toks:=s'.toks,gens:=s'.gens}
 keep:∀ b o,s.heap.get? b=some o→b∉D→s'.heap.get? b=some o
 size:s.heap.objs.size≤s'.heap.objs.size
 ff:s'.heap.FunFrames base l
section
variable{w:World}{ext:Addr→Option Obj}{c:Cfg}
structure GF(w:World)(ext:Addr→Option Obj)(c:Cfg)(base:Heap)(OL:List Env)(Ag:Around)(Lg k0 k1 k2 k3 sf:Nat)(s:LS)(v:Value)(ts:List Value)(e0:Nat)(st:Shared):Prop where
 stat:Ak w ext st
 own:∀ p∈s.ents c,st.heap.get? p.1=some p.2
 fr:st.heap.get? Lg=some (Co w k0 k1 k2 k3 c.x c.it sf v)
 tb:st.heap.get? c.tb=some (lst ts e0)
 tab:∃ ps,Tab st.heap 229 225 ps
 rs:Rs c base (Af w 208 Lg::OL) Ag st
noncomputable abbrev gnD(c:Cfg)(Lg:Nat):List Addr:=[Lg,c.dx,c.tb,c.pb,c.ct,c.it,225]
noncomputable abbrev CO(c:Cfg)(Lg:Nat):List Addr:=[Lg,c.dx,c.tb,c.pb,c.ct,c.it]
noncomputable def YP(w:World)(c:Cfg)(base:Heap)(OL:List Env)(DL:List Addr)(Lg:Nat)(all:List Dw):Protocol:=fun n s₀ v s' kap=>
 ∃ tk ta dt kty kj,n<all.length∧all[all.length-(n+1)]? = some tk∧v=.ref ta∧s'.heap.get? ta=some (oT dt tk.1 kty tk.2.1 kj (c.li tk.2.2))∧ta∉gnD c Lg∧Aft (gnD c Lg) s₀ s'∧s'.heap.FunFrames base OL∧(∃ ps,Tab s'.heap 229 225 ps)∧
  ∀ s'',FZ base OL DL s' s''→kap (.send .none) s''
noncomputable def PP(c:Cfg)(base:Heap)(OL:List Env)(Lg:Nat)(fin:Option (Option Nat)):Nat→Shared→Shared→Prop:=fun n s₀ s'=>n=0∧fin=none∧Aft (CO c Lg) s₀ s'∧s'.heap.FunFrames base OL
noncomputable def PE(w:World)(c:Cfg)(base:Heap)(OL:List Env)(Lg:Nat)(fin:Option (Option Nat)):Nat→Shared→Addr→Shared→Prop:=fun n s₀ e s'=>n=0∧∃ pl,fin=some pl∧AF w base OL (CO c Lg) (B8 c pl) s₀ e s'
noncomputable def RP(w:World)(c:Cfg)(base:Heap)(OL:List Env)(Lg:Nat)(fin:Option (Option Nat)):GenEnd:=fun n s₀ r s₁=>(r=.ok (.ret .none)∧PP c base OL Lg fin n s₀ s₁)∨∃ e,r=.error (.ref e)∧PE w c base OL Lg fin n s₀ e s₁
theorem GF.later{base:Heap}{OL:List Env}{Ag:Around}{Lg k0 k1 k2 k3 sf:Nat}{s:LS}{v:Value}{ts:List Value}{e0:Nat}{st st':Shared}{DL:List Addr}(X:GF w ext c base OL Ag Lg k0 k1 k2 k3 sf s v ts e0 st)(a:FZ base OL DL st st')
  (h1:∀ x∈DL,lkX w ext x=none) (h2:∀ x∈DL,x∉gnD c Lg) (h3:∀ x∈DL,base.get? x=none):GF w ext c base OL Ag Lg k0 k1 k2 k3 sf s v ts e0 st':=by
 have kp:∀ x∈gnD c Lg,∀ o,st.heap.get? x=some o→st'.heap.get? x=some o:=fun x hx o e=>a.keep x o e fun q=>h2 x q hx
 obtain⟨hk,⟨L',o,hf,hn,ho,hd⟩,hr⟩:=X.rs.ff
 refine⟨fun x o e=>a.keep x o (X.stat x o e) fun q=>(by rw [h1 x q] at e; cases e),fun p hp=>kp _ ?_ _ (X.own p hp),kp _ μ0 _ X.fr,kp _ μ2 _ X.tb,?_,⟨X.rs.frames,fun x o e=>a.keep x o (X.rs.stays x o e) fun q=>(by rw [h3 x q] at e; cases e),X.rs.hide,⟨hk,⟨L',o,hf,hn,?_,hd⟩,a.ff⟩,X.rs.fo⟩⟩
 ·have:p.1∈(s.ents c).map (·.1):=List.mem_map_of_mem hp
  have hm:p.1∈[c.pb,c.ct,c.it]:=this
  simp only [List.mem_cons,List.not_mem_nil,or_false] at hm ⊢
  rcases hm with h | h | h <;> simp [h]
 ·obtain⟨ps,T⟩:=X.tab
  refine⟨ps,T.at fun q o hq e=>?_⟩
  rcases hq with rfl | rfl
  ·refine a.keep _ o e fun hm=>?_
   have h9:(lkX w ext 229).isSome=true:=by kernel_rfl
   rw [h1 _ hm] at h9; cases h9
  ·exact kp _ (μ6) _ e
 ·have:L'=Lg:=by
   have:(Af w 208 Lg).frame=some Lg:=rfl
   rw [this] at hf; cases hf; rfl
  subst this
  exact kp _ μ0 _ ho
theorem over1{A:Around}{d:Nat}{OL:List Env}{b:List Stmt}{env:Env}(h:Ar A (d+2))(hf:A.frames=some OL):Ar (A.over (.func b env) []) d∧(A.over (.func b env) []).frames=some (env::OL):=by
 refine⟨⟨h.handled,?_,?_⟩,?_⟩
 ·have:=h.depth; show A.depth+0+1+d<_; exact ω0t this
 ·have:=h.units; have:=BD (.func b env); show A.units+0+(Code.func b env).cUnits+10*d<_; omega
 ·show pushEnvs [env] (pushEnvs [] A.frames)=_
  rw [hf]; rfl
theorem Km{A:Around}{d:Nat}{OL:List Env}{b:List Stmt}{env:Env}{t:Expr}{wb wo:List Stmt}{k:Result→Sem PySem.Fin}{g:Bool}{l kp:List Value}{p:Pos}(h:Ar A (d+3))(hf:A.frames=some OL) :
  Ar (A.over (.whileLoop t wb wo env) [.ret k none g l (.func b env) p kp]) d∧(A.over (.whileLoop t wb wo env) [.ret k none g l (.func b env) p kp]).frames=some (env::OL):=by
 refine⟨⟨?_,?_,?_⟩,?_⟩
 ·show(marksOver _ (A.handled,A.handled)).1=none
  rw [h.handled]; rfl
 ·have:=h.depth; show A.depth+1+0+d<_; exact ω0u this
 ·have:=h.units; have:=BD (.func b env); have:=BD (.whileLoop t wb wo env); show A.units+((Code.func b env).cUnits+0)+(Code.whileLoop t wb wo env).cUnits+10*d<_; omega
 ·show pushEnvs [] (pushEnvs [env] A.frames)=_
  rw [hf]; rfl
theorem Kl{A:Around}{d:Nat}{OL:List Env}{b:List Stmt}{env:Env}{t t':Expr}{wb wo wb' wo':List Stmt}{k k':Result→Sem PySem.Fin}{g g':Bool}{l l' kp kp':List Value}{p p':Pos}(h:Ar A (d+4))(hf:A.frames=some OL) :
  Ar (A.over (.whileLoop t' wb' wo' env) [.ret k' none g' l' (.whileLoop t wb wo env) p' kp',.ret k none g l (.func b env) p kp]) d∧(A.over (.whileLoop t' wb' wo' env) [.ret k' none g' l' (.whileLoop t wb wo env) p' kp',.ret k none g l (.func b env) p kp]).frames=some (env::OL):=by
 refine⟨⟨?_,?_,?_⟩,?_⟩
 ·show(marksOver _ (A.handled,A.handled)).1=none
  rw [h.handled]; rfl
 ·have:=h.depth; show A.depth+1+0+d<_; exact ω0v this
 ·have:=h.units; have:=BD (.func b env); have:=BD (.whileLoop t wb wo env); have:=BD (.whileLoop t' wb' wo' env)
  show A.units+((Code.whileLoop t wb wo env).cUnits+((Code.func b env).cUnits+0))+(Code.whileLoop t' wb' wo' env).cUnits+10*d<_; omega
 ·show pushEnvs [] (pushEnvs [env] A.frames)=_
  rw [hf]; rfl
end
theorem Aft.later{base:Heap}{l:List Env}{D:List Addr}{s s':Shared}(a:Aft D s s')(ff:s'.heap.FunFrames base l):FZ base l D s s':=⟨a.same,a.keep,a.size,ff⟩
theorem Aft.zero(D:List Addr)(s:Shared):Aft D s s:=Aft.refl D s
theorem FQ{P Q:Shared→Prop}{s:Shared}(h:Q s):Jx (fun b s'=>if b=true then P s' else Q s') (.done (.ret (.bool false))) s:=h
theorem EK{P Q:Shared→Prop}{s:Shared}(h:P s):Jx (fun b s'=>if b=true then P s' else Q s') (.done (.ret (.bool true))) s:=h
section
variable{w:World}{ext:Addr→Option Obj}{c:Cfg}
noncomputable abbrev El(w:World)(Lg:Nat):Code:=.whileLoop (gnO w).1 (gnO w).2.1 [] (Af w 208 Lg)
noncomputable abbrev FN(w:World)(Lg:Nat):Code:=.whileLoop (gnI w).1 (gnI w).2.1 [] (Af w 208 Lg)
noncomputable abbrev gnC(w:World)(Lg:Nat):Code:=.func (A0 w 208) (Af w 208 Lg)
section
variable{base:Heap}{OL:List Env}{Ag:Around}{Lg k0 k1 k2 k3 sf:Nat}
theorem GF.sub{s:LS}{v:Value}{ts:List Value}{e0:Nat}{st:Shared}(X:GF w ext c base OL Ag Lg k0 k1 k2 k3 sf s v ts e0 st):∀ x∈[Lg,c.tb,c.pb,c.ct,c.it,225],x<st.heap.objs.size:=by
 obtain⟨ps,T⟩:=X.tab
 have hP:st.heap.get? 225=some {cls:=.none,data:=.fields ps}:=T.tab.2
 exact Ab (ιH X.fr) (ζ5 (ιH X.tb) (ιH (X.own (_,_) μ0)) (ιH (X.own (_,_) μ1)) (ιH (X.own (_,_) μ2)) (ιH hP))
theorem GF.move(O:c.Ok w ext){s:LS}{v v':Value}{ts ts':List Value}{e0 e0':Nat}{st st':Shared}(X:GF w ext c base OL Ag Lg k0 k1 k2 k3 sf s v ts e0 st)(nd:(Lg::[c.tb,c.pb,c.ct,c.it,225]).Nodup)(apL:lkX w ext Lg=none)(hLo:Lg∉OL.filterMap (·.frame))(htbo:c.tb∉OL.filterMap (·.frame))(htbb:base.get? c.tb=none)(a:Aft [Lg,c.tb] st st')
  (hL:st'.heap.get? Lg=some (Co w k0 k1 k2 k3 c.x c.it sf v')) (ht:st'.heap.get? c.tb=some (lst ts' e0')):GF w ext c base OL Ag Lg k0 k1 k2 k3 sf s v' ts' e0' st':=by
 replace nd:=ω9n.1 nd
 obtain⟨ps,T⟩:=X.tab
 refine⟨X.stat.aft a (ζ2 apL (O.ap _ μ0)),fun p hp=>a.keep _ _ (X.own p hp) fun q=>?_,hL,ht,⟨ps,Tab.aft (w:=w) (ext:=ext) (h:=st.heap) T a (ζ2 apL (O.ap _ μ0)) fun q=>?_⟩,?_⟩
 ·have hm:p.1∈[c.pb,c.ct,c.it]:=(List.mem_map_of_mem hp:p.1∈(s.ents c).map (·.1))
  simp only [List.mem_cons,List.not_mem_nil,or_false] at q hm
  rcases q with q | q <;> rcases hm with h | h | h <;> rw [h] at q
  ·exact nd.1.2.1 q.symm
  ·exact nd.1.2.2.1 q.symm
  ·exact nd.1.2.2.2.1 q.symm
  ·exact nd.2.1.1 q.symm
  ·exact nd.2.1.2.1 q.symm
  ·exact nd.2.1.2.2.1 q.symm
 ·replace q:=ω9o q
  rcases q with q | q
  ·exact nd.1.2.2.2.2 q.symm
  ·exact nd.2.1.2.2.2 q.symm
 ·have R:=X.rs
  obtain⟨hk,⟨L',o,hf,hn,ho,hd⟩,hr⟩:=R.ff
  have e:L'=Lg:=by
   have:(Af w 208 Lg).frame=some Lg:=rfl
   rw [this] at hf; cases hf; rfl
  subst e
  refine⟨R.frames,CF R.stays a fun x hx=>?_,R.hide,⟨hk,⟨L',_,hf,hn,hL,fun _ q=>nomatch q⟩,Bl hr a fun b hb hm=>?_⟩,R.fo⟩
  ·replace hx:=ω9o hx
   rcases hx with rfl | rfl
   ·exact hn
   ·exact htbb
  ·replace hm:=ω9o hm
   rcases hm with rfl | rfl
   ·exact hLo hb
   ·exact htbo hb
end
structure Gn(w:World)(ext:Addr→Option Obj)(c:Cfg)(base:Heap)(OL:List Env)(DL:List Addr)(A:Around)(Lg:Nat):Prop where
 room:Ar A 680
 frames:A.frames=some OL
 nd:(Lg::[c.tb,c.pb,c.ct,c.it,225]).Nodup
 apL:lkX w ext Lg=none
 ap225:lkX w ext 225=none
 hLo:Lg∉OL.filterMap (·.frame)
 htbo:c.tb∉OL.filterMap (·.frame)
 h225o:225∉OL.filterMap (·.frame)
 htbb:base.get? c.tb=none
 h225b:base.get? 225=none
 d1:∀ x∈DL,lkX w ext x=none
 d2:∀ x∈DL,x∉gnD c Lg
 d3:∀ x∈DL,base.get? x=none
section
variable{base:Heap}{OL:List Env}{DL:List Addr}{A Ag:Around}{Lg k0 k1 k2 k3 sf:Nat}{R:GenEnd}{Y:Protocol}{n:Nat}{s₀ st:Shared}{s:LS}{v:Value}{e0:Nat}
 {kI kO:Result→Sem PySem.Fin} {pI pO:Pos}
noncomputable abbrev Js(w:World)(Lg:Nat)(kI kO:Result→Sem PySem.Fin)(pI pO:Pos):List Frame:=[.ret kI none false [] (El w Lg) pI [],.ret kO none false [] (gnC w Lg) pO []]
theorem Eh(W:Ae w)(O:c.Ok w ext)(Γ:Gn w ext c base OL DL A Lg)(X:GF w ext c base OL Ag Lg k0 k1 k2 k3 sf s v [] e0 st)(a:Aft (CO c Lg) s₀ st)
  (h:∀ st',GF w ext c base OL Ag Lg k0 k1 k2 k3 sf s v [] e0 st'→Aft (CO c Lg) s₀ st'→Seg (model pr2 w) A R Y n s₀ (El w Lg) (kI (.ok .next)) [.ret kO none false [] (gnC w Lg) pO []] st') :
  Seg (model pr2 w) A R Y n s₀ (FN w Lg) ((model pr2 w).den (FN w Lg)) (Js w Lg kI kO pI pO) st:=by
 obtain⟨hroom,hfr⟩:=Kl (OL:=OL) (b:=A0 w 208) (env:=Af w 208 Lg) (t:=(gnO w).1) (t':=(gnI w).1) (wb:=(gnO w).2.1) (wo:=[]) (wb':=(gnI w).2.1) (wo':=[]) (k:=kO) (k':=kI) (g:=false) (g':=false) (l:=[]) (l':=[]) (kp:=[]) (kp':=[]) (p:=pO) (p':=pI) (d:=600) (Γ.room.le (by decide)) Γ.frames
 have nd:=Γ.nd
 refine seg_whileLoop (B9 ?_)
 generalize hAd:A.over (FN w Lg) (Js w Lg kI kO pI pO)=Ad at hroom hfr ⊢
 have ndt:Lg≠c.tb:=by
  replace nd:=ω9p.1 nd
  exact nd.1.1
 refine Al (g:=Ac pr2 w Ad _ _) (Ao (t:=st.toks) (ro:=2) W X.stat hroom (by decide)) rfl
  (gn4_v _ _ _ _ _ Lg k0 k1 k2 k3 c.x c.dx c.tb c.pb c.ct c.co c.it sf e0 c.kt v) (vs:=[]) Aa
  (Inv.MH X.stat (pre:=[(Lg,Co w k0 k1 k2 k3 c.x c.it sf v),(c.tb,lst [] e0)]) (Bi O) (Aj (Bi O) rfl) (ζ2 X.fr X.tb) (by simp [ndt]) (ζ2 Γ.apL (O.ap _ μ0))) fun st2 I2 H2=>ιp ?_
 have A2:Aft [Lg,c.tb] st st2:=I2.aft
 have X2:GF w ext c base OL Ag Lg k0 k1 k2 k3 sf s v [] e0 st2:=X.move O nd Γ.apL Γ.hLo Γ.htbo Γ.htbb A2 (H2 _ μ0) (H2 _ μ1)
 refine FQ ?_
 exact seg_leaf (c:=FN w Lg) (.ok .next) (h st2 X2 (a.trans (A2.mono (ζ2 μ0 μ2))))
theorem seg_inner1(W:Ae w)(O:c.Ok w ext)(Γ:Gn w ext c base OL DL A Lg){ta dt kty kj:Nat}{all:List Dw}{tk:Dw}(X:GF w ext c base OL Ag Lg k0 k1 k2 k3 sf s v [.ref ta] e0 st)(a:Aft (gnD c Lg) s₀ st)
  (hn:n<all.length) (hi:all[all.length-(n+1)]? = some tk) (hta:st.heap.get? ta=some (oT dt tk.1 kty tk.2.1 kj (c.li tk.2.2))) (hne:ta∉gnD c Lg)
  (h:∀ s'' st',GF w ext c base OL Ag Lg k0 k1 k2 k3 sf s v [] (e0+1) st'→Aft (CO c Lg) s'' st'→Seg (model pr2 w) A R (YP w c base OL DL Lg all) n s'' (El w Lg) (kI (.ok .next)) [.ret kO none false [] (gnC w Lg) pO []] st') :
  Seg (model pr2 w) A R (YP w c base OL DL Lg all) (n+1) s₀ (FN w Lg) ((model pr2 w).den (FN w Lg)) (Js w Lg kI kO pI pO) st:=by
 obtain⟨hroom,hfr⟩:=Kl (OL:=OL) (b:=A0 w 208) (env:=Af w 208 Lg) (t:=(gnO w).1) (t':=(gnI w).1) (wb:=(gnO w).2.1) (wo:=[]) (wb':=(gnI w).2.1) (wo':=[]) (k:=kO) (k':=kI) (g:=false) (g':=false) (l:=[]) (l':=[]) (kp:=[]) (kp':=[]) (p:=pO) (p':=pI) (d:=600) (Γ.room.le (by decide)) Γ.frames
 have nd:=Γ.nd
 refine seg_whileLoop (B9 ?_)
 generalize hAd:A.over (FN w Lg) (Js w Lg kI kO pI pO)=Ad at hroom hfr ⊢
 have ndt:Lg≠c.tb:=by
  replace nd:=ω9p.1 nd
  exact nd.1.1
 refine Al (g:=Ac pr2 w Ad _ _) (Ao (t:=st.toks) (ro:=2) W X.stat hroom (by decide)) rfl
  (gn5_v _ _ _ _ _ Lg k0 k1 k2 k3 c.x c.dx c.tb c.pb c.ct c.co c.it sf ta e0 c.kt v) (vs:=[]) Aa
  (Inv.MH X.stat (pre:=[(Lg,Co w k0 k1 k2 k3 c.x c.it sf v),(c.tb,lst [.ref ta] e0)]) (Bi O) (Aj (Bi O) rfl) (ζ2 X.fr X.tb) (by simp [ndt]) (ζ2 Γ.apL (O.ap _ μ0))) fun st2 I2 H2=>ιp ?_
 have A2:Aft [Lg,c.tb] st st2:=I2.aft
 have X2:GF w ext c base OL Ag Lg k0 k1 k2 k3 sf s v [.ref ta] e0 st2:=X.move O nd Γ.apL Γ.hLo Γ.htbo Γ.htbb A2 (H2 _ μ0) (H2 _ μ1)
 have n2:ta∉[Lg,c.tb]:=fun q=>hne (by
  exact ιI q (ζ2 μ0 μ2))
 have hta2:=A2.keep _ _ hta n2
 refine EK ?_
 have hy:execs (gnI w).2.1 (Af w 208 Lg)=execs [.Expr (.Yield (some (gnY w)) (M3 w)) (M2 w)] (Af w 208 Lg):=congrArg (fun l=>execs l (Af w 208 Lg)) (gn_inner w)
 rw [hy]
 refine seg_execs_cons (seg_Expr_Yield rfl rfl rfl ?_ (by kernel_rfl) (by kernel_rfl))
 rw [hAd]
 refine CB ?_
 rw [←DH]
 have hsz:=sZ
 refine Al (g:=Ac pr2 w Ad _ _) (Ao (t:=st2.toks) (ro:=2) W X2.stat hroom (by decide)) rfl
  (gn6_v _ _ _ _ _ Lg k0 k1 k2 k3 c.x c.dx c.tb c.pb c.ct c.co c.it sf ta e0 c.kt v) (Ab (F9 X2.stat.new (leR rfl) (by decide)) Aa)
  (Inv.MH X2.stat (pre:=[(Lg,Co w k0 k1 k2 k3 c.x c.it sf v),(c.tb,lst [.ref ta] e0)]) (Bi O) (Aj (Bi O) rfl) (ζ2 X2.fr X2.tb) (by simp [ndt]) (ζ2 Γ.apL (O.ap _ μ0))) fun st3 I3 H3=>ιp ?_
 have A3:Aft [Lg,c.tb] st2 st3:=I3.aft
 have X3:GF w ext c base OL Ag Lg k0 k1 k2 k3 sf s v [] (e0+1) st3:=X2.move O nd Γ.apL Γ.hLo Γ.htbo Γ.htbb A3 (H3 _ μ0) (H3 _ μ1)
 intro kap hk
 refine⟨tk,ta,dt,kty,kj,hn,hi,rfl,A3.keep _ _ hta2 n2,hne,a.trans ((A2.trans A3).mono (ζ2 μ0 μ2)),X3.rs.ff.2.2,X3.tab,fun s'' hl=>hk .none s'' ?_⟩
 have X4:=X3.later hl Γ.d1 Γ.d2 Γ.d3
 have:=Eh (pI:=pI) W O Γ X4 (Aft.zero _ s'') (fun st' X' a'=>h s'' st' X' a')
 exact seg_again (c:=FN w Lg) (c':=FN w Lg) rfl this
end
end
noncomputable abbrev JK(c:Code):Flow→Sem PySem.Fin:=fun f=>match f with
 | .next | .cont=>.pure (.again c)
 | .brk=>.pure (.done .next)
 | .ret v=>.pure (.done (.ret v))
noncomputable abbrev Jr(env:Env):Value→Sem PySem.Fin:=fun e=>(do noteFrame e env; theTreesLotGoes e:Sem Unit).wrap (fun _=>.raise e) .raise id id
noncomputable abbrev gnK2(w:World)(Lg:Nat):Flow→Sem PySem.Fin:=fun f=>match f with
 | .next=>(execs (gnA w) (Af w 208 Lg)).wrap (JK (El w Lg)) (Jr (Af w 208 Lg)) id id
 | f=>JK (El w Lg) f
noncomputable abbrev gnKI(w:World)(Lg:Nat):Result→Sem PySem.Fin:=fun r=>((match r with | .ok f=>(.pure f:Sem Flow) | .error e=>.raise e).onRaise fun(x:Value)=>do
    if (←field x 1) == Value.none then unsupported "frame.own-activation:exception-without-traceback"
    setFlight x (Af w 208 Lg).frame).wrap (gnK2 w Lg) (Jr (Af w 208 Lg)) id id
section
variable{w:World}{ext:Addr→Option Obj}{c:Cfg}{base:Heap}{OL:List Env}{DL:List Addr}{A Ag:Around}{Lg k0 k1 k2 k3 sf sp code tu code2 cx cy cz:Nat}
theorem GF.lex(O:c.Ok w ext)(Γ:Gn w ext c base OL DL A Lg){s s':LS}{v:Value}{ts ts':List Value}{e0 e0':Nat}{st st':Shared}(X:GF w ext c base OL Ag Lg k0 k1 k2 k3 sf s v ts e0 st)(a:Aft [c.tb,c.pb,c.ct,c.it,225] st st')
  (own:∀ p∈s'.ents c,st'.heap.get? p.1=some p.2) (ht:st'.heap.get? c.tb=some (lst ts' e0')) (tab:∃ ps,Tab st'.heap 229 225 ps):GF w ext c base OL Ag Lg k0 k1 k2 k3 sf s' v ts' e0' st':=by
 have nd:=Γ.nd
 rw [List.nodup_cons] at nd
 have R:=X.rs
 obtain⟨hk,⟨L',o,hf,hn,ho,hd⟩,hr⟩:=R.ff
 have e:L'=Lg:=by
  have:(Af w 208 Lg).frame=some Lg:=rfl
  rw [this] at hf; cases hf; rfl
 subst e
 have ofo:∀ b∈OL.filterMap (·.frame),b∉[c.tb,c.pb,c.ct,c.it,225]:=fun b hb hm=>by
  have h3:b∉[c.pb,c.ct,c.it]:=R.fo b (by rw [List.filterMap_cons,hf]; exact .tail _ hb)
  simp only [List.mem_cons,List.not_mem_nil,or_false,not_or] at hm h3
  rcases hm with rfl | h | h | h | rfl
  ·exact Γ.htbo hb
  ·exact h3.1 h
  ·exact h3.2.1 h
  ·exact h3.2.2 h
  ·exact Γ.h225o hb
 have bno:∀ x∈[c.tb,c.pb,c.ct,c.it,225],base.get? x=none:=fun x hx=>by
  replace hx:=ω9q hx
  rcases hx with rfl | rfl | rfl | rfl | rfl
  ·exact Γ.htbb
  ·exact R.hide _ (μ0)
  ·exact R.hide _ (μ1)
  ·exact R.hide _ (μ2)
  ·exact Γ.h225b
 refine⟨X.stat.aft a (ζ5 (O.ap _ μ0) (O.ap _ μ1) (O.ap _ μ2) (O.ap _ μ3) Γ.ap225),own,a.keep _ _ X.fr nd.1,ht,tab,⟨R.frames,CF R.stays a bno,R.hide,⟨hk,⟨L',o,hf,hn,a.keep _ _ ho nd.1,hd⟩,Bl hr a ofo⟩,R.fo⟩⟩
theorem rsplit{r:Result}{P R:Addr→Prop}{Q:Prop}(h:match r with | .ok (.ret (.ref v))=>P v | .ok (.ret .none)=>Q | .error (.ref e)=>R e | _=>False) :
  (∃ v,r=.ok (.ret (.ref v))∧P v)∨(r=.ok (.ret .none)∧Q)∨∃ e,r=.error (.ref e)∧R e:=
 match r,h with
 | .ok (.ret (.ref v)),h=>.inl ⟨v,rfl,h⟩
 | .ok (.ret .none),h=>.inr (.inl ⟨rfl,h⟩)
 | .error (.ref e),h=>.inr (.inr ⟨e,rfl,h⟩)
theorem seg_rest(W:Ae w)(O:c.Ok w ext)(hsg:∀ i,i<c.N→(c.sg i).length≤1)(K:Clo w ext c.x sf sp code tu code2 cx cy cz)(Γ:Gn w ext c base OL DL A Lg){all:List Dw}{fin:Option (Option Nat)}{kO:Result→Sem PySem.Fin}{pO:Pos}
  (hN:∀ s₀ st,fin=none→Aft (CO c Lg) s₀ st→st.heap.FunFrames base OL→Seg (model pr2 w) A (RP w c base OL Lg fin) (YP w c base OL DL Lg all) 0 s₀ (gnC w Lg) (kO (.ok .next)) [] st)
  (hE:∀ s₀ st pl e,fin=some pl→Bs w base (Af w 208 Lg::OL) (CO c Lg) (B8 c pl) (rawInt Lg) s₀ e st→Seg (model pr2 w) A (RP w c base OL Lg fin) (YP w c base OL DL Lg all) 0 s₀ (gnC w Lg) (kO (.error (.ref e))) [] st) :
  ∀ (m:Nat) (s:LS) (pre:List Dw),s.WF c→s.b=s.p→c.N<s.p+m→all=pre++(Bf c m s).1→fin=(Bf c m s).2→∀ {s₀ st:Shared} {e0:Nat},GF w ext c base OL Ag Lg k0 k1 k2 k3 sf s (.ref sf) [] e0 st→Aft (CO c Lg) s₀ st→
   Seg (model pr2 w) A (RP w c base OL Lg fin) (YP w c base OL DL Lg all) (Bf c m s).1.length s₀ (El w Lg) ((execs (gnA w) (Af w 208 Lg)).wrap (JK (El w Lg)) (Jr (Af w 208 Lg)) id id) [.ret kO none false [] (gnC w Lg) pO []] st:=by
 intro m
 induction m with
 | zero=>intro s pre F hb hm; have:=F.pn; omega
 | succ m ih=>
  intro s pre F hb hm hall hfin s₀ st e0 X a
  obtain⟨hroom,hfr⟩:=Km (OL:=OL) (b:=A0 w 208) (env:=Af w 208 Lg) (t:=(gnO w).1) (wb:=(gnO w).2.1) (wo:=[]) (k:=kO) (g:=false) (l:=[]) (kp:=[]) (p:=pO) (d:=650) (Γ.room.le (by decide)) Γ.frames
  have test:∀ {n:Nat} {s₀:Shared} {s:LS} {fa:Nat} {fd:FuncData} {ts:List Value} {e0:Nat} {st:Shared},lkX w ext fa=some (Ga fd)→GF w ext c base OL Ag Lg k0 k1 k2 k3 sf s (.ref fa) ts e0 st→
    (∀ st' p,GF w ext c base OL Ag Lg k0 k1 k2 k3 sf s (.ref fa) ts e0 st'→Aft [Lg] st st'→Seg (model pr2 w) A (RP w c base OL Lg fin) (YP w c base OL DL Lg all) n s₀ (FN w Lg) ((model pr2 w).den (FN w Lg)) (Js w Lg (gnKI w Lg) kO p pO) st')→
    Seg (model pr2 w) A (RP w c base OL Lg fin) (YP w c base OL DL Lg all) n s₀ (El w Lg) (.pure (.again (El w Lg))) [.ret kO none false [] (gnC w Lg) pO []] st:=by
   intro n s₀ s fa fd ts e0 st hfa X h
   refine seg_again rfl (seg_whileLoop (B9 ?_))
   have hrd:∀ p∈([(fa,Ga fd)]:Led),lkX w ext p.1=some p.2:=Ab hfa Aa
   refine Al (g:=Ac pr2 w (A.over (El w Lg) [.ret kO none false [] (gnC w Lg) pO []]) _ _) (Ao (t:=st.toks) (ro:=1) W X.stat hroom (by decide)) rfl
    (KG _ _ _ _ _ Lg k0 k1 k2 k3 c.x c.it sf fa fd) (vs:=[]) Aa
    (Inv.MH X.stat (pre:=[(Lg,Co w k0 k1 k2 k3 c.x c.it sf (.ref fa))]) hrd (by simp) (Ab X.fr Aa) (by simp) (Ab Γ.apL Aa)) fun st2 I2 H2=>ιp ?_
   have A2:Aft [Lg] st st2:=I2.aft
   have ndt:c.tb∉[Lg]:=fun q=>by
    have:=Γ.nd
    replace this:=ω9p.1 this
    exact this.1.1 (by simpa using q:c.tb=Lg).symm
   have X2:GF w ext c base OL Ag Lg k0 k1 k2 k3 sf s (.ref fa) ts e0 st2:=X.move O Γ.nd Γ.apL Γ.hLo Γ.htbo Γ.htbb (A2.mono (Ab μ0 Aa)) (H2 _ μ0) (A2.keep _ _ X.tb ndt)
   refine EK ?_
   have hy:execs (gnO w).2.1 (Af w 208 Lg)=execs (.While (gnI w).1 (gnI w).2.1 [] (KU w)::gnA w) (Af w 208 Lg):=congrArg (fun l=>execs l (Af w 208 Lg)) (Ho w)
   rw [hy]
   refine seg_execs_cons (seg_While fun p=>?_)
   exact h st2 p X2 A2
  have hfst:lkX w ext sf=some (Ga (B5 (some (Dn w code tu cx cy cz)))):=K.hst
  have hfsp:lkX w ext sp=some (Ga (B5 (some (Hh w code2)))):=K.hsp
  refine seg_wrap (Au ?_)
  generalize hAd:A.over (El w Lg) [.ret kO none false [] (gnC w Lg) pO []]=Ad at hroom hfr ⊢
  have asg:∀ {s:LS} {fa:Nat} {fd:FuncData} {e0:Nat} {st:Shared} {Fi:PySem.Fin→Shared→Prop} {E:Value→Shared→Prop},lkX w ext fa=some (Ga fd)→GF w ext c base OL Ag Lg k0 k1 k2 k3 sf s (.ref fa) [] e0 st→
    (∀ st2,GF w ext c base OL Ag Lg k0 k1 k2 k3 sf s (.ref fa) [] e0 st2→Aft [Lg] st st2→codeAny (model pr2 w) Ad (.call (.ref fa) ⟨[],[]⟩) (fun r st3=>match r with
     | .ok (.ret (.ref v))=>∃ s' ts' e',GF w ext c base OL Ag Lg k0 k1 k2 k3 sf s' (.ref fa) ts' e' st3∧∀ st4,GF w ext c base OL Ag Lg k0 k1 k2 k3 sf s' (.ref v) ts' e' st4→Aft [Lg] st3 st4→Fi (.done .next) st4
     | .ok (.ret .none)=>∃ s' ts' e',GF w ext c base OL Ag Lg k0 k1 k2 k3 sf s' (.ref fa) ts' e' st3∧∀ st4,GF w ext c base OL Ag Lg k0 k1 k2 k3 sf s' .none ts' e' st4→Aft [Lg] st3 st4→Fi (.done .next) st4
     | .error (.ref e)=>E (.ref e) st3
     | _=>False) st2)→wpAny (model pr2 w) Ad (Az (gnA w) (Af w 208 Lg)) Fi E st:=by
   intro s fa fd e0 st Fi E hfa X h
   have hrd:∀ p∈([(fa,Ga fd)]:Led),lkX w ext p.1=some p.2:=Ab hfa Aa
   refine AG (Ao (t:=st.toks) (ro:=1) W X.stat hroom (by decide)) (gn7_v _ _ _ _ _ Lg k0 k1 k2 k3 c.x c.it sf fa fd) rfl (vs:=[]) Aa
    (Inv.MH X.stat (pre:=[(Lg,Co w k0 k1 k2 k3 c.x c.it sf (.ref fa))]) hrd (by simp) (Ab X.fr Aa) (by simp) (Ab Γ.apL Aa)) fun st2 I2 H2=>?_
   have A2:Aft [Lg] st st2:=I2.aft
   have ndt:c.tb∉[Lg]:=fun q=>by
    have:=Γ.nd
    replace this:=ω9p.1 this
    exact this.1.1 (by simpa using q:c.tb=Lg).symm
   have X2:GF w ext c base OL Ag Lg k0 k1 k2 k3 sf s (.ref fa) [] e0 st2:=X.move O Γ.nd Γ.apL Γ.hLo Γ.htbo Γ.htbb (A2.mono (Ab μ0 Aa)) (H2 _ μ0) (A2.keep _ _ X.tb ndt)
   refine codeAny_mono (h st2 X2 A2) fun r st3 hr=>?_
   have fin4:∀ {v:Value} {s':LS} {ts':List Value} {e':Nat} {st4:Shared},GF w ext c base OL Ag Lg k0 k1 k2 k3 sf s' (.ref fa) ts' e' st3→Aft [Lg] st3 st4→st4.heap.get? Lg=some (Co w k0 k1 k2 k3 c.x c.it sf v)→GF w ext c base OL Ag Lg k0 k1 k2 k3 sf s' v ts' e' st4:=fun X3 A4 hL=>
    X3.move O Γ.nd Γ.apL Γ.hLo Γ.htbo Γ.htbb (A4.mono (Ab μ0 Aa)) hL (A4.keep _ _ X3.tb ndt)
   rcases rsplit hr with⟨v,rfl,s',ts',e',X3,h4⟩ | ⟨rfl,s',ts',e',X3,h4⟩ | ⟨e,rfl,hr⟩
   ·exact uL W X3.stat hroom rfl (gn8_v _ _ _ _ _ Lg k0 k1 k2 k3 c.x c.it sf fa fd st3.heap.objs.size st3.toks v) Aa (Ab X3.fr Aa) (by simp) (Ab Γ.apL Aa) fun st4 I4 H4=>ιp (h4 st4 (fin4 X3 I4.aft (H4 _ μ0)) I4.aft)
   ·exact uL W X3.stat hroom rfl (gn9_v _ _ _ _ _ Lg k0 k1 k2 k3 c.x c.it sf fa fd st3.heap.objs.size st3.toks) Aa (Ab X3.fr Aa) (by simp) (Ab Γ.apL Aa) fun st4 I4 H4=>ιp (h4 st4 (fin4 X3 I4.aft (H4 _ μ0)) I4.aft)
   ·show wpAny _ _ ((run _ _ _ _ _ _ _ _ _ _ _ _).kk (.error (.ref e))) _ _ st3
    have hk:=gn7_k w (Ax w) ext st.heap.objs.size st.toks Lg k0 k1 k2 k3 c.x c.it sf fa fd e
    unfold gn7 at hk
    rw [hk]
    exact wpAny_throw hr
  have LgX:∀ {D:List Addr} {s1 s2:Shared},Aft [Lg] s1 s2→Aft (gnD c Lg) s1 s2:=fun h=>h.mono (Ab μ0 Aa)
  refine asg hfst X fun st2 X2 A2=>?_
  obtain⟨ps,T2⟩:=X2.tab
  have Rs2:Rs c base (Af w 208 Lg::OL) Ad st2:=⟨hfr,X2.rs.stays,X2.rs.hide,X2.rs.ff,X2.rs.fo⟩
  refine start_con W O hsg Γ.ap225 K s F hb [] e0 (by decide) ps (hroom.le (by decide)) X2.stat X2.own X2.tb T2 Rs2 (fun s' hl st3 A3 own3=>?_) (fun ty tx b s' hl st3 X3=>?_) fun pl hl e st3 Y=>?_
  ·-- no sign is left
   have hlen:Bf c (m+1) s=([],none):=by rw [Bf,hl]
   rw [hlen] at hall hfin ⊢
   have tbD:c.tb∉[c.pb,c.ct,c.it]:=by have:=O.nd; rw [List.nodup_cons] at this; exact this.1
   have n225:=DK T2 X2.own X2.tb
   have X3:GF w ext c base OL Ag Lg k0 k1 k2 k3 sf s' (.ref sf) [] e0 st3:=X2.lex O Γ (A3.mono (ζ3 μ1 μ2 μ3)) own3 (A3.keep _ _ X2.tb tbD) ⟨ps,Tab.aft (w:=w) (ext:=ext) (h:=st2.heap) T2 A3 (fun a ha=>O.ap a (.tail _ ha)) (fun h=>n225 (.tail _ h))⟩
   refine⟨s',[],e0,X3,fun st4 X4 A4=>?_⟩
   have a4:Aft (CO c Lg) s₀ st4:=a.trans ((A2.mono (Ab μ0 Aa)).trans ((A3.mono (ζ3 μ3 μ4 μ5)).trans (A4.mono (Ab μ0 Aa))))
   refine test hfsp X4 fun st5 p X5 A5=>?_
   refine Eh W O Γ X5 (a4.trans (A5.mono (Ab μ0 Aa))) fun st6 X6 a6=>?_
   show Seg _ A _ _ _ _ _ ((execs (gnA w) (Af w 208 Lg)).wrap (JK (El w Lg)) (Jr (Af w 208 Lg)) id id) _ st6
   refine seg_wrap (Au ?_)
   rw [hAd]
   refine asg hfsp X6 fun st7 X7 A7=>?_
   obtain⟨co2,hco2,hcq2⟩:=K.hco2
   refine Bv X7.stat (by rw [K.hsp]; exact I9 (by kernel_rfl) (by kernel_rfl) rfl rfl hco2 hcq2) (by have:=hroom.depth; exact ω03 this) ?_
   rw [K.hsp]
   refine Aw (BC (t:=st7.toks) (ro:=0) W X7.stat (hroom.le (show 600≤650 by decide)) (by decide)) rfl (sp1_v _ _ _ _ _ sp code2) (vs:=[]) Aa
    (Inv.MH X7.stat (reads:=[]) (pre:=[]) Aa ιN Aa ιN Aa) fun st8 I8 H8=>?_
   have A8:Aft [] st7 st8:=I8.aft
   have ndt:c.tb∉([]:List Addr):=fun q=>nomatch q
   have X8:GF w ext c base OL Ag Lg k0 k1 k2 k3 sf s' (.ref sp) [] e0 st8:=X7.move O Γ.nd Γ.apL Γ.hLo Γ.htbo Γ.htbb (A8.mono fun x h=>nomatch h) (A8.keep _ _ X7.fr (fun q=>nomatch q)) (A8.keep _ _ X7.tb (fun q=>nomatch q))
   refine⟨s',[],e0,X8,fun st9 X9 A9=>?_⟩
   have a9:Aft (CO c Lg) s₀ st9:=a6.trans ((A7.mono (Ab μ0 Aa)).trans ((A8.mono fun x h=>nomatch h).trans (A9.mono (Ab μ0 Aa))))
   show Seg _ A _ _ _ _ _ (.pure (.again (El w Lg))) _ st9
   refine seg_again rfl (seg_whileLoop (B9 ?_))
   rw [hAd]
   refine uL W X9.stat hroom rfl (gn3_v _ _ _ _ _ Lg k0 k1 k2 k3 c.x c.it sf) Aa (Ab X9.fr Aa) (by simp) (Ab Γ.apL Aa) fun JE I10 H10=>ιp ?_
   refine FQ ?_
   have A10:Aft [Lg] st9 JE:=I10.aft
   refine seg_leaf (c:=El w Lg) (.ok .next) (hN s₀ JE hfin (a9.trans (A10.mono (Ab μ0 Aa))) (Bl X9.rs.ff.2.2 A10 fun b hb hm=>?_))
   rw [ιS hm] at hb
   exact Γ.hLo hb
  ·-- a token
   have hlen:Bf c (m+1) s=((ty,tx,b)::(Bf c m s').1,(Bf c m s').2):=by rw [Bf,hl]
   rw [hlen] at hall hfin ⊢
   obtain⟨F',hb',hp',hbb⟩:=DR F hb hl
   obtain⟨x1,⟨ta,dt,kty,kj,t1,t2,t3⟩,x3,x4⟩:=X3
   have X3':GF w ext c base OL Ag Lg k0 k1 k2 k3 sf s' (.ref sf) [.ref ta] (e0+1) st3:=X2.lex O Γ x1 x3 t2 x4
   have hta:ta∉gnD c Lg:=fun hm=>by
    have sub:=X2.sub
    have hdx:=ιH (X2.stat _ _ O.hdx)
    have:ta<st2.heap.objs.size:=by
     replace hm:=ω9r hm
     rcases hm with rfl | rfl | rfl | rfl | rfl | rfl | rfl
     ·exact sub _ (μ0)
     ·exact hdx
     ·exact sub _ (μ1)
     ·exact sub _ (μ2)
     ·exact sub _ (μ3)
     ·exact sub _ (μ4)
     ·exact sub _ (μ5)
    exact Nat.lt_irrefl _ (ιL this t1)
   refine⟨s',[.ref ta],e0+1,X3',fun st4 X4 A4=>?_⟩
   have a4:Aft (gnD c Lg) s₀ st4:=(a.mono (ζ6 μ0 μ1 μ2 μ3 μ4 μ5)).trans ((A2.mono (Ab μ0 Aa)).trans ((x1.mono (ζ5 μ2 μ3 μ4 μ5 μ6)).trans (A4.mono (Ab μ0 Aa))))
   have nL:∀ {D:List Addr},ta∉[Lg]:=fun q=>hta (by rw [ιS q]; exact .head _)
   show Seg _ A _ _ ((Bf c m s').1.length+1) _ _ _ _ st4
   refine test hfst X4 fun st5 p X5 A5=>?_
   have hn:(Bf c m s').1.length<all.length:=by rw [hall,List.length_append,List.length_cons]; exact ω0w
   have hi:all[all.length-((Bf c m s').1.length+1)]? = some (ty,tx,b):=by
    have e1:all.length-((Bf c m s').1.length+1)=pre.length:=by rw [hall,List.length_append,List.length_cons]; exact ω0x
    rw [e1,hall,List.getElem?_append_right (ιR _),Nat.sub_self]; rfl
   refine seg_inner1 W O Γ X5 (a4.trans (A5.mono (Ab μ0 Aa))) hn hi (A5.keep _ _ (A4.keep _ _ t3 (nL (D:=[]))) (nL (D:=[]))) hta fun s'' st6 X6 a6=>?_
   exact ih s' (pre++[(ty,tx,b)]) F' hb' (ω0y hm hp') (by rw [hall,List.append_assoc]; rfl) hfin X6 a6
  ·-- refused
   have hlen:Bf c (m+1) s=([],some pl):=by rw [Bf,hl]
   rw [hlen] at hall hfin ⊢
   have a2:Aft (CO c Lg) s₀ st2:=a.trans (A2.mono (Ab μ0 Aa))
   have Y':AF w base (Af w 208 Lg::OL) (CO c Lg) (B8 c pl) s₀ e st3:=AF.from a2 Y fun x hx=>.inl (by
    exact ιI hx (ζ3 μ3 μ4 μ5))
   show Seg _ A _ _ _ _ _ (Jr (Af w 208 Lg) (.ref e)) _ st3
   refine seg_noted ?_
   rw [hAd]
   refine Y'.toF.noted (L:=Lg) hfr rfl fun st4 Z=>?_
   exact seg_leaf (c:=El w Lg) (.error (.ref e)) (hE s₀ st4 pl e hfin Z)
end
noncomputable abbrev dx4(w:World)(c:Cfg):Obj:=AU [de w "token_buffer" (c.kt 0) (.ref c.tb),de w "pushed_back" (c.kt 1) (.ref c.pb),de w "current_text" (c.kt 2) (.ref c.ct),de w "coptions" (c.kt 3) (.ref c.co)] 4
noncomputable abbrev KF(w:World)(k0 k1 k2 x it sf:Nat):Obj:=oFr [de w "self" k0 (.ref x),de w "characters" k1 (.ref it),de w "start_state" k2 (.ref sf)] 3
noncomputable abbrev LS.start:LS:=⟨0,0,false,false,0,0⟩
noncomputable def AH(c:Cfg):List Dw×Option (Option Nat):=Bf c (c.N+1) LS.start
noncomputable def exB(ext:Addr→Option Obj)(x a:Addr):Option Obj:=if a=x then none else ext a
noncomputable abbrev M4:Flow→Sem PySem.Fin:=fun f=>.pure (.done (.ret (match f with | .ret v=>v | _=>.none)))
noncomputable abbrev KV(env:Env):Value→Sem PySem.Fin:=fun e=>(leaving env e).wrap (fun _=>.raise e) .raise id id
noncomputable abbrev gnKO(w:World)(Lg:Nat):Result→Sem PySem.Fin:=fun r=>((match r with | .ok f=>(.pure f:Sem Flow) | .error e=>.raise e).onRaise fun(x:Value)=>do
    if (←field x 1) == Value.none then unsupported "frame.own-activation:exception-without-traceback"
    setFlight x (Af w 208 Lg).frame).wrap (fun(f:Flow)=>match f with | .next=>(execs [] (Af w 208 Lg)).wrap M4 (KV (Af w 208 Lg)) id id | f=>M4 f) (KV (Af w 208 Lg)) id id
section
variable{w:World}{ext:Addr→Option Obj}{c:Cfg}{base:Heap}{OL:List Env}{DL:List Addr}{A:Around}{Lg k0 k1 k2 sf sp code tu code2 cx cy cz:Nat}
theorem Fg{x a:Addr}{o:Obj}(hx:lk w x=none):lkX w (exB ext x) a=some o↔(a≠x∧lkX w ext a=some o):=by
 unfold lkX exB
 by_cases e:a=x
 ·subst e
  rw [hx]
  simp
 ·cases q:lk w a <;> simp [e]
theorem Eu(c:Cfg):LS.start.WF c:=⟨ιR _,Nat.zero_le _,(fun h=>nomatch h),(fun h=>nomatch h)⟩
theorem gen_goes(W:Ae w)(O:c.Ok w ext)(hsg:∀ i,i<c.N→(c.sg i).length≤1)(K:Clo w ext c.x sf sp code tu code2 cx cy cz)(Γ:Gn w ext c base OL DL A Lg){s:Shared}(hdx5:lk w c.dx=none)(hk4:c.kt 4=s.toks+1)
  (hS:∀ a o,lkX w ext a=some o→a≠c.dx→s.heap.get? a=some o) (hdx:s.heap.get? c.dx=some (dx4 w c)) (hL:s.heap.get? Lg=some (KF w k0 k1 k2 c.x c.it sf)) (own:∀ p∈LS.start.ents c,s.heap.get? p.1=some p.2) (htb:s.heap.get? c.tb=some (lst [] 0))
  (T:∃ ps,Tab s.heap 229 225 ps) (stays:base.StaysIn s.heap) (hide:∀ a∈[Lg,c.dx,c.pb,c.ct,c.it],base.get? a=none) (ff:s.heap.FunFrames base OL) (fo:∀ b∈OL.filterMap (·.frame),b∉gnD c Lg) (hLg:Lg∉[c.pb,c.ct,c.it]) (ndx:c.dx∉[Lg,c.tb,c.pb,c.ct,c.it,225]) :
  GenState.Goes (model pr2 w) A (RP w c base OL Lg (AH c).2) (YP w c base OL DL Lg (AH c).1) (AH c).1.length (.fresh (gnC w Lg)) (.send .none) s:=by
 refine⟨rfl,seg_func ?_⟩
 have hx:lkX w ext c.x=some (oX c.dx):=O.hx
 have ndx':c.x≠c.dx:=fun q=>by
  have:=O.hdx
  rw [←q,hx] at this; cases this
 have S0:Ak w (exB ext c.dx) s:=fun a o e=>by
  obtain⟨h1,h2⟩:=(Fg hdx5).mp e
  exact hS a o h2 h1
 obtain⟨hroom,hfr⟩:=over1 (OL:=OL) (b:=A0 w 208) (env:=Af w 208 Lg) (d:=650) (Γ.room.le (by decide)) Γ.frames
 have hb:execs (A0 w 208) (Af w 208 Lg)=execs (KW w++[.While (gnO w).1 (gnO w).2.1 [] (gnO w).2.2.2]) (Af w 208 Lg):=congrArg (fun l=>execs l (Af w 208 Lg)) (gn_body w)
 rw [hb]
 refine seg_split (Au ?_)
 have apL0:lkX w (exB ext c.dx) Lg=none:=by
  cases e:lkX w (exB ext c.dx) Lg with
  | none=>rfl
  | some o=>exact absurd ((Fg hdx5).mp e).2 (by rw [Γ.apL]; exact fun q=>nomatch q)
 have apd0:lkX w (exB ext c.dx) c.dx=none:=by
  cases e:lkX w (exB ext c.dx) c.dx with
  | none=>rfl
  | some o=>exact absurd rfl ((Fg hdx5).mp e).1
 have ndL:Lg≠c.dx:=fun q=>ndx (by rw [←q]; exact .head _)
 have hrd:∀ p∈([(c.x,oX c.dx)]:Led),lkX w (exB ext c.dx) p.1=some p.2:=Ab ((Fg hdx5).mpr ⟨ndx',hx⟩) Aa
 refine Al (g:=Ac pr2 w (A.over (gnC w Lg) []) _ _) (Ao (t:=s.toks) (ro:=1) W S0 hroom (by decide)) rfl
  (gn1_v w (Ax w) (exB ext c.dx) s.heap.objs.size s.toks Lg k0 k1 k2 c.x c.dx c.tb c.pb c.ct c.co c.it sf c.kt) (vs:=[]) Aa
  (Inv.MH S0 (pre:=[(Lg,KF w k0 k1 k2 c.x c.it sf),(c.dx,dx4 w c)]) hrd (by simp) (ζ2 hL hdx) (by simp [ndL]) (ζ2 apL0 apd0)) fun s1 I1 H1=>ιp ?_
 have A1:Aft [Lg,c.dx] s s1:=I1.aft
 have hL1:=H1 _ μ0
 have hd1:=H1 _ μ1
 dsimp only at hL1 hd1
 have hd1':s1.heap.get? c.dx=some (oDx w c.kt c.tb c.pb c.ct c.co c.it):=by rw [hd1,←hk4]
 have S1:Ak w ext s1:=fun a o e=>by
  by_cases q:a=c.dx
  ·subst q
   rw [O.hdx] at e; cases e; exact hd1'
  ·refine A1.keep a o (hS a o e q) fun hm=>?_
   replace hm:=ω9o hm
   rcases hm with rfl | rfl
   ·rw [Γ.apL] at e; cases e
   ·exact q rfl
 have Di:∀ a o,a∈[c.tb,c.pb,c.ct,c.it,225]→s.heap.get? a=some o→s1.heap.get? a=some o:=fun a o ha e=>A1.keep a o e fun hm=>by
  have nd:=Γ.nd
  rw [List.nodup_cons] at nd
  replace hm:=ω9o hm
  rcases hm with rfl | rfl
  ·exact nd.1 ha
  ·exact ndx (.tail _ ha)
 have ek:(Af w 208 Lg).scope.kind=.function:=by kernel_rfl
 have R1:Rs c base (Af w 208 Lg::OL) (A.over (gnC w Lg) []) s1:=by
  refine⟨hfr,CF stays A1 (ζ2 (hide _ μ0) (hide _ μ1)),fun a ha=>hide a (.tail _ (.tail _ ha)),⟨by rw [ek]; decide,⟨Lg,_,rfl,hide _ μ0,hL1,fun _ q=>nomatch q⟩,Bl ff A1 fun b hb hm=>fo b hb ?_⟩,fun b hb=>?_⟩
  ·exact ιI hm (ζ2 μ0 μ1)
  ·have:(Af w 208 Lg).frame=some Lg:=rfl
   rw [List.filterMap_cons,this] at hb
   rcases ιC hb with rfl | hb
   ·exact hLg
   ·have:=fo b hb
    intro hm
    apply this
    exact ιI hm (ζ3 μ3 μ4 μ5)
 have X1:GF w ext c base OL (A.over (gnC w Lg) []) Lg k0 k1 k2 (s.toks+2) sf LS.start (.ref sf) [] 0 s1:=by
  refine⟨S1,Ab (Di _ _ (μ1) (own _ μ0)) (ζ2 (Di _ _ (μ2) (own _ μ1)) (Di _ _ (μ3) (own _ μ2))),hL1,Di _ _ (μ0) htb,?_,R1⟩
  obtain⟨ps,T⟩:=T
  refine⟨ps,T.at fun q o hq e=>?_⟩
  rcases hq with rfl | rfl
  ·refine A1.keep _ o e fun hm=>?_
   have h9:(lkX w (exB ext c.dx) 229).isSome=true:=by kernel_rfl
   replace hm:=ω9o hm
   rcases hm with q | q
   ·rw [q,apL0] at h9; cases h9
   ·rw [q,apd0] at h9; cases h9
  ·exact Di _ _ (μ4) e
 have a1:Aft (CO c Lg) s s1:=A1.mono (ζ2 μ0 μ1)
 show Seg _ A _ _ _ _ _ ((execs [.While (gnO w).1 (gnO w).2.1 [] (gnO w).2.2.2] (Af w 208 Lg)).wrap _ _ _ _) _ s1
 refine seg_execs_cons (seg_While fun pO=>?_)
 have hfst:lkX w ext sf=some (Ga (B5 (some (Dn w code tu cx cy cz)))):=K.hst
 have hrd2:∀ p∈([(sf,Ga (B5 (some (Dn w code tu cx cy cz))))]:Led),lkX w ext p.1=some p.2:=Ab hfst Aa
 refine seg_whileLoop (B9 ?_)
 obtain⟨hroom2,hfr2⟩:=Km (OL:=OL) (b:=A0 w 208) (env:=Af w 208 Lg) (t:=(gnO w).1) (wb:=(gnO w).2.1) (wo:=[]) (k:=gnKO w Lg) (g:=false) (l:=[]) (kp:=[]) (p:=pO) (d:=600) (Γ.room.le (by decide)) Γ.frames
 refine Al (g:=Ac pr2 w _ _ _) (Ao (t:=s1.toks) (ro:=1) W S1 hroom2 (by decide)) rfl
  (KG _ _ _ _ _ Lg k0 k1 k2 (s.toks+2) c.x c.it sf sf (B5 (some (Dn w code tu cx cy cz)))) (vs:=[]) Aa
  (Inv.MH S1 (pre:=[(Lg,Co w k0 k1 k2 (s.toks+2) c.x c.it sf (.ref sf))]) hrd2 (by simp) (Ab X1.fr Aa) (by simp) (Ab Γ.apL Aa)) fun s2 I2 H2=>ιp ?_
 have A2:Aft [Lg] s1 s2:=I2.aft
 have ndt:c.tb∉[Lg]:=fun q=>by
  have:=Γ.nd
  replace this:=ω9p.1 this
  exact this.1.1 (by simpa using q:c.tb=Lg).symm
 have X2:GF w ext c base OL (A.over (gnC w Lg) []) Lg k0 k1 k2 (s.toks+2) sf LS.start (.ref sf) [] 0 s2:=X1.move O Γ.nd Γ.apL Γ.hLo Γ.htbo Γ.htbb (A2.mono (Ab μ0 Aa)) (H2 _ μ0) (A2.keep _ _ X1.tb ndt)
 refine EK ?_
 have hy:execs (gnO w).2.1 (Af w 208 Lg)=execs (.While (gnI w).1 (gnI w).2.1 [] (KU w)::gnA w) (Af w 208 Lg):=congrArg (fun l=>execs l (Af w 208 Lg)) (Ho w)
 rw [hy]
 refine seg_execs_cons (seg_While fun p=>?_)
 refine Eh W O Γ X2 (a1.trans (A2.mono (Ab μ0 Aa))) fun s3 X3 a3=>?_
 refine seg_rest W O hsg K Γ (fun s₀ st hf a ffn=>?_) (fun s₀ st pl e hf Z=>?_) (c.N+1) LS.start [] (Eu c) rfl (by show c.N<0+(c.N+1); exact ω0z) rfl rfl X3 a3
 ·show Seg _ A _ _ 0 _ _ (leafOf (.ok (.ret .none))) [] st
  exact seg_end (.ok (.ret .none)) (.inl ⟨rfl,rfl,hf,a,ffn⟩)
 ·refine seg_back ?_
  refine Bs.back (M:=model pr2 w) (A:=A.over (gnC w Lg) []) (env:=Af w 208 Lg) (L:=Lg) (E:=fun x s'=>Seg (model pr2 w) A (RP w c base OL Lg (AH c).2) (YP w c base OL DL Lg (AH c).1) 0 s₀ (gnC w Lg) (KV (Af w 208 Lg) x) [] s') Z rfl fun s4 V=>?_
  refine seg_wrap (Bs.ML (L:=Lg) rfl V (.inl μ0) fun s5 U=>?_)
  exact seg_end (.error (.ref e)) (.inr ⟨e,rfl,rfl,pl,hf,U⟩)
end
noncomputable def P4h(w:World)(f:Fl)(ext:Addr→Option Obj)(hd:Option Value)(n t ro:Nat):Par:=⟨lkX w ext,J0,⟨pr2,pf w f⟩,hd,n,t,ro,60,HI,false⟩
theorem BM{w:World}(W:Ae w){ext hd t ro s}(S:Ak w ext s){A:Around}(hA:A.handled=hd)(hdp:A.depth+60<recursionLimit){Fi E}:Cx (P4h w (Ax w) ext hd s.heap.objs.size t ro) (Ac pr2 w A Fi E) where
 den:=Fk
 S:=by show(⟨pr2,pf w (Ax w)⟩:Setting)=⟨pr2,w.params⟩; rw [Ib]
 hd:=hA.symm
 hdT:=hA.symm
 new:=S.new
 nolim:=fun h H=>W.nolimit h fun a o e=>H a o (by show(match lk w a with | some o=>some o | none=>ext a)=_; rw [e])
 fns:=BA w ext
 dmax:=fun _ _=>by show max A.depth A.depth+60<recursionLimit; exact ω10 hdp
 bind:=fun _ _ _ h=>BL h
 enter:=fun h=>nomatch h
structure MC where
 x:Str
 p0:Pos
 it:Expr
 body:List Stmt
 p1:Pos
 t:Expr
 n:Str
 b0:Stmt
 hb:List Stmt
 hp:Pos
 p2:Pos
noncomputable def tryP(s:Option Stmt):MC:=match s with
 | some (.Try [.For (.Name x p0) it body [] p1] [.ExceptHandler (some t) (some n) (b0::hb) hp] [] [] p2)=>⟨x,p0,it,body,p1,t,n,b0,hb,hp,p2⟩
 | _=>⟨⟨#[]⟩,default,.Constant .none 0 default,[],default,.Constant .none 0 default,⟨#[]⟩,.Pass default,[],default,default⟩
noncomputable def ltP(w:World):MC:=tryP (A0 w 523)[9]?
noncomputable def ltS(w:World):Stmt:=.Try [.For (.Name "t" (ltP w).p0) (ltP w).it (ltP w).body [] (ltP w).p1] [.ExceptHandler (some (ltP w).t) (some "fault") ((ltP w).b0::(ltP w).hb) (ltP w).hp] [] [] (ltP w).p2
noncomputable abbrev As(w:World)(k:Nat→Nat)(v:Nat→Value)(pi ch so kg gl:Nat):List DictEntry:=[de w "script" (k 0) (v 0),de w "tape" (k 1) (v 1),de w "head" (k 2) (v 2),de w "pieces" (k 3) (.ref pi),de w "spots" (k 5) (.ref so),de w "chars" (k 4) (.ref ch),de w "row" (k 6) (v 6),de w "piece" (k 7) (v 7),de w "column" (k 8) (v 8),de w "sign" (k 9) (v 9),de w "got" kg (.ref gl)]
noncomputable abbrev AS(es:List DictEntry)(k:Nat)(sl:Array (Option Value)):Obj:=⟨.type "frame",none,.dict ⟨es⟩ k,sl⟩
noncomputable abbrev Fp(env:Env)(x:Str)(v:Value):Sem PySem.Fin:=PySem.W.R.bindR (PySem.W.Fast.tw7998390705656384164 env x v) fun _=>.pure (.done .next)
noncomputable abbrev Hm(env:Env)(x:Str)(p:Pos):Sem PySem.Fin:=PySem.W.R.bindR (PySem.W.Fast.tw7536695828754713326 env x .none) fun _=>PySem.W.R.bindR (PySem.W.Fast.tw14851354246082423155 env x p) fun _=>.pure (.done .next)
noncomputable abbrev GH(e c:Value):Sem PySem.Fin:=PySem.W.R.bindR (PySem.W.Fast.tw17346088374725804007 e c) fun b=>.pure (.done (.ret (.bool b)))
noncomputable abbrev Ix(e c:Value):Sem PySem.Fin:=PySem.W.R.bindR (isInstance e c) fun b=>.pure (.done (.ret (.bool b)))
noncomputable def M6(Q:Unit→Shared→Prop):PySem.Fin→Shared→Prop
 | .done .next,s=>Q () s
 | _,_=>False
theorem of_storeT{M:Model}{A:Around}{env:Env}{x:Str}{v:Value}{Q:Unit→Shared→Prop}{s:Shared}(h:wpAny M A (Fp env x v) (M6 Q) E s):wpAny M A (storeName env x v) Q E s:=fun Γ p hΓ=>by
 have e:(Fp env x v)=(storeName env x v >>= fun b=>pure (.done .next)):=by
  unfold Fp
  rw [←PySem.W.R.bindR_eq,←PySem.W.Fast.te7998390705656384164]
  rfl
 have:=h Γ p hΓ
 rw [e,Sem.wp_bind'] at this
 exact Sem.wp_mono M Γ _ (fun a p' s' h'=>h') (fun _ _ _ h'=>h') p s this
theorem of_matchT{M:Model}{A:Around}{e c:Value}{Q:Bool→Shared→Prop}{s:Shared}(h:wpAny M A (GH e c) (Jx Q) E s):wpAny M A (excMatches e c) Q E s:=fun Γ p hΓ=>by
 have e:(GH e c)=(excMatches e c >>= fun b=>pure (.done (.ret (.bool b)))):=by
  unfold GH
  rw [←PySem.W.R.bindR_eq,←PySem.W.Fast.te17346088374725804007]
  rfl
 have:=h Γ p hΓ
 rw [e,Sem.wp_bind'] at this
 exact Sem.wp_mono M Γ _ (fun a p' s' h'=>h') (fun _ _ _ h'=>h') p s this
theorem of_instT{M:Model}{A:Around}{e c:Value}{Q:Bool→Shared→Prop}{s:Shared}(h:wpAny M A (Ix e c) (Jx Q) E s):wpAny M A (isInstance e c) Q E s:=fun Γ p hΓ=>by
 have e:(Ix e c)=(isInstance e c >>= fun b=>pure (.done (.ret (.bool b)))):=by
  unfold Ix
  rw [←PySem.W.R.bindR_eq]
  rfl
 have:=h Γ p hΓ
 rw [e,Sem.wp_bind'] at this
 exact Sem.wp_mono M Γ _ (fun a p' s' h'=>h') (fun _ _ _ h'=>h') p s this
theorem of_goesT{M:Model}{A:Around}{env:Env}{x:Str}{p:Pos}{Q:Unit→Shared→Prop}{s:Shared}(h:wpAny M A (Hm env x p) (M6 Q) E s):wpAny M A (do bindName env x .none; unbindBehindTheSuite env x p) Q E s:=fun Γ p' hΓ=>by
 have e:Hm env x p=((bindName env x .none >>= fun _=>unbindBehindTheSuite env x p) >>= fun _=>pure (.done .next)):=by
  unfold Hm
  simp only [←PySem.W.R.bindR_eq]
  rw [←PySem.W.Fast.te7536695828754713326,←PySem.W.Fast.te14851354246082423155]
  rw [bind_assoc]
  rfl
 have:=h Γ p' hΓ
 rw [e,Sem.wp_bind'] at this
 exact Sem.wp_mono M Γ _ (fun a p' s' h'=>h') (fun _ _ _ h'=>h') p' s this
section
variable(w:World)(f:Fl)(ext:Addr→Option Obj)(n t L cx cy cz pi ch so kg gl:Nat)(k:Nat→Nat)(v:Nat→Value)(x sf ce ta ta0 ktt dt kty kj li dl ge e d kf:Nat)(cv gs:List Value)(ty tx:Str)(s1 s2 s4 ms:Value)(c0 r0:Int)(c1 r1:Nat)(vs:Array Value)(sl sd slf:Array (Option Value))(ka kb kc hl:Nat)
def lt1:Res:=
 run (P4 w f ext n t 0) 52 (ιx 27 0x103504044001002000000000000) [] [(L,oFr (As w k v pi ch so kg gl) 11),(cx,An (some (.ref x))),(cy,An (some (.ref sf))),(ch,lst cv ce)] 0 0 .tree
  (CW (ltP w).it (Ai w L cx cy cz)) [] [] []
theorem lt1_v:RvC (lt1 w f ext n t L cx cy cz pi ch so kg gl k v x sf ce cv) [0,1,2,3,4] (.call (.call (.ref 208) ⟨[.ref x,.ref n,.ref sf],[]⟩)) 1 1 1 [some (L,oFr (As w k v pi ch so kg gl) 11),some (cx,An (some (.ref x))),some (cy,An (some (.ref sf))),some (ch,lst cv ce),some (n,oIt ch 0)] []:=by rcases f with⟨_ | _,_,_⟩ <;> kernel_rfl
def lt3a:Res:=
 run (P4 w f ext n t 2) 255 (ιx 190 0x2400101000000100000000000001000012020000002000000000000020000230101000000100000000000001000012020000002000000000000020000232020000002000000000000020000232020000002000000000000020000234444333) ([Bc 3 gl gs ge (.ref n)].map Sp.x) [(li,oL dl (.int c0 c1) s1 s2 (.int r0 r1) s4),(ta,oT dt ty kty tx kj li),(L,oFr (As w k v pi ch so kg gl) 11),(gl,lst gs ge)] 0 0 .tree
  (CS (Ai w L cx cy cz) "t" (.ref ta) (ltP w).body) [] [] []
theorem lt3a_v:RvD (lt3a w f ext n t L cx cy cz pi ch so kg gl k v ta dt kty kj li dl ge gs ty tx s1 s2 s4 c0 r0 c1 r1) [2,3,4] (.done (.ok .next)) 1 1 7 [some (L,oFr (As w k v pi ch so kg gl++[de w "t" (t+0) (.ref ta)]) 12),some (gl,lst (gs++[.ref n]) (ge+1)),some (n,AQ [.str ty kty,.str tx kj,(.int r0 r1),(.int c0 c1)])] [Bc 3 gl gs ge (.ref n)]:=by kernel_rfl
def lt3b:Res:=
 run (P4 w f ext n t 2) 255 (ιx 190 0x2400101000000100000000000001000012020000002000000000000020000230101000000100000000000001000012020000002000000000000020000232020000002000000000000020000232020000002000000000000020000234444333) ([Bc 3 gl gs ge (.ref n)].map Sp.x) [(li,oL dl (.int c0 c1) s1 s2 (.int r0 r1) s4),(ta,oT dt ty kty tx kj li),(L,oFr (As w k v pi ch so kg gl++[de w "t" ktt (.ref ta0)]) 12),(gl,lst gs ge)] 0 0 .tree
  (CS (Ai w L cx cy cz) "t" (.ref ta) (ltP w).body) [] [] []
theorem lt3b_v:RvD (lt3b w f ext n t L cx cy cz pi ch so kg gl k v ta ta0 ktt dt kty kj li dl ge gs ty tx s1 s2 s4 c0 r0 c1 r1) [2,3,4] (.done (.ok .next)) 1 1 7 [some (L,oFr (As w k v pi ch so kg gl++[de w "t" ktt (.ref ta)]) 12),some (gl,lst (gs++[.ref n]) (ge+1)),some (n,AQ [.str ty kty,.str tx kj,(.int r0 r1),(.int c0 c1)])] [Bc 3 gl gs ge (.ref n)]:=by kernel_rfl
def lt40:Res:=
 run (P4h w f ext (some (.ref e)) n t 0) 13 [0] [] [(L,AS (As w k v pi ch so kg gl) 11 slf)] 0 0 .tree
  (CW (ltP w).t (Ai w L cx cy cz)) [] [] []
theorem lt40_v:RvD (lt40 w f ext n t L cx cy cz pi ch so kg gl k v e slf) [0] (.done (.ok (.ret (.ref 156)))) 1 0 0 [some (L,AS (As w k v pi ch so kg gl) 11 slf)] []:=by kernel_rfl
def lt4t:Res:=
 run (P4h w f ext (some (.ref e)) n t 0) 13 [0] [] [(L,AS (As w k v pi ch so kg gl++[de w "t" ktt (.ref ta0)]) 12 slf)] 0 0 .tree
  (CW (ltP w).t (Ai w L cx cy cz)) [] [] []
theorem lt4t_v:RvD (lt4t w f ext n t L cx cy cz pi ch so kg gl k v ta0 ktt e slf) [0] (.done (.ok (.ret (.ref 156)))) 1 0 0 [some (L,AS (As w k v pi ch so kg gl++[de w "t" ktt (.ref ta0)]) 12 slf)] []:=by kernel_rfl
def lt5:Res:=
 run (P4h w f ext (some (.ref e)) n t 0) 16 [0,0,0,1,0] [] [(e,⟨.ref 156,some d,.fields vs,sl⟩)] 0 0 .tree
  (GH (.ref e) (.ref 156)) [] [] []
theorem lt5_v:RvD (lt5 w f ext n t e d vs sl) [0] (.done (.ok (.ret (.bool true)))) 1 0 0 [some (e,⟨.ref 156,some d,.fields vs,sl⟩)] []:=by kernel_rfl
def lt5i:Res:=
 run (P3 w f ext n t 0) 13 [1,0] [] [(e,⟨.ref 156,some d,.fields vs,sl⟩)] 0 0 .tree
  (Ix (.ref e) (.type "StopIteration")) [] [] []
theorem lt5i_v:RvD (lt5i w f ext n t e d vs sl) [0] (.done (.ok (.ret (.bool false)))) 1 0 0 [some (e,⟨.ref 156,some d,.fields vs,sl⟩)] []:=by kernel_rfl
def lt60:Res:=
 run (P4h w f ext (some (.ref e)) n t 0) 15 [1,1] [] [(L,AS (As w k v pi ch so kg gl) 11 slf)] 0 0 .tree
  (Fp (Ai w L cx cy cz) "fault" (.ref e)) [] [] []
theorem lt60_v:RvD (lt60 w f ext n t L cx cy cz pi ch so kg gl k v e slf) [0] (.done (.ok .next)) 1 0 1 [some (L,AS (As w k v pi ch so kg gl++[de w "fault" (t+0) (.ref e)]) 12 slf)] []:=by kernel_rfl
def Ky:Res:=
 run (P4h w f ext (some (.ref e)) n t 2) 52 (ιx 28 0x1402011000100100000001344443) [] [(e,⟨.ref 156,some d,.fields vs,sl⟩),(d,⟨.type "dict",none,.dict #[de w "msg" ka ms,de w "loc" kb (.none),de w "hints" kc (.ref hl)] 3,sd⟩),(L,AS (As w k v pi ch so kg gl++[de w "fault" kf (.ref e)]) 12 slf),(gl,lst gs ge)] 0 0 .tree
  (Az ((ltP w).b0::(ltP w).hb) (Ai w L cx cy cz)) [] [] []
theorem lt70a_v:RvC (Ky w f ext n t L cx cy cz pi ch so kg gl k v ge e d kf gs ms vs sl sd slf ka kb kc hl) [2,3,4] (.call (.builtin "list.append" ⟨[.ref gl,.ref n],[]⟩)) 1 1 2 [some (L,AS (As w k v pi ch so kg gl++[de w "fault" kf (.ref e)]) 12 slf),some (gl,lst gs ge),some (n,AQ [.str ιg (t+1)])] []:=by kernel_rfl
def Kx:Res:=
 run (P4h w f ext (some (.ref e)) n t 3) 176 (ιx 128 0x15001010000001000000000000010000130220002002000000024010100000010000000000000100001302200020020000000243022000200200000002455554) [] [(li,oL dl (.int c0 c1) s1 s2 (.int r0 r1) s4),(e,⟨.ref 156,some d,.fields vs,sl⟩),(d,⟨.type "dict",none,.dict #[de w "msg" ka ms,de w "loc" kb (.ref li),de w "hints" kc (.ref hl)] 3,sd⟩),(L,AS (As w k v pi ch so kg gl++[de w "fault" kf (.ref e)]) 12 slf),(gl,lst gs ge)] 0 0 .tree
  (Az ((ltP w).b0::(ltP w).hb) (Ai w L cx cy cz)) [] [] []
theorem lt70b_v:RvC (Kx w f ext n t L cx cy cz pi ch so kg gl k v li dl ge e d kf gs s1 s2 s4 ms c0 r0 c1 r1 vs sl sd slf ka kb kc hl) [3,4,5] (.call (.builtin "list.append" ⟨[.ref gl,.ref n],[]⟩)) 1 1 6 [some (L,AS (As w k v pi ch so kg gl++[de w "fault" kf (.ref e)]) 12 slf),some (gl,lst gs ge),some (n,AQ [.str ιg (t+1),(.int r0 r1),(.int c0 c1)])] []:=by kernel_rfl
def lt80:Res:=
 run (P4 w f ext n t 0) 21 [1,1,1,1] [] [(L,AS (As w k v pi ch so kg gl++[de w "fault" kf (.ref e)]) 12 slf)] 0 0 .tree
  (Hm (Ai w L cx cy cz) "fault" (ltP w).hp) [] [] []
theorem lt80_v:RvD (lt80 w f ext n t L cx cy cz pi ch so kg gl k v e kf slf) [0] (.done (.ok .next)) 1 0 1 [some (L,AS (As w k v pi ch so kg gl) 13 slf)] []:=by kernel_rfl
def lt6t:Res:=
 run (P4h w f ext (some (.ref e)) n t 0) 15 [1,1] [] [(L,AS (As w k v pi ch so kg gl++[de w "t" ktt (.ref ta0)]) 12 slf)] 0 0 .tree
  (Fp (Ai w L cx cy cz) "fault" (.ref e)) [] [] []
theorem lt6t_v:RvD (lt6t w f ext n t L cx cy cz pi ch so kg gl k v ta0 ktt e slf) [0] (.done (.ok .next)) 1 0 1 [some (L,AS (As w k v pi ch so kg gl++[de w "t" ktt (.ref ta0)]++[de w "fault" (t+0) (.ref e)]) 13 slf)] []:=by kernel_rfl
def Kw:Res:=
 run (P4h w f ext (some (.ref e)) n t 2) 52 (ιx 28 0x1402011000100100000001344443) [] [(e,⟨.ref 156,some d,.fields vs,sl⟩),(d,⟨.type "dict",none,.dict #[de w "msg" ka ms,de w "loc" kb (.none),de w "hints" kc (.ref hl)] 3,sd⟩),(L,AS (As w k v pi ch so kg gl++[de w "t" ktt (.ref ta0)]++[de w "fault" kf (.ref e)]) 13 slf),(gl,lst gs ge)] 0 0 .tree
  (Az ((ltP w).b0::(ltP w).hb) (Ai w L cx cy cz)) [] [] []
theorem lt7ta_v:RvC (Kw w f ext n t L cx cy cz pi ch so kg gl k v ta0 ktt ge e d kf gs ms vs sl sd slf ka kb kc hl) [2,3,4] (.call (.builtin "list.append" ⟨[.ref gl,.ref n],[]⟩)) 1 1 2 [some (L,AS (As w k v pi ch so kg gl++[de w "t" ktt (.ref ta0)]++[de w "fault" kf (.ref e)]) 13 slf),some (gl,lst gs ge),some (n,AQ [.str ιg (t+1)])] []:=by kernel_rfl
def Kv:Res:=
 run (P4h w f ext (some (.ref e)) n t 3) 176 (ιx 128 0x15001010000001000000000000010000130220002002000000024010100000010000000000000100001302200020020000000243022000200200000002455554) [] [(li,oL dl (.int c0 c1) s1 s2 (.int r0 r1) s4),(e,⟨.ref 156,some d,.fields vs,sl⟩),(d,⟨.type "dict",none,.dict #[de w "msg" ka ms,de w "loc" kb (.ref li),de w "hints" kc (.ref hl)] 3,sd⟩),(L,AS (As w k v pi ch so kg gl++[de w "t" ktt (.ref ta0)]++[de w "fault" kf (.ref e)]) 13 slf),(gl,lst gs ge)] 0 0 .tree
  (Az ((ltP w).b0::(ltP w).hb) (Ai w L cx cy cz)) [] [] []
theorem lt7tb_v:RvC (Kv w f ext n t L cx cy cz pi ch so kg gl k v ta0 ktt li dl ge e d kf gs s1 s2 s4 ms c0 r0 c1 r1 vs sl sd slf ka kb kc hl) [3,4,5] (.call (.builtin "list.append" ⟨[.ref gl,.ref n],[]⟩)) 1 1 6 [some (L,AS (As w k v pi ch so kg gl++[de w "t" ktt (.ref ta0)]++[de w "fault" kf (.ref e)]) 13 slf),some (gl,lst gs ge),some (n,AQ [.str ιg (t+1),(.int r0 r1),(.int c0 c1)])] []:=by kernel_rfl
def lt8t:Res:=
 run (P4 w f ext n t 0) 21 [1,1,1,1] [] [(L,AS (As w k v pi ch so kg gl++[de w "t" ktt (.ref ta0)]++[de w "fault" kf (.ref e)]) 13 slf)] 0 0 .tree
  (Hm (Ai w L cx cy cz) "fault" (ltP w).hp) [] [] []
theorem lt8t_v:RvD (lt8t w f ext n t L cx cy cz pi ch so kg gl k v ta0 ktt e kf slf) [0] (.done (.ok .next)) 1 0 1 [some (L,AS (As w k v pi ch so kg gl++[de w "t" ktt (.ref ta0)]) 14 slf)] []:=by kernel_rfl
end
section
variable(w:World)(f:Fl)(ext:Addr→Option Obj)(n t L cx cy cz pi ch so kg gl:Nat)(k:Nat→Nat)(v:Nat→Value)(x sf ce ta0 ktt li dl ge e d kf:Nat)(cv gs:List Value)(s1 s2 s4 ms:Value)(c0 r0:Int)(c1 r1:Nat)(vs:Array Value)(sl sd slf:Array (Option Value))(ka kb kc hl:Nat)(n2 t2 ga:Nat)
def lt2:Res:=
 run (P4 w f ext n2 t2 0) 12 [] [] [(L,oFr (As w k v pi ch so kg gl) 11)] 0 0 .tree
  ((lt1 w f ext n t L cx cy cz pi ch so kg gl k v x sf ce cv).kk (.ok (.ret (.ref ga)))) [] [] []
theorem lt2_v:RvD (lt2 w f ext n t L cx cy cz pi ch so kg gl k v x sf ce cv n2 t2 ga) [0] (.done (.ok (.ret (.ref ga)))) 1 0 0 [some (L,oFr (As w k v pi ch so kg gl) 11)] []:=by rcases f with⟨_ | _,_,_⟩ <;> kernel_rfl
def lt90a:Res:=
 run (P4h w f ext (some (.ref e)) n2 t2 0) 12 [] [] [(L,AS (As w k v pi ch so kg gl++[de w "fault" kf (.ref e)]) 12 slf)] 0 0 .tree
  ((Ky w f ext n t L cx cy cz pi ch so kg gl k v ge e d kf gs ms vs sl sd slf ka kb kc hl).kk (.ok (.ret .none))) [] [] []
theorem lt90a_v:RvD (lt90a w f ext n t L cx cy cz pi ch so kg gl k v ge e d kf gs ms vs sl sd slf ka kb kc hl n2 t2) [0] (.done (.ok .next)) 1 0 0 [some (L,AS (As w k v pi ch so kg gl++[de w "fault" kf (.ref e)]) 12 slf)] []:=by kernel_rfl
def lt90b:Res:=
 run (P4h w f ext (some (.ref e)) n2 t2 0) 12 [] [] [(L,AS (As w k v pi ch so kg gl++[de w "fault" kf (.ref e)]) 12 slf)] 0 0 .tree
  ((Kx w f ext n t L cx cy cz pi ch so kg gl k v li dl ge e d kf gs s1 s2 s4 ms c0 r0 c1 r1 vs sl sd slf ka kb kc hl).kk (.ok (.ret .none))) [] [] []
theorem lt90b_v:RvD (lt90b w f ext n t L cx cy cz pi ch so kg gl k v li dl ge e d kf gs s1 s2 s4 ms c0 r0 c1 r1 vs sl sd slf ka kb kc hl n2 t2) [0] (.done (.ok .next)) 1 0 0 [some (L,AS (As w k v pi ch so kg gl++[de w "fault" kf (.ref e)]) 12 slf)] []:=by kernel_rfl
def lt9ta:Res:=
 run (P4h w f ext (some (.ref e)) n2 t2 0) 12 [] [] [(L,AS (As w k v pi ch so kg gl++[de w "t" ktt (.ref ta0)]++[de w "fault" kf (.ref e)]) 13 slf)] 0 0 .tree
  ((Kw w f ext n t L cx cy cz pi ch so kg gl k v ta0 ktt ge e d kf gs ms vs sl sd slf ka kb kc hl).kk (.ok (.ret .none))) [] [] []
theorem lt9ta_v:RvD (lt9ta w f ext n t L cx cy cz pi ch so kg gl k v ta0 ktt ge e d kf gs ms vs sl sd slf ka kb kc hl n2 t2) [0] (.done (.ok .next)) 1 0 0 [some (L,AS (As w k v pi ch so kg gl++[de w "t" ktt (.ref ta0)]++[de w "fault" kf (.ref e)]) 13 slf)] []:=by kernel_rfl
def lt9tb:Res:=
 run (P4h w f ext (some (.ref e)) n2 t2 0) 12 [] [] [(L,AS (As w k v pi ch so kg gl++[de w "t" ktt (.ref ta0)]++[de w "fault" kf (.ref e)]) 13 slf)] 0 0 .tree
  ((Kv w f ext n t L cx cy cz pi ch so kg gl k v ta0 ktt li dl ge e d kf gs s1 s2 s4 ms c0 r0 c1 r1 vs sl sd slf ka kb kc hl).kk (.ok (.ret .none))) [] [] []
theorem lt9tb_v:RvD (lt9tb w f ext n t L cx cy cz pi ch so kg gl k v ta0 ktt li dl ge e d kf gs s1 s2 s4 ms c0 r0 c1 r1 vs sl sd slf ka kb kc hl n2 t2) [0] (.done (.ok .next)) 1 0 0 [some (L,AS (As w k v pi ch so kg gl++[de w "t" ktt (.ref ta0)]++[de w "fault" kf (.ref e)]) 13 slf)] []:=by kernel_rfl
end
theorem codeAny_for_bind{prog:Program}{w:World}{A:Around}{s:Shared}{x:Str}{p0:Pos}{it:Value}{body:List Stmt}{env:Env}(I:Nat→Shared→Prop)
  (turn:∀ n s,I n s→wpAny (model prog w) A (pyNext it) (fun r s₁=>match r with
   | none=>R (.ok .next) s₁
   | some v=>wpAny (model prog w) A (bindName env x v >>= fun _=>execs body env) (fun f s₃=>match f with
      | .next | .cont=>∃ m,m<n∧I m s₃
      | .brk=>R (.ok .next) s₃
      | .ret v=>R (.ok (.ret v)) s₃) (notedBy (model prog w) A env fun e s'=>R (.error e) s') s₁) (notedBy (model prog w) A env fun e s'=>R (.error e) s') s)
  (n:Nat) (h:I n s):codeAny (model prog w) A (.forLoop (.Name x p0) it body [] env) R s:=by
 refine codeAny_loop' rfl I (fun n s hI=>?_) n h
 show wpAny _ A ((forTurn (.Name x p0) it body [] env).onRaise (fun x=>do noteFrame x env; theTreesLotGoes x)) _ _ s
 refine wpAny_noted ?_
 simp only [forTurn]
 refine wpAny_bind (wpAny_standAt (wpAny_bind (wpAny_onRaise (wpAny_mono (turn n s hI) (fun r s₁ h₁=>?_) fun _ _ h'=>wpAny_standAt h'))))
 cases r with
 | none=>exact ιp (.inr ⟨rfl,codeAny_block (wpAny_execs_nil h₁)⟩)
 | some v=>
  simp only [PySem.assign_Name,bind_assoc]
  refine wpAny_bind (m:=letOwnedTupleGo (.Name x p0) it v) (ιp ?_)
  refine wpAny_bind (wpAny_standAt ?_)
  rw [←bind_assoc]
  refine wpAny_bind (wpAny_mono h₁ (fun f s₃ h₃=>?_) fun _ _ h'=>h')
  cases f with
  | next=>exact ιp (.inl ⟨rfl,h₃⟩)
  | cont=>exact ιp (.inl ⟨rfl,h₃⟩)
  | brk=>exact ιp h₃
  | ret v=>exact ιp h₃
theorem Hp{a b:Array GenState}{g:Nat}{x:GenState}(h:By a b)(hg:a.size≤g)(hx:x.bare=true):By a (b.setIfInBounds g x) where
 keep:=fun i y e=>by
  have hi:i<a.size:=by
   rcases Nat.lt_or_ge i a.size with q | q
   ·exact q
   ·rw [Array.getElem?_eq_none q] at e; cases e
  rw [Array.getElem?_setIfInBounds_ne (ω11 hg hi)]
  exact h.keep i y e
 bare:=fun i y e=>by
  by_cases q:g=i
  ·subst q
   rw [Array.getElem?_setIfInBounds_self] at e
   split at e
   ·cases e; exact .inr hx
   ·cases e
  ·rw [Array.getElem?_setIfInBounds_ne q] at e
   exact h.bare i y e
theorem Fly.keep{base h h':Heap}{l:List Env}{cls:Value}{e d T:Addr}{fl:Value}(F:Fly base l cls e d T fl h)(hs:base.StaysIn h')(ff:h'.FunFrames base l)(he:∀ o,h.get? e=some o→h'.get? e=some o)(ht:∀ o,h.get? T=some o→h'.get? T=some o):Fly base l cls e d T fl h':=by
 obtain⟨f1,f2,f3,f4,f5,⟨oe,vs,x1,x2⟩,⟨oT,ts,y1,y2⟩⟩:=F
 exact⟨hs,ff,f3,f4,f5,⟨oe,vs,he _ x1,x2⟩,⟨oT,ts,ht _ y1,y2⟩⟩
theorem Fly.obj{base h:Heap}{l:List Env}{e d T:Addr}{fl cls:Value}(F:Fly base l cls e d T fl h):∃ vs sl,h.get? e=some ⟨cls,some d,.fields vs,sl⟩:=by
 obtain⟨_,_,_,_,_,⟨oe,vs,x1,x2,x3,x4,_⟩,_⟩:=F
 obtain⟨a,b,c,s⟩:=oe
 dsimp only at x2 x3 x4
 subst x2; subst x3; subst x4
 exact⟨vs,s,x1⟩
theorem AF.aft{w base outer D lv st e st' st''}(X:AF w base outer D lv st e st')(a:Aft [] st' st''):AF w base outer D lv st e st'':=by
 obtain⟨x1,x2,x3,x4,en,kx,d,T,aa,b,k,ms,hh,sl,F,hd,hT⟩:=X
 have n0:∀ x:Addr,x∉([]:List Addr):=fun _ h=>nomatch h
 refine⟨?_,x2.trans a.gens,ιT x3 a.size,x4.trans ((NF.ME a).mono fun _ h=>nomatch h),en,fun b o e hb=>a.keep _ _ (kx b o e hb) (n0 _),d,T,aa,b,k,ms,hh,sl,F.keep (fun b o e=>a.keep _ _ (F.stays b o e) (n0 _)) (Bl F.frames a fun b _=>n0 b) (fun o e=>a.keep _ _ e (n0 _)) (fun o e=>a.keep _ _ e (n0 _)),a.keep _ _ hd (n0 _),hT⟩
 exact smT x1 a.same
theorem AF.regen{w base outer D lv st e st'}(X:AF w base outer D lv st e st')(ga gb:Array GenState)(h:By ga gb):AF w base outer D lv {st with gens:=ga} e {st' with gens:=gb} where
 same:=smV X.same rfl rfl rfl rfl
 gens:=h
 size:=X.size
 nf:=X.nf
 enew:=X.enew
 kx:=X.kx
 fly:=X.fly
theorem placeAt_lt{c:Cfg}{p q:Nat}(h:Ck c p=some q):q<c.N:=by
 unfold Ck at h
 split at h
 ·cases h; assumption
 ·cases h
theorem EO{c:Cfg}:∀ {n:Nat} {s:LS} {q:Nat} {pl:Option Nat},AI c n s q=.err pl→∀ p,pl=some p→p<c.N
 | 0,s,q,pl,h=>by cases h
 | n+1,s,q,pl,h=>by
  rw [AI] at h
  split at h
  ·cases h
  ·split at h
   ·cases h; exact fun p hp=>placeAt_lt hp
   ·split at h
    ·exact EO h
    ·cases h; exact fun p hp=>nomatch hp
theorem lexAt_err{c:Cfg}{s:LS}{pl:Option Nat}(h:BH c s=.err pl):∀ p,pl=some p→p<c.N:=by
 unfold BH at h
 split at h
 ·split at h
  ·unfold BR at h
   split at h
   ·cases h
   ·rename_i pl' he
    cases h
    unfold Ct at he
    split at he
    ·exact EO he
    ·cases he; exact fun p hp=>nomatch hp
  ·cases h
 ·cases h
theorem lexAt_lt{c:Cfg}{s s':LS}{ty tx:Str}{b:Nat}(F:s.WF c)(hb:s.b=s.p)(h:BH c s=.tok ty tx b s'):b<c.N:=by
 obtain⟨F',_,hp,e⟩:=DR F hb h
 have:=F'.pn
 exact ω12 hp e this
theorem EH{c:Cfg}:∀ {m:Nat} {s:LS},s.WF c→s.b=s.p→(∀ tk∈(Bf c m s).1,tk.2.2<c.N)∧∀ p,(Bf c m s).2=some (some p)→p<c.N
 | 0,s,F,hb=>⟨(fun _ h=>nomatch h),(fun _ h=>nomatch h)⟩
 | m+1,s,F,hb=>by
  rw [Bf]
  split
  ·exact⟨(fun _ h=>nomatch h),(fun _ h=>nomatch h)⟩
  ·rename_i pl he
   exact⟨(fun _ h=>nomatch h),fun p hp=>lexAt_err he p (by cases hp; rfl)⟩
  ·rename_i ty tx b s' he
   obtain⟨F',hb',_,_⟩:=DR F hb he
   obtain⟨h1,h2⟩:=EH (m:=m) F' hb'
   refine⟨fun tk h=>?_,h2⟩
   rcases ιC h with rfl | h
   ·exact lexAt_lt F hb he
   ·exact h1 tk h
section
variable{w:World}{ext:Addr→Option Obj}{c:Cfg}
structure Raw(w:World)(ext:Addr→Option Obj)(c:Cfg)(L gl:Nat):Prop where
 hx:lkX w ext c.x=some (oX c.dx)
 hcl:lkX w ext c.cl=some (lst (c.seg 0 c.N) c.ec)
 hci:∀ i,i<c.N→lkX w ext (c.ci i)=some (oC (c.di i))
 hdi:∀ i,i<c.N→lkX w ext (c.di i)=some (oDc w (c.k1 i) (c.k2 i) (.str (c.sg i) (c.k3 i)) (c.li i))
 hli:∀ i,i<c.N→lkX w ext (c.li i)=some (oL (c.dl i) (c.ls i 0) (c.ls i 1) (c.ls i 2) (c.ls i 3) (c.ls i 4))
 nd:[L,gl,c.dx,c.tb,c.pb,c.ct,225].Nodup
 ap:∀ a∈[L,gl,c.dx,c.tb,c.pb,c.ct,225],lkX w ext a=none
 small:c.N≤1000
 hsg:∀ i,i<c.N→(c.sg i).length≤1
 hls:∀ i,i<c.N→∃ r0 r1 c0 c1,c.ls i 3=.int r0 r1∧c.ls i 0=.int c0 c1
noncomputable abbrev EI(c:Cfg)(Lg L gl:Nat):List Addr:=L::gl::gnD c Lg
noncomputable def BI(c:Cfg)(lo:Nat)(h:Heap)(gs:List Value)(l:List Dw):Prop:=gs.length=l.length∧∀ (i:Nat) tk,l[i]? = some tk→∃ a k1 k2,lo≤a∧gs[i]? = some (.ref a)∧h.get? a=some (AQ [.str tk.1 k1,.str tk.2.1 k2,c.ls tk.2.2 3,c.ls tk.2.2 0])
noncomputable def JD:Str:=ιg
noncomputable def Cy(c:Cfg)(h:Heap)(gs:List Value):Option (Option Nat)→Prop
 | none=>gs=[]
 | some none=>∃ a k,gs=[.ref a]∧h.get? a=some (AQ [.str JD k])
 | some (some p)=>∃ a k,gs=[.ref a]∧h.get? a=some (AQ [.str JD k,c.ls p 3,c.ls p 0])
noncomputable def JL(w:World)(es:List DictEntry)(k:Nat→Nat)(v:Nat→Value)(pi ch so kg gl:Nat):Prop:=es=As w k v pi ch so kg gl∨∃ kt ta,es=As w k v pi ch so kg gl++[de w "t" kt (.ref ta)]
structure FY(w:World)(c:Cfg)(A:Around)(Lg ga g L gl:Nat)(k:Nat→Nat)(v:Nat→Value)(pi so kg:Nat)(OL:List Env)(st:Shared)(i:Nat)(s:Shared):Prop where
 gen:∃ gst,s.gens[g]? = some gst∧gst.Goes (model pr2 w) A.in1 (RP w c {} OL Lg (AH c).2) (YP w c {} OL [L,gl] Lg (AH c).1) ((AH c).1.length-i) (.send .none) (s.setGen g .running)
 isg:s.heap.IsGen ga g
 gext:By st.gens s.gens
 same:s={st with heap:=s.heap,toks:=s.toks,gens:=s.gens}
 kept:KX (EI c Lg L gl) st.heap s.heap
 size:st.heap.objs.size≤s.heap.objs.size
 fr:∃ es n,s.heap.get? L=some (oFr es n)∧((i=0∧es=As w k v pi c.cl so kg gl∧n=11)∨∃ kt ta,es=As w k v pi c.cl so kg gl++[de w "t" kt (.ref ta)]∧n=12)
 tab:∃ ps,Tab s.heap 229 225 ps
 got:∃ gs ge,s.heap.get? gl=some (lst gs ge)∧BI c st.heap.objs.size s.heap gs ((AH c).1.take i)
theorem Eb{h:Heap}{env:Env}{L:Nat}{o:Obj}(hk:env.scope.kind≠.module)(hf:env.frame=some L)(ho:h.get? L=some o)(hd:∀ vs,o.data≠.fields vs):h.FunFrames ({}:Heap) [env]:=⟨hk,⟨L,o,hf,by simp [Heap.get?],ho,hd⟩,trivial⟩
end
section
variable{w:World}{ext:Addr→Option Obj}{c:Cfg}
theorem law_turn(W:Ae w){L gl cx cy cz Lg ga g pi so kg:Nat}{k:Nat→Nat}{v:Nat→Value}(Rw:Raw w ext c L gl){A:Around}(hA:Ar A 690)(hfA:A.frames=some [Ai w L cx cy cz]){st s:Shared}(S0:Ak w ext st){i:Nat}
  (hgs:st.gens.size≤g) (hga:ga≠L) (hLg:lkX w ext Lg=none) (hit:lkX w ext c.it=none) (hne:ga∉gnD c Lg) (hi:i≤(AH c).1.length) (X:FY w c A Lg ga g L gl k v pi so kg [Ai w L cx cy cz] st i s) {Q:Option Value→Shared→Prop} {E:Value→Shared→Prop}
  (hstop:∀ s₁,i=(AH c).1.length→(AH c).2=none→By st.gens s₁.gens→s₁={st with heap:=s₁.heap,toks:=s₁.toks,gens:=s₁.gens}→KX (CO c Lg) s.heap s₁.heap→s.heap.objs.size≤s₁.heap.objs.size→Q none s₁)
  (htok:∀ s₁ tk ta dt kty kj,i<(AH c).1.length→(AH c).1[i]? = some tk→By st.gens s₁.gens→s₁={st with heap:=s₁.heap,toks:=s₁.toks,gens:=s₁.gens}→KX (gnD c Lg) s.heap s₁.heap→s.heap.objs.size≤s₁.heap.objs.size→s₁.heap.get? ta=some (oT dt tk.1 kty tk.2.1 kj (c.li tk.2.2))→ta∉gnD c Lg→(∃ ps,Tab s₁.heap 229 225 ps)→
   (∀ s₂,FZ ({}:Heap) [Ai w L cx cy cz] [L,gl] s₁ s₂→By s₁.gens s₂.gens→∃ gst,s₂.gens[g]? = some gst∧gst.Goes (model pr2 w) A.in1 (RP w c {} [Ai w L cx cy cz] Lg (AH c).2) (YP w c {} [Ai w L cx cy cz] [L,gl] Lg (AH c).1) ((AH c).1.length-(i+1)) (.send .none) (s₂.setGen g .running))→
   Q (some (.ref ta)) s₁)
  (herr:∀ s₁ pl e,i=(AH c).1.length→(AH c).2=some pl→AF w ({}:Heap) [Ai w L cx cy cz] (CO c Lg) (B8 c pl) {s with gens:=st.gens} e s₁→E (.ref e) s₁) :
  wpAny (model pr2 w) A (pyNext (.ref ga)) Q E s:=by
 obtain⟨⟨gst,hg1,hg2⟩,isg,gext,same,kept,size,fr,tab,got⟩:=X
 have apG:∀ x∈EI c Lg L gl,lkX w ext x=none:=fun x hx=>by
  replace hx:=ω9s hx
  rcases hx with rfl | rfl | rfl | rfl | rfl | rfl | rfl | rfl | rfl
  ·exact Rw.ap _ (μ0)
  ·exact Rw.ap _ (μ1)
  ·exact hLg
  ·exact Rw.ap _ (μ2)
  ·exact Rw.ap _ (μ3)
  ·exact Rw.ap _ (μ4)
  ·exact Rw.ap _ (μ5)
  ·exact hit
  ·exact Rw.ap _ (μ6)
 have Ss:Ak w ext s:=fun a o e=>kept a o (S0 a o e) fun q=>by rw [apG a q] at e; cases e
 have hnl:s.heap.NoLimit:=W.nolimit _ fun a o e=>Ss a o (by show(match lk w a with | some o=>some o | none=>ext a)=_; rw [e])
 have sg:∀ (s₁:Shared) (x:GenState),x.bare=true→By (s.setGen g .running).gens s₁.gens→By st.gens (s₁.setGen g x).gens:=fun s₁ x hx h=>by
  refine Hp (By.trans ?_ h) hgs hx
  exact Hp gext hgs rfl
 have szg:∀ (s₁:Shared) (x:GenState),By (s.setGen g .running).gens s₁.gens→(s₁.setGen g x).gens[g]? = some x:=fun s₁ x h=>by
  have h1:(s.setGen g .running).gens[g]? = some .running:=by
   have hlt:g<s.gens.size:=by
    rcases Nat.lt_or_ge g s.gens.size with q | q
    ·exact q
    ·rw [Array.getElem?_eq_none q] at hg1; cases hg1
   show(s.gens.setIfInBounds g .running)[g]? = _
   rw [Array.getElem?_setIfInBounds_self,if_pos hlt]
  have h2:=h.keep _ _ h1
  have hlt:g<s₁.gens.size:=by
   rcases Nat.lt_or_ge g s₁.gens.size with q | q
   ·exact q
   ·rw [Array.getElem?_eq_none q] at h2; cases h2
  show(s₁.gens.setIfInBounds g x)[g]? = _
  rw [Array.getElem?_setIfInBounds_self,if_pos hlt]
 have smg:∀ (s₁:Shared) (x:GenState),s₁={s.setGen g .running with heap:=s₁.heap,toks:=s₁.toks,gens:=s₁.gens}→s₁.setGen g x={st with heap:=(s₁.setGen g x).heap,toks:=(s₁.setGen g x).toks,gens:=(s₁.setGen g x).gens}:=fun s₁ x h=>smV h rfl (smd same :) rfl (smo same :)
 have hfrm:(Ai w L cx cy cz).frame=some L:=rfl
 refine pyNext_gen (P:=PP c {} [Ai w L cx cy cz] Lg (AH c).2) (PE:=PE w c {} [Ai w L cx cy cz] Lg (AH c).2) hA.handled hnl (by have:=hA.depth; exact ω03 this) isg hg1 hg2 (fun v s₁ gs' hbare hY=>?_) (fun s₁ hP h' hz hk=>?_) fun e s₁ hPE=>?_
 ·obtain⟨tk,ta,dt,kty,kj,hn,hidx,rfl,hta,hta2,a,ffn,tabn,kap⟩:=hY
  have hm:∃ m,(AH c).1.length-i=m+1:=by
   cases hq:(AH c).1.length-i with
   | zero=>
    exfalso
    rw [hq] at kap
    exact kap s₁ ⟨by cases s₁; rfl,fun _ _ e _=>e,ιR _,ffn⟩
   | succ m=>exact⟨m,rfl⟩
  obtain⟨m,hm⟩:=hm
  have hilt:i<(AH c).1.length:=ω13 hm
  have hidx':(AH c).1[i]? = some tk:=by
   have e1:(AH c).1.length-((AH c).1.length-i-1+1)=i:=ω14 hilt
   rw [e1] at hidx; exact hidx
  rw [hm] at kap
  have hgo:∀ s₂,FZ ({}:Heap) [Ai w L cx cy cz] [L,gl] s₁ s₂→gs'.Goes (model pr2 w) A.in1 (RP w c {} [Ai w L cx cy cz] Lg (AH c).2) (YP w c {} [Ai w L cx cy cz] [L,gl] Lg (AH c).1) m (.send .none) s₂:=fun s₂ h=>kap s₂ h
  refine htok (s₁.setGen g gs') tk ta dt kty kj hilt hidx' (sg s₁ gs' hbare a.gens) (smg s₁ gs' a.same) (fun b o e hb=>a.keep b o e hb) a.size hta hta2 tabn fun s₂ h2 hge=>⟨gs',hge.keep _ _ (szg s₁ gs' a.gens),?_⟩
  have em:(AH c).1.length-(i+1)=m:=ω15 hm
  rw [em]
  refine hgo _ ⟨?_,h2.keep,h2.size,h2.ff⟩
  exact smV h2.same rfl rfl rfl rfl
 ·obtain⟨hn,hfin,a,ffn⟩:=hP
  refine hstop _ (ω16 hi hn) hfin (sg s₁ .finished rfl a.gens) ?_ (fun b o e hb=>hk b o (a.keep b o e hb)) (ιT a.size hz)
  exact smV (smg s₁ .finished a.same) rfl rfl rfl rfl
 ·obtain⟨hn,pl,hfin,Y⟩:=hPE
  have kf:∀ b o,s.heap.get? b=some o→b∉gnD c Lg→b≠L→s₁.heap.get? b=some o:=fun b o e h1 h2=>Y.kx b o e fun q=>by
   rcases ιM q with q | q
   ·exact h1 (ιI q (ζ6 μ0 μ1 μ2 μ3 μ4 μ5))
   ·rcases CM hfrm q with q | q
    ·exact h2 q
    ·cases q
  refine⟨?_,fun {A' Q' E' s'} hh a' hq=>?_,fun s2 a2=>?_⟩
  ·obtain⟨oG,nm,qn,hoG,r⟩:=isg
   exact⟨oG,nm,qn,kf _ _ hoG hne hga,r⟩
  ·obtain⟨d,T,a,b,kk,ms,hl,sl,F,hd,hT⟩:=Y.fly
   obtain⟨vs,sl',he⟩:=F.obj
   have S':Ak w ext s':=fun a o e=>by
    refine a'.keep _ _ (kf a o (Ss a o e) (fun q=>?_) (fun q=>?_)) (fun q=>nomatch q)
    ·rw [apG a (.tail _ (.tail _ q))] at e; cases e
    ·rw [q,Rw.ap _ (μ0)] at e; cases e
   have apE:lkX w ext e=none:=by
    cases q:lkX w ext e with
    | none=>rfl
    | some o=>
     have:=S0 e o q
     exact(CV this (ιT size Y.enew)).elim
   refine of_instT ?_
   refine Al (g:=Ac pr2 w A' _ _) (Ei (t:=s'.toks) (ro:=0) W S' hh) rfl
    (lt5i_v _ _ _ _ _ e d vs sl') (vs:=[]) Aa
    (Inv.MH S' (reads:=[]) (pre:=[(e,⟨.ref 156,some d,.fields vs,sl'⟩)]) Aa ιN (Ab (a'.keep _ _ he (fun q=>nomatch q)) Aa) (by simp) (Ab apE Aa)) fun s2 I2 H2=>ιp (hq s2 (a'.trans (Aft.unmark (D:=[]) I2.aft fun o e'=>?_)))
   rw [a'.keep _ _ he (fun q=>nomatch q)] at e'
   cases e'
   exact H2 _ μ0
  ·refine herr s2 pl e (ω16 hi hn) hfin ?_
   exact(Y.regen st.gens _ (sg s₁ .finished rfl Y.gens)).aft a2
end
section
variable{w:World}{ext:Addr→Option Obj}{c:Cfg}
theorem KX.mono{F G:List Addr}{h h':Heap}(x:KX F h h')(k:∀ a∈F,a∈G):KX G h h':=fun b o e hb=>x b o e fun q=>hb (k b q)
theorem Dp{lo:Nat}{h h':Heap}{gs:List Value}{l:List Dw}(G:BI c lo h gs l)(k:∀ a o,lo≤a→h.get? a=some o→h'.get? a=some o):BI c lo h' gs l:=⟨G.1,fun i tk hi=>by
 obtain⟨a,k1,k2,h1,h2,h3⟩:=G.2 i tk hi
 exact⟨a,k1,k2,h1,h2,k a _ h1 h3⟩⟩
theorem Ek{lo n:Nat}{h:Heap}{gs:List Value}{l:List Dw}{tk:Dw}{k1 k2:Nat}(G:BI c lo h gs l)(hn:lo≤n)(hk:h.get? n=some (AQ [.str tk.1 k1,.str tk.2.1 k2,c.ls tk.2.2 3,c.ls tk.2.2 0])):BI c lo h (gs++[.ref n]) (l++[tk]):=by
 obtain⟨h1,h2⟩:=G
 refine⟨by simp [h1],fun i tk' hi=>?_⟩
 rcases Nat.lt_trichotomy i l.length with q | q | q
 ·rw [List.getElem?_append_left q] at hi
  obtain⟨a,x1,x2,x3,x4,x5⟩:=h2 i tk' hi
  exact⟨a,x1,x2,x3,by rw [List.getElem?_append_left (ω17 h1 q)]; exact x4,x5⟩
 ·subst q
  rw [List.getElem?_append_right (ιR _),Nat.sub_self] at hi
  cases hi
  exact⟨n,k1,k2,hn,by rw [←h1,List.getElem?_append_right (ιR _),Nat.sub_self]; rfl,hk⟩
 ·rw [List.getElem?_eq_none (by simp; exact q)] at hi; cases hi
theorem law_loop(W:Ae w){L gl cx cy cz Lg ga g pi so kg:Nat}{k:Nat→Nat}{v:Nat→Value}(Rw:Raw w ext c L gl){A:Around}(hA:Ar A 690)(hfA:A.frames=some [Ai w L cx cy cz]){st s0:Shared}(S0:Ak w ext st)
  (hgs:st.gens.size≤g) (hga:ga≠L) (hgag:ga≠gl) (hLg:lkX w ext Lg=none) (hit:lkX w ext c.it=none) (hne:ga∉gnD c Lg) (hlow:∀ x∈EI c Lg L gl,x<st.heap.objs.size) (hLD:L∉gnD c Lg) (hglD:gl∉gnD c Lg) (htot:(AH c).1.length≤1001) (h225:225∉CO c Lg) (hL225:225∉[L,gl])
  (X0:FY w c A Lg ga g L gl k v pi so kg [Ai w L cx cy cz] st 0 s0) {R:Result→Shared→Prop} {p0:Pos}
  (hok:∀ (s₁:Shared) (es:List DictEntry) (n:Nat) (gs:List Value) (ge:Nat),(AH c).2=none→By st.gens s₁.gens→s₁={st with heap:=s₁.heap,toks:=s₁.toks,gens:=s₁.gens}→KX (EI c Lg L gl) st.heap s₁.heap→st.heap.objs.size≤s₁.heap.objs.size→
   s₁.heap.get? L=some (oFr es n)→JL w es k v pi c.cl so kg gl→s₁.heap.get? gl=some (lst gs ge)→BI c st.heap.objs.size s₁.heap gs (AH c).1→(∃ ps,Tab s₁.heap 229 225 ps)→R (.ok .next) s₁)
  (herr:∀ (s:Shared) (pl:Option Nat) (e:Nat) (s₁:Shared) (es:List DictEntry) (n:Nat) (gs:List Value) (ge:Nat),(AH c).2=some pl→By st.gens s.gens→s={st with heap:=s.heap,toks:=s.toks,gens:=s.gens}→KX (EI c Lg L gl) st.heap s.heap→st.heap.objs.size≤s.heap.objs.size→
   s.heap.get? L=some (oFr es n)→((es=As w k v pi c.cl so kg gl∧n=11)∨∃ kt ta,es=As w k v pi c.cl so kg gl++[de w "t" kt (.ref ta)]∧n=12)→s.heap.get? gl=some (lst gs ge)→BI c st.heap.objs.size s.heap gs (AH c).1→(∃ ps,Tab s.heap 229 225 ps)→
   Bs w ({}:Heap) [Ai w L cx cy cz] (CO c Lg) (B8 c pl) (rawInt L) {s with gens:=st.gens} e s₁→R (.error (.ref e)) s₁) :
  codeAny (model pr2 w) A (.forLoop (.Name "t" p0) (.ref ga) (ltP w).body [] (Ai w L cx cy cz)) R s0:=by
 have hfrm:(Ai w L cx cy cz).frame=some L:=rfl
 have ekw:(Ai w L cx cy cz).scope.kind=.function:=by kernel_rfl
 have hlx:=EH (c:=c) (m:=c.N+1) (Eu c) rfl
 have apG:∀ x∈EI c Lg L gl,lkX w ext x=none:=fun x hx=>by
  replace hx:=ω9s hx
  rcases hx with rfl | rfl | rfl | rfl | rfl | rfl | rfl | rfl | rfl
  ·exact Rw.ap _ (μ0)
  ·exact Rw.ap _ (μ1)
  ·exact hLg
  ·exact Rw.ap _ (μ2)
  ·exact Rw.ap _ (μ3)
  ·exact Rw.ap _ (μ4)
  ·exact Rw.ap _ (μ5)
  ·exact hit
  ·exact Rw.ap _ (μ6)
 have h9:∀ x,lkX w ext x=none→x≠229:=fun x hx q=>by
  have h9:(lkX w ext 229).isSome=true:=by kernel_rfl
  rw [←q,hx] at h9; cases h9
 have h229:229∉CO c Lg:=fun q=>by
  have sub:∀ x∈CO c Lg,x∈gnD c Lg:=fun x hx=>by
   exact ιI hx (ζ6 μ0 μ1 μ2 μ3 μ4 μ5)
  exact h9 229 (apG 229 (.tail _ (.tail _ (sub 229 q)))) rfl
 refine codeAny_for_bind (fun n s=>∃ i,n=(AH c).1.length+1-i∧i≤(AH c).1.length∧FY w c A Lg ga g L gl k v pi so kg [Ai w L cx cy cz] st i s) ?_ ((AH c).1.length+1) ⟨0,rfl,Nat.zero_le _,X0⟩
 rintro n s ⟨i,rfl,hi,X⟩
 obtain⟨es,nn,hfr,hes⟩:=X.fr
 obtain⟨gs,ge,hgl,hgot⟩:=X.got
 have gLow:∀ a,st.heap.objs.size≤a→a∉gnD c Lg:=fun a ha q=>Nat.lt_irrefl _ (ιL (hlow a (.tail _ (.tail _ q))) ha)
 refine law_turn W Rw hA hfA S0 hgs hga hLg hit hne hi X (fun s₁ hie hfin hge hsm hk hz=>?_) (fun s₁ tk ta dt kty kj hilt htk hge hsm hk hz hta htaD htab hnext=>?_) fun s₁ pl e hie hfin Y=>?_
 ·-- the end
  have hk0:KX (gnD c Lg) s.heap s₁.heap:=hk.mono (ζ6 μ0 μ1 μ2 μ3 μ4 μ5)
  have kt:∃ ps,Tab s₁.heap 229 225 ps:=by
   obtain⟨ps,T⟩:=X.tab
   exact⟨ps,T.at fun b o hb e=>hk b o e (by
    rcases hb with rfl | rfl
    ·exact h229
    ·exact h225)⟩
  replace hk:=hk0
  refine hok s₁ es nn gs ge hfin hge hsm ?_ (ιT X.size hz) (hk _ _ hfr hLD) ?_ (hk _ _ hgl hglD) ?_ kt
  ·exact X.kept.trans hk (fun _ q=>q) fun b q=>.inl (.tail _ (.tail _ q))
  ·rcases hes with⟨_,h,_⟩ | ⟨kt,ta,h,_⟩
   ·exact .inl h
   ·exact .inr ⟨kt,ta,h⟩
  ·have:=hgot
   rw [hie,List.take_length] at this
   exact Dp this fun a o ha e=>hk a o e (gLow a ha)
 ·-- a token
  have hb:tk.2.2<c.N:=hlx.1 tk (List.mem_of_getElem? htk)
  obtain⟨r0,r1,c0,c1,hr,hc⟩:=Rw.hls _ hb
  have hli:=Rw.hli _ hb
  rw [hr,hc] at hli
  have S1:Ak w ext s₁:=fun a o e=>hk a o (X.kept a o (S0 a o e) fun q=>by rw [apG a q] at e; cases e) fun q=>by rw [apG a (.tail _ (.tail _ q))] at e; cases e
  have hfr1:=hk _ _ hfr hLD
  have hgl1:=hk _ _ hgl hglD
  have hgot1:BI c st.heap.objs.size s₁.heap gs ((AH c).1.take i):=Dp hgot fun a o ha e=>hk a o e (gLow a ha)
  have hglen:gs.length≤1001:=by have:=hgot.1; rw [List.length_take] at this; exact ω18 htot this
  have hsz:=sZ
  have ap3:∀ (σ:Led),σ=[(c.li tk.2.2,oL (c.dl tk.2.2) (.int c0 c1) (c.ls tk.2.2 1) (c.ls tk.2.2 2) (.int r0 r1) (c.ls tk.2.2 4)),(ta,oT dt tk.1 kty tk.2.1 kj (c.li tk.2.2)),(L,oFr es nn),(gl,lst gs ge)]→∀ i p,Aq σ i=some p→2≤i→lkX w ext p.1=none:=fun σ hσ i p hp h2=>by
   subst hσ
   match i,hp,h2 with
   | 0,_,h=>omega
   | 1,_,h=>omega
   | 2,hp,_=>cases hp; exact Rw.ap _ (μ0)
   | 3,hp,_=>cases hp; exact Rw.ap _ (μ1)
   | j+4,hp,_=>cases hp
  have own:∀ p∈([(c.li tk.2.2,oL (c.dl tk.2.2) (.int c0 c1) (c.ls tk.2.2 1) (c.ls tk.2.2 2) (.int r0 r1) (c.ls tk.2.2 4)),(ta,oT dt tk.1 kty tk.2.1 kj (c.li tk.2.2)),(L,oFr es nn),(gl,lst gs ge)]:Led),s₁.heap.get? p.1=some p.2:=Ab (S1 _ _ hli) (ζ3 hta hfr1 hgl1)
  have fin:∀ (s₃:Shared) (es':List DictEntry),Aft [L,gl] s₁ s₃→s₃.heap.get? L=some (oFr es' 12)→(∃ kt ta,es'=As w k v pi c.cl so kg gl++[de w "t" kt (.ref ta)])→s₃.heap.get? gl=some (lst (gs++[.ref s₁.heap.objs.size]) (ge+1))→
    s₃.heap.get? s₁.heap.objs.size=some (AQ [.str tk.1 kty,.str tk.2.1 kj,.int r0 r1,.int c0 c1])→∃ m,m<(AH c).1.length+1-i∧∃ i',m=(AH c).1.length+1-i'∧i'≤(AH c).1.length∧FY w c A Lg ga g L gl k v pi so kg [Ai w L cx cy cz] st i' s₃:=by
   intro s₃ es' A3 h1 h2 h3 h4
   refine⟨(AH c).1.length+1-(i+1),ω19 hilt,i+1,rfl,hilt,?_⟩
   have hsz1:st.heap.objs.size≤s₁.heap.objs.size:=ιT X.size hz
   have ff3:s₃.heap.FunFrames ({}:Heap) [Ai w L cx cy cz]:=Eb (by rw [ekw]; decide) hfrm h1 ιF
   have nn2:∀ a,st.heap.objs.size≤a→a∉[L,gl]:=fun a ha q=>by
    replace q:=ω9o q
    rcases q with q | q
    ·rw [q] at ha; exact Nat.lt_irrefl _ (ιL (hlow L μ0) ha)
    ·rw [q] at ha; exact Nat.lt_irrefl _ (ιL (hlow gl μ1) ha)
   have tab3:∃ ps,Tab s₃.heap 229 225 ps:=by
    obtain⟨ps,T⟩:=htab
    refine⟨ps,T.at fun b o hb e=>A3.keep b o e fun q=>?_⟩
    rcases hb with rfl | rfl
    ·have sub:∀ x∈[L,gl],x∈EI c Lg L gl:=fun x hx=>by
      exact ιI hx (ζ2 μ0 μ1)
     exact h9 229 (apG 229 (sub 229 q)) rfl
    ·exact hL225 q
   refine⟨hnext s₃ (A3.later ff3) A3.gens,?_,hge.trans A3.gens,?_,?_,ιT hsz1 A3.size,⟨es',12,h1,.inr (by obtain⟨kt,ta',e⟩:=h2; exact⟨kt,ta',e,rfl⟩)⟩,tab3,⟨_,_,h3,?_⟩⟩
   ·obtain⟨oG,nm,qn,hoG,r⟩:=X.isg
    refine⟨oG,nm,qn,A3.keep _ _ (hk _ _ hoG hne) fun q=>?_,r⟩
    replace q:=ω9o q
    rcases q with q | q
    ·exact hga q
    ·exact hgag q
   ·exact smV A3.same rfl (smd hsm :) rfl (smo hsm :)
   ·exact(X.kept.trans hk (H:=EI c Lg L gl) (fun _ q=>q) fun b q=>.inl (.tail _ (.tail _ q))).trans (G:=[L,gl]) (fun b o e hb=>A3.keep b o e hb) (fun _ q=>q) fun b q=>.inl (by
     simp only [List.mem_cons,List.not_mem_nil,or_false] at q ⊢
     rcases q with q | q
     ·exact .inl q
     ·exact .inr (.inl q))
   ·rw [List.take_add_one,htk]
    refine Ek (Dp hgot1 fun a o ha e=>A3.keep a o e (nn2 a ha)) hsz1 (k1:=kty) (k2:=kj) ?_
    rw [hr,hc]; exact h4
  refine DO ?_
  have eb:((bindName (Ai w L cx cy cz) "t" (.ref ta) >>= fun _=>execs (ltP w).body (Ai w L cx cy cz)) >>= fun f=>pure (.done f))=CS (Ai w L cx cy cz) "t" (.ref ta) (ltP w).body:=by
   rw [EZ,bind_assoc]
  rw [eb]
  rcases hes with⟨_,rfl,rfl⟩ | ⟨kt,ta0,rfl,rfl⟩
  ·have I1:=Inv.start (ro:=2) S1 own (Aj (look:=s₁.heap.get?) own rfl) (ap3 _ rfl)
   refine Al (g:=Ac pr2 w A _ _) (Ao (t:=s₁.toks) (ro:=2) W S1 hA (by decide)) rfl
    (lt3a_v _ _ _ _ _ L cx cy cz pi c.cl so kg gl k v ta dt kty kj (c.li tk.2.2) (c.dl tk.2.2) ge gs tk.1 tk.2.1 (c.ls tk.2.2 1) (c.ls tk.2.2 2) (c.ls tk.2.2 4) c0 r0 c1 r1)
    (Ab (AN S1.new (leR rfl) (ω0c hglen hsz)) Aa) I1 fun s₃ I3 H3=>ιp ?_
   exact fin s₃ _ I3.aft (H3 _ μ0) ⟨_,_,rfl⟩ (H3 _ μ1) (H3 _ μ2)
  ·have I1:=Inv.start (ro:=2) S1 own (Aj (look:=s₁.heap.get?) own rfl) (ap3 _ rfl)
   refine Al (g:=Ac pr2 w A _ _) (Ao (t:=s₁.toks) (ro:=2) W S1 hA (by decide)) rfl
    (lt3b_v _ _ _ _ _ L cx cy cz pi c.cl so kg gl k v ta ta0 kt dt kty kj (c.li tk.2.2) (c.dl tk.2.2) ge gs tk.1 tk.2.1 (c.ls tk.2.2 1) (c.ls tk.2.2 2) (c.ls tk.2.2 4) c0 r0 c1 r1)
    (Ab (AN S1.new (leR rfl) (ω0c hglen hsz)) Aa) I1 fun s₃ I3 H3=>ιp ?_
   exact fin s₃ _ I3.aft (H3 _ μ0) ⟨_,_,rfl⟩ (H3 _ μ1) (H3 _ μ2)
 ·-- refused
  refine Y.toF.noted (L:=L) hfA hfrm fun s₂ Z=>?_
  have hg2:=hgot
  rw [hie,List.take_length] at hg2
  refine herr s pl e s₂ es nn gs ge hfin X.gext X.same X.kept X.size hfr ?_ hgl hg2 X.tab Z
  rcases hes with⟨_,h,h'⟩ | h
  ·exact .inl ⟨h,h'⟩
  ·exact .inr h
end
section
variable{w:World}{ext:Addr→Option Obj}{c:Cfg}
noncomputable def exD(w:World)(ext:Addr→Option Obj)(c:Cfg)(a:Addr):Option Obj:=if a=c.dx then some (oDx w c.kt c.tb c.pb c.ct c.co c.it) else ext a
theorem Cw(hd:lkX w ext c.dx=none){a:Addr}{o:Obj}(e:lkX w ext a=some o):lkX w (exD w ext c) a=some o:=by
 have n:a≠c.dx:=fun q=>by rw [q,hd] at e; cases e
 unfold lkX exD at *
 rw [if_neg n]; exact e
theorem HJ{a:Addr}(n:a≠c.dx):lkX w (exD w ext c) a=lkX w ext a:=by
 unfold lkX exD
 rw [if_neg n]
theorem exD_dx(hd:lkX w ext c.dx=none):lkX w (exD w ext c) c.dx=some (oDx w c.kt c.tb c.pb c.ct c.co c.it):=by
 unfold lkX exD at *
 split at hd
 ·cases hd
 ·rename_i q; rw [if_pos rfl]
theorem Raw.ok{L gl:Nat}(Rw:Raw w ext c L gl)(nd:[c.tb,c.pb,c.ct,c.it].Nodup)(hi:lkX w ext c.it=none)(hid:c.it≠c.dx):c.Ok w (exD w ext c):=by
 have hd:lkX w ext c.dx=none:=Rw.ap _ (μ2)
 have n:=Rw.nd
 replace n:=ω9m.1 n
 have ap:∀ a,a≠c.dx→lkX w ext a=none→lkX w (exD w ext c) a=none:=fun a h e=>by rw [HJ h]; exact e
 exact⟨Cw hd Rw.hx,exD_dx hd,Cw hd Rw.hcl,fun i h=>Cw hd (Rw.hci i h),fun i h=>Cw hd (Rw.hdi i h),fun i h=>Cw hd (Rw.hli i h),nd,
  Ab (ap _ (Ne.symm n.2.2.1.1) (Rw.ap _ (μ3))) (ζ3 (ap _ (Ne.symm n.2.2.1.2.1) (Rw.ap _ (μ4))) (ap _ (Ne.symm n.2.2.1.2.2.1) (Rw.ap _ (μ5))) (ap _ hid hi)),Rw.small⟩
theorem Clo.exD{x sf sp code tu code2 cx cy cz:Nat}(hd:lkX w ext c.dx=none)(K:Clo w ext x sf sp code tu code2 cx cy cz):Clo w (exD w ext c) x sf sp code tu code2 cx cy cz:=by
 obtain⟨h1,⟨o,h2,h2'⟩,h3,⟨o',h4,h4'⟩,h5,h6,h7,nd⟩:=K
 exact⟨Cw hd h1,⟨o,Cw hd h2,h2'⟩,Cw hd h3,⟨o',Cw hd h4,h4'⟩,Cw hd h5,Cw hd h6,Cw hd h7,nd⟩
theorem law_iter(W:Ae w){L gl cx cy cz pi so kg sf sp code tu code2:Nat}{k:Nat→Nat}{v:Nat→Value}(Rw:Raw w ext c L gl)(K:Clo w ext c.x sf sp code tu code2 cx cy cz){A:Around}(hA:Ar A 690)(hfA:A.frames=some [Ai w L cx cy cz]){st:Shared}(S0:Ak w ext st)
  (hit:c.it=st.heap.objs.size) (hk4:c.kt 4=st.toks+7) (h5:∀ a∈[L,cx,cy,c.cl,c.dx],524≤a) (hL:st.heap.get? L=some (oFr (As w k v pi c.cl so kg gl) 11)) (hgl:st.heap.get? gl=some (lst [] 0)) (hdx:st.heap.get? c.dx=some (dx4 w c))
  (htb:st.heap.get? c.tb=some (lst [] 0)) (hpb:st.heap.get? c.pb=some (lst [] 0)) (hct:st.heap.get? c.ct=some (lst [] 0)) (T:∃ ps,Tab st.heap 229 225 ps) {Q E:Value→Shared→Prop}
  (h:∀ s₃,s₃={st with heap:=s₃.heap,toks:=s₃.toks,gens:=s₃.gens}→KX [] st.heap s₃.heap→s₃.heap.objs.size=st.heap.objs.size+3→By st.gens s₃.gens→s₃.heap.IsGen (st.heap.objs.size+2) st.gens.size→
   FY w c A (st.heap.objs.size+1) (st.heap.objs.size+2) st.gens.size L gl k v pi so kg [Ai w L cx cy cz] {s₃ with gens:=st.gens} 0 s₃→Q (.ref (st.heap.objs.size+2)) s₃) :
  wpAny (model pr2 w) A (eval (ltP w).it (Ai w L cx cy cz)) Q E st:=by
 have hd:lkX w ext c.dx=none:=Rw.ap _ (μ2)
 have nd:=Rw.nd
 replace nd:=ω9m.1 nd
 obtain⟨ps,T⟩:=T
 have lt:∀ {a:Nat} {o:Obj},st.heap.get? a=some o→a<(st.heap.objs.size:Nat):=fun e=>ιH e
 have lL:=lt hL
 have lgl:=lt hgl
 have ldx:=lt hdx
 have ltb:=lt htb
 have lpb:=lt hpb
 have lct:=lt hct
 have l225:225<st.heap.objs.size:=by
  obtain⟨_,⟨⟨o',vs',a',r'⟩,t⟩⟩:=T
  exact lt t
 have apN:∀ a,st.heap.objs.size≤a→lkX w ext a=none:=fun a ha=>by
  cases e:lkX w ext a with
  | none=>rfl
  | some o=>exact(CV (S0 a o e) ha).elim
 have l0:∀ a∈[L,cx,cy,c.cl],lkX w (fun _=>none) a=none:=fun a ha=>by
  have:524≤a:=h5 a (ιI ha (ζ4 μ0 μ1 μ2 μ3))
  unfold lkX
  rw [Cj w a this]
 have Sn:Ak w (fun _=>none) st:=fun a o e=>S0 a o (by
  unfold lkX at e ⊢
  split at e
  ·exact e
  ·cases e)
 have hcx:=S0 _ _ K.hcx
 have hcy:=S0 _ _ K.hcy
 have hcl:=S0 _ _ Rw.hcl
 have own:∀ p∈([(L,oFr (As w k v pi c.cl so kg gl) 11),(cx,An (some (.ref c.x))),(cy,An (some (.ref sf))),(c.cl,lst (c.seg 0 c.N) c.ec)]:Led),st.heap.get? p.1=some p.2:=Ab hL (ζ3 hcx hcy hcl)
 have ndL:([(L,oFr (As w k v pi c.cl so kg gl) 11),(cx,An (some (.ref c.x))),(cy,An (some (.ref sf))),(c.cl,lst (c.seg 0 c.N) c.ec)]:Led).map (·.1) |>.Nodup:=by
  have kn:=K.nd
  replace kn:=ω9j.1 kn
  have a1:L≠cx:=fun q=>by have:=K.hcx; rw [←q,Rw.ap _ (μ0)] at this; cases this
  have a2:L≠cy:=fun q=>by have:=K.hcy; rw [←q,Rw.ap _ (μ0)] at this; cases this
  have a3:L≠c.cl:=fun q=>by have:=Rw.hcl; rw [←q,Rw.ap _ (μ0)] at this; cases this
  have a4:cx≠c.cl:=fun q=>by have:=Rw.hcl; rw [←q,K.hcx] at this; have:=congrArg Obj.cls (Option.some.inj this); simp at this
  have a5:cy≠c.cl:=fun q=>by have:=Rw.hcl; rw [←q,K.hcy] at this; have:=congrArg Obj.cls (Option.some.inj this); simp at this
  simp [a1,a2,a3,a4,a5,kn.1.1]
 refine CB ?_
 rw [←DH]
 refine AG (Ao (t:=st.toks) (ro:=0) W Sn (hA.le (by decide:60≤690)) (by decide))
  (lt1_v w (Ax w) (fun _=>none) st.heap.objs.size st.toks L cx cy cz pi c.cl so kg gl k v c.x sf c.ec (c.seg 0 c.N)) rfl (vs:=[]) Aa
  (Inv.MH Sn (reads:=[]) Aa ιN own ndL (ζ4 (l0 _ (μ0)) (l0 _ (μ1)) (l0 _ (μ2)) (l0 _ (μ3)))) fun s1 I1 H1=>?_
 have A1:Aft [L,cx,cy,c.cl] st s1:=I1.aft
 have sz1:s1.heap.objs.size=st.heap.objs.size+1:=I1.size
 have tk1:s1.toks=st.toks+1:=I1.toks
 have hL1:=H1 _ μ0
 have hcx1:=H1 _ μ1
 have hcy1:=H1 _ μ2
 have hcl1:=H1 _ μ3
 have hit1:=H1 _ μ4
 dsimp only at hL1 hcx1 hcy1 hcl1 hit1
 have k1:∀ a o,st.heap.get? a=some o→s1.heap.get? a=some o:=fun a o e=>by
  by_cases q1:a=L
  ·subst q1; rw [hL] at e; cases e; exact hL1
  by_cases q2:a=cx
  ·subst q2; rw [hcx] at e; cases e; exact hcx1
  by_cases q3:a=cy
  ·subst q3; rw [hcy] at e; cases e; exact hcy1
  by_cases q4:a=c.cl
  ·subst q4; rw [hcl] at e; cases e; exact hcl1
  exact A1.keep a o e (by simp [q1,q2,q3,q4])
 have S1:Ak w ext s1:=fun a o e=>k1 a o (S0 a o e)
 refine call_gen (look:=lkX w ext) S1 (f:=208) (by kernel_rfl) (Nat.lt_of_le_of_lt (ιA ..) hA.depth) ?_
 have hA1:Ar A.in1 680:=⟨hA.handled,by have:=hA.depth; show A.depth+680<_; exact ω1a this,by have:=hA.units; show A.units+1+10*680<_; exact ω05 this⟩
 refine uA W S1 hA1 rfl (gn0_v _ _ _ _ _ c.x st.heap.objs.size sf) Aa Aa (by simp) Aa fun s2 I2 H2=>ιp ?_
 have A2:Aft [] s1 s2:=I2.aft
 have sz2:s2.heap.objs.size=st.heap.objs.size+2:=by have:=I2.size; rw [sz1] at this; exact this
 have tk2:s2.toks=st.toks+4:=by have:=I2.toks; rw [tk1] at this; exact this
 have hF2:=H2 _ μ0
 dsimp only at hF2
 have k2:∀ a o,st.heap.get? a=some o→s2.heap.get? a=some o:=fun a o e=>A2.keep a o (k1 a o e) (fun q=>nomatch q)
 have hit2:=A2.keep _ _ hit1 (fun q=>nomatch q)
 have S2:Ak w ext s2:=fun a o e=>k2 a o (S0 a o e)
 have nl2:s2.heap.NoLimit:=W.nolimit _ fun a o e=>S2 a o (by show(match lk w a with | some o=>some o | none=>ext a)=_; rw [e])
 refine⟨nl2,?_⟩
 generalize hs3:({s2 with gens:=s2.gens.push (.fresh (gnC w s1.heap.objs.size)),toks:=s2.toks+1+1,heap:=s2.heap.push (GK s2.gens.size (B5 (lkX w ext 208)).name s2.toks (B5 (lkX w ext 208)).qualname (s2.toks+1))}:Shared)=s3
 have e3:s3.heap=s2.heap.push (GK s2.gens.size (B5 (lkX w ext 208)).name s2.toks (B5 (lkX w ext 208)).qualname (s2.toks+1)):=by rw [←hs3]
 have g1:s1.gens=st.gens:=by have:=congrArg Shared.gens I1.same; exact this
 have g2:s2.gens=st.gens:=by have:=congrArg Shared.gens I2.same; exact this.trans g1
 have g3:s3.gens=st.gens.push (.fresh (gnC w s1.heap.objs.size)):=by rw [←hs3,←g2]
 have tk3:s3.toks=st.toks+6:=by rw [←hs3]; show s2.toks+1+1=_; exact ω1b tk2
 have sm3:s3={st with heap:=s3.heap,toks:=s3.toks,gens:=s3.gens}:=by
  rw [←hs3]; exact smV (smT A1.same A2.same) rfl rfl rfl rfl
 have k23:∀ a o,s2.heap.get? a=some o→s3.heap.get? a=some o:=fun a o e=>by rw [e3]; exact Heap.get?_push_of_some _ e
 have k3:∀ a o,st.heap.get? a=some o→s3.heap.get? a=some o:=fun a o e=>k23 a o (k2 a o e)
 have sz3:s3.heap.objs.size=st.heap.objs.size+3:=by rw [e3,Heap.size_push,sz2]
 have hG3:s3.heap.get? (st.heap.objs.size+2)=some (GK s2.gens.size (B5 (lkX w ext 208)).name s2.toks (B5 (lkX w ext 208)).qualname (s2.toks+1)):=by rw [e3,←sz2]; exact Heap.get?_push_size _ rfl
 have isg:s3.heap.IsGen (st.heap.objs.size+2) st.gens.size:=⟨_,_,_,hG3,rfl,(by show Data.fields _=_; rw [g2]),rfl⟩
 have S3:Ak w ext s3:=fun a o e=>k3 a o (S0 a o e)
 have hL3:=k3 _ _ hL
 have Sn3:Ak w (fun _=>none) s3:=fun a o e=>S3 a o (by
  unfold lkX at e ⊢
  split at e
  ·exact e
  ·cases e)
 refine uL W Sn3 hA rfl (lt2_v w (Ax w) (fun _=>none) st.heap.objs.size st.toks L cx cy cz pi c.cl so kg gl k v c.x sf c.ec (c.seg 0 c.N) s3.heap.objs.size s3.toks s2.heap.objs.size) Aa (Ab hL3 Aa) (by simp) (Ab (l0 _ (μ0)) Aa) fun s4 I4 H4=>ιp ?_
 have A4:Aft [L] s3 s4:=I4.aft
 have hL4:=H4 _ μ0
 dsimp only at hL4
 have k34:∀ a o,s3.heap.get? a=some o→s4.heap.get? a=some o:=fun a o e=>by
  by_cases q:a=L
  ·subst q; rw [hL3] at e; cases e; exact hL4
  ·exact A4.keep a o e (by simp [q])
 have k4:∀ a o,st.heap.get? a=some o→s4.heap.get? a=some o:=fun a o e=>k34 a o (k3 a o e)
 have sz4:s4.heap.objs.size=st.heap.objs.size+3:=by have:=I4.size; rw [←sz3]; exact this
 have tk4:s4.toks=st.toks+6:=by have:=I4.toks; rw [←tk3]; exact this
 have g4:s4.gens=st.gens.push (.fresh (gnC w (st.heap.objs.size+1))):=by have:=congrArg Shared.gens I4.same; rw [←sz1,←g3]; exact this
 have sm4:s4={st with heap:=s4.heap,toks:=s4.toks,gens:=s4.gens}:=smT sm3 A4.same
 have isg4:s4.heap.IsGen (st.heap.objs.size+2) st.gens.size:=isg.keeps k34
 have hF4:=k34 _ _ (k23 _ _ hF2)
 rw [sz1] at hF4
 have hit4:=k34 _ _ (k23 _ _ hit2)
 have hI:c.it≠c.dx:=ω1c hit ldx
 have S4:Ak w ext s4:=fun a o e=>k4 a o (S0 a o e)
 have nd':[c.tb,c.pb,c.ct,c.it].Nodup:=by
  have e1:c.tb≠c.it:=ω1d hit ltb
  have e2:c.pb≠c.it:=ω1d hit lpb
  have e3:c.ct≠c.it:=ω1d hit lct
  simp [nd.2.2.2.1.1,nd.2.2.2.1.2.1,nd.2.2.2.2.1.1,e1,e2,e3]
 have O:c.Ok w (exD w ext c):=Rw.ok nd' (apN _ (ωs hit)) hI
 have gx:By st.gens s4.gens:=by rw [g4]; exact DS rfl
 show Q (.ref s2.heap.objs.size) s4
 rw [sz2]
 refine h s4 sm4 (fun b o e _=>k4 b o e) sz4 gx isg4 ⟨?_,isg4,gx,?_,fun b o e _=>e,ιR _,⟨_,_,hL4,.inl ⟨rfl,rfl,rfl⟩⟩,?_,⟨_,_,k4 _ _ hgl,rfl,fun i tk hi=>nomatch hi⟩⟩
 ·refine⟨.fresh (gnC w (st.heap.objs.size+1)),?_,?_⟩
  ·rw [g4,Array.getElem?_push_size]
  ·have apX:∀ a,a≠c.dx→lkX w ext a=none→lkX w (exD w ext c) a=none:=fun a n e=>by rw [HJ n]; exact e
   have sN:lkX w ext (st.heap.objs.size+1)=none:=apN _ (ω1e)
   have Γ:Gn w (exD w ext c) c {} [Ai w L cx cy cz] [L,gl] A.in1 (st.heap.objs.size+1):=by
    refine⟨hA1,hfA,?_,apX _ (ω1f ldx) sN,apX _ (Ne.symm nd.2.2.1.2.2.2) (Rw.ap _ (μ6)),?_,?_,?_,rfl,rfl,?_,?_,fun x _=>rfl⟩
    ·have e1:c.tb≠225:=nd.2.2.2.1.2.2
     have e2:c.pb≠225:=nd.2.2.2.2.1.2
     have e3:c.ct≠225:=nd.2.2.2.2.2.1
     have f1:c.tb≠c.it:=ω1d hit ltb
     have f2:c.pb≠c.it:=ω1d hit lpb
     have f3:c.ct≠c.it:=ω1d hit lct
     have f4:c.it≠225:=ω1g hit l225
     have g1:st.heap.objs.size+1≠c.tb:=ω1f ltb
     have g2:st.heap.objs.size+1≠c.pb:=ω1f lpb
     have g3:st.heap.objs.size+1≠c.ct:=ω1f lct
     have g4:st.heap.objs.size+1≠c.it:=ω1h hit
     have g5:st.heap.objs.size+1≠225:=ω1i l225
     simp [nd.2.2.2.1.1,nd.2.2.2.1.2.1,nd.2.2.2.2.1.1,e1,e2,e3,f1,f2,f3,f4,g1,g2,g3,g4,g5]
    ·intro hm
     have:st.heap.objs.size+1=L:=ιS hm
     exact ω1j lL this
    ·intro hm
     have:c.tb=L:=ιS hm
     exact nd.1.2.2.1 this.symm
    ·intro hm
     have:225=L:=ιS hm
     exact nd.1.2.2.2.2.2 this.symm
    ·exact Ab (apX _ nd.1.2.1 (Rw.ap _ (μ0))) (Ab (apX _ nd.2.1.1 (Rw.ap _ (μ1))) Aa)
    ·have a1:=nd.1
     have a2:=nd.2.1
     have b1:L≠st.heap.objs.size+1:=ω1k lL
     have b2:gl≠st.heap.objs.size+1:=ω1k lgl
     have b3:L≠c.it:=ω1d hit lL
     have b4:gl≠c.it:=ω1d hit lgl
     refine Ab ?_ (Ab ?_ Aa)
     ·simp [a1,b1,b3]
     ·simp [a2,b2,b4]
   have lk0:lk w c.dx=none:=Cj w _ (h5 _ (μ4))
   refine gen_goes W O Rw.hsg (K.exD hd) Γ (s:=s4.setGen st.gens.size .running) lk0 (by show _=s4.toks+1; exact ω1l hk4 tk4) (fun a o e n=>S4 a o (by rw [HJ n] at e; exact e)) (k4 _ _ hdx) (by rw [hit]; exact hF4) ?_ (k4 _ _ htb) ⟨ps,T.at fun b o _ e=>k4 b o e⟩ (fun a o e=>nomatch e) (fun a _=>rfl) (Eb (by have ek:(Ai w L cx cy cz).scope.kind=.function:=(by kernel_rfl); rw [ek]; decide) rfl hL4 ιF) ?_ ?_ ?_
   ·exact Ab (k4 _ _ hpb) (ζ2 (by have:=k4 _ _ hct; exact this) (by rw [←hit] at hit4; exact hit4))
   ·exact fun b hb hm=>by
     have:b=L:=ιS hb
     rw [this] at hm
     have b1:L≠st.heap.objs.size+1:=ω1k lL
     have b3:L≠c.it:=ω1d hit lL
     have a1:=nd.1
     simp [a1,b1,b3] at hm
   ·have g2:st.heap.objs.size+1≠c.pb:=ω1f lpb
    have g3:st.heap.objs.size+1≠c.ct:=ω1f lct
    have g4:st.heap.objs.size+1≠c.it:=ω1h hit
    simp [g2,g3,g4]
   ·have g1:c.dx≠st.heap.objs.size+1:=ω1k ldx
    simp [nd.2.2.1,g1,hI.symm]
 ·exact smO rfl rfl
 ·exact⟨ps,T.at fun b o _ e=>k4 b o e⟩
end
noncomputable def exH(s:Shared)(D:List Addr)(a:Addr):Option Obj:=if a∈D then none else s.heap.get? a
section
variable{w:World}{s:Shared}{D:List Addr}
theorem Cq(h:∀ a o,lk w a=some o→s.heap.get? a=some o):Ak w (exH s D) s:=fun a o e=>by
 unfold lkX exH at e
 split at e
 ·rename_i o' q; cases e; exact h a _ q
 ·split at e
  ·cases e
  ·exact e
theorem Cv{a:Addr}(ha:a∈D)(h5:lk w a=none):lkX w (exH s D) a=none:=by
 unfold lkX exH
 rw [h5]
 exact if_pos ha
theorem EL(h:∀ a o,lk w a=some o→s.heap.get? a=some o){a:Addr}{o:Obj}(n:a∉D)(e:s.heap.get? a=some o):lkX w (exH s D) a=some o:=by
 unfold lkX exH
 split
 ·rename_i o' q; rw [h a _ q] at e; exact e
 ·rw [if_neg n]; exact e
end
section
variable{w:World}{A:Around}{s:Shared}{L gl cx cy cz pi ch so kg e:Nat}{k:Nat→Nat}{v:Nat→Value}{es:List DictEntry}{sl:Array (Option Value)}
noncomputable def FrN(w:World)(k:Nat→Nat)(v:Nat→Value)(pi ch so kg gl:Nat)(es:List DictEntry)(n:Nat):Prop:=(es=As w k v pi ch so kg gl∧n=11)∨∃ kt ta,es=As w k v pi ch so kg gl++[de w "t" kt (.ref ta)]∧n=12
noncomputable abbrev St0(w:World)(s:Shared):Prop:=∀ a o,lk w a=some o→s.heap.get? a=some o
noncomputable abbrev Ah(A:Around)(e:Nat):Around:=A.mark (some (.ref e))
theorem st40(W:Ae w)(hA:Ar A 690)(S:St0 w s){n:Nat}(F:FrN w k v pi ch so kg gl es n)(h5:lk w L=none)(hL:s.heap.get? L=some (AS es n sl)){Q E:Value→Shared→Prop}(h:∀ s',Aft [] s s'→Q (.ref 156) s') :
  wpAny (model pr2 w) (Ah A e) (eval (ltP w).t (Ai w L cx cy cz)) Q E s:=by
 have S1:Ak w (exH s [L]) s:=Cq S
 have hd:(Ah A e).depth+60<recursionLimit:=by have:=hA.depth; show A.depth+60<_; exact ω1a this
 refine CB ?_
 rw [←DH]
 rcases F with⟨rfl,rfl⟩ | ⟨kt,ta,rfl,rfl⟩
 ·refine Al (g:=Ac pr2 w (Ah A e) _ _) (BM (t:=s.toks) (ro:=0) W S1 rfl hd) rfl
   (lt40_v w (Ax w) (exH s [L]) s.heap.objs.size s.toks L cx cy cz pi ch so kg gl k v e sl) (vs:=[]) Aa
   (Inv.MH S1 (reads:=[]) (pre:=[(L,AS (As w k v pi ch so kg gl) 11 sl)]) Aa ιN (Ab hL Aa) (by simp) (Ab (Cv μ0 h5) Aa)) fun s1 I1 H1=>ιp (h s1 (I1.aft.unmark fun o e'=>?_))
  rw [hL] at e'; cases e'; exact H1 _ μ0
 ·refine Al (g:=Ac pr2 w (Ah A e) _ _) (BM (t:=s.toks) (ro:=0) W S1 rfl hd) rfl
   (lt4t_v w (Ax w) (exH s [L]) s.heap.objs.size s.toks L cx cy cz pi ch so kg gl k v ta kt e sl) (vs:=[]) Aa
   (Inv.MH S1 (reads:=[]) (pre:=[(L,AS (As w k v pi ch so kg gl++[de w "t" kt (.ref ta)]) 12 sl)]) Aa ιN (Ab hL Aa) (by simp) (Ab (Cv μ0 h5) Aa)) fun s1 I1 H1=>ιp (h s1 (I1.aft.unmark fun o e'=>?_))
  rw [hL] at e'; cases e'; exact H1 _ μ0
theorem st5(W:Ae w)(hA:Ar A 690)(S:St0 w s)(h5:lk w e=none){d:Nat}{vs:Array Value}(he:s.heap.get? e=some ⟨.ref 156,some d,.fields vs,sl⟩){Q:Bool→Shared→Prop}(h:∀ s',Aft [] s s'→Q true s') :
  wpAny (model pr2 w) (Ah A e) (excMatches (.ref e) (.ref 156)) Q E s:=by
 have S1:Ak w (exH s [e]) s:=Cq S
 have hd:(Ah A e).depth+60<recursionLimit:=by have:=hA.depth; show A.depth+60<_; exact ω1a this
 refine of_matchT ?_
 refine Al (g:=Ac pr2 w (Ah A e) _ _) (BM (t:=s.toks) (ro:=0) W S1 rfl hd) rfl
   (lt5_v w (Ax w) (exH s [e]) s.heap.objs.size s.toks e d vs sl) (vs:=[]) Aa
   (Inv.MH S1 (reads:=[]) (pre:=[(e,⟨.ref 156,some d,.fields vs,sl⟩)]) Aa ιN (Ab he Aa) (by simp) (Ab (Cv μ0 h5) Aa)) fun s1 I1 H1=>ιp (h s1 (I1.aft.unmark fun o e'=>?_))
 rw [he] at e'; cases e'; exact H1 _ μ0
theorem st6(W:Ae w)(hA:Ar A 690)(S:St0 w s){n:Nat}(F:FrN w k v pi ch so kg gl es n)(h5:lk w L=none)(hL:s.heap.get? L=some (AS es n sl)){Q:Unit→Shared→Prop}(h:∀ s' kf,Aft [L] s s'→s'.heap.get? L=some (AS (es++[de w "fault" kf (.ref e)]) (n+1) sl)→Q () s') :
  wpAny (model pr2 w) (Ah A e) (storeName (Ai w L cx cy cz) "fault" (.ref e)) Q E s:=by
 have S1:Ak w (exH s [L]) s:=Cq S
 have hd:(Ah A e).depth+60<recursionLimit:=by have:=hA.depth; show A.depth+60<_; exact ω1a this
 refine of_storeT ?_
 rcases F with⟨rfl,rfl⟩ | ⟨kt,ta,rfl,rfl⟩
 ·exact Al (g:=Ac pr2 w (Ah A e) _ _) (BM (t:=s.toks) (ro:=0) W S1 rfl hd) rfl
   (lt60_v w (Ax w) (exH s [L]) s.heap.objs.size s.toks L cx cy cz pi ch so kg gl k v e sl) (vs:=[]) Aa
   (Inv.MH S1 (reads:=[]) (pre:=[(L,AS (As w k v pi ch so kg gl) 11 sl)]) Aa ιN (Ab hL Aa) (by simp) (Ab (Cv μ0 h5) Aa)) fun s1 I1 H1=>ιp (h s1 _ I1.aft (H1 _ μ0))
 ·exact Al (g:=Ac pr2 w (Ah A e) _ _) (BM (t:=s.toks) (ro:=0) W S1 rfl hd) rfl
   (lt6t_v w (Ax w) (exH s [L]) s.heap.objs.size s.toks L cx cy cz pi ch so kg gl k v ta kt e sl) (vs:=[]) Aa
   (Inv.MH S1 (reads:=[]) (pre:=[(L,AS (As w k v pi ch so kg gl++[de w "t" kt (.ref ta)]) 12 sl)]) Aa ιN (Ab hL Aa) (by simp) (Ab (Cv μ0 h5) Aa)) fun s1 I1 H1=>ιp (h s1 _ I1.aft (H1 _ μ0))
theorem st8(W:Ae w)(hA:Ar A 690)(S:St0 w s){n kf:Nat}{hp:Pos}(F:FrN w k v pi ch so kg gl es n)(h5:lk w L=none)(hL:s.heap.get? L=some (AS (es++[de w "fault" kf (.ref e)]) (n+1) sl)){Q:Unit→Shared→Prop}(h:∀ s',Aft [L] s s'→s'.heap.get? L=some (AS es (n+2) sl)→Q () s') :
  wpAny (model pr2 w) A (do bindName (Ai w L cx cy cz) "fault" .none; unbindBehindTheSuite (Ai w L cx cy cz) "fault" (ltP w).hp) Q E s:=by
 have S1:Ak w (exH s [L]) s:=Cq S
 refine of_goesT ?_
 rcases F with⟨rfl,rfl⟩ | ⟨kt,ta,rfl,rfl⟩
 ·exact uL W S1 hA rfl (lt80_v w (Ax w) (exH s [L]) s.heap.objs.size s.toks L cx cy cz pi ch so kg gl k v e kf sl) Aa (Ab hL Aa) (by simp) (Ab (Cv μ0 h5) Aa) fun s1 I1 H1=>ιp (h s1 I1.aft (H1 _ μ0))
 ·exact uL W S1 hA rfl (lt8t_v w (Ax w) (exH s [L]) s.heap.objs.size s.toks L cx cy cz pi ch so kg gl k v ta kt e kf sl) Aa (Ab hL Aa) (by simp) (Ab (Cv μ0 h5) Aa) fun s1 I1 H1=>ιp (h s1 I1.aft (H1 _ μ0))
end
theorem CY{prog:Program}{w:World}{A:Around}{s:Shared}{a:Nat}{xs:List Value}{e:Nat}{v:Value}(ha:s.heap.get? a=some (lst xs e))(hz:xs.length≤sizeLine)(h:∀ s',Aft [a] s s'→s'.heap.get? a=some (lst (xs++[v]) (e+1))→s'.heap.objs.size=s.heap.objs.size→s'.toks=s.toks→R (.ok (.ret .none)) s') :
  codeAny (model prog w) A (.builtin "list.append" ⟨[.ref a,v],[]⟩) R s:=by
 have hm:∀ f:Obj→Obj,f (lst xs e)=lst (xs++[v]) (e+1)→R (.ok (.ret .none)) {s with heap:=s.heap.update a f}:=fun f hf=>by
  refine h _ ⟨rfl,By.refl _,fun b o e' hb=>?_,Nat.le_of_eq (Heap.size_update ..).symm⟩ ?_ (Heap.size_update ..) rfl
  ·show(s.heap.update a f).get? b=some o
   rw [Heap.get?_update_other _ _ (fun q=>hb (by rw [q]; exact .head _))]
   exact e'
  ·show(s.heap.update a f).get? a=_
   rw [Heap.get?_update_self f ha (by rw [hf]; rfl),hf]
 exact AA (F.entry_list_append) (by decide +kernel) (list_append a ⟨xs⟩ e v hz) ⟨ha,hm _ (Ci _ _ _ _ _ (by simp) (by simp))⟩
section
variable{w:World}{c:Cfg}{A:Around}{s:Shared}{L gl cx cy cz pi ch so kg e d:Nat}{k:Nat→Nat}{v:Nat→Value}{es:List DictEntry}{sl sle sd:Array (Option Value)}
theorem st7(W:Ae w)(hA:Ar A 690)(S:St0 w s){n kf:Nat}(F:FrN w k v pi ch so kg gl es n)(h5:lk w L=none)(h5g:lk w gl=none)(hne:L≠gl)(hL:s.heap.get? L=some (AS (es++[de w "fault" kf (.ref e)]) (n+1) sl)){vs:Array Value}(he:s.heap.get? e=some ⟨.ref 156,some d,.fields vs,sle⟩)
  {pl:Option Nat} {ms:Value} {a b kk hh:Nat} (hd:s.heap.get? d=some ⟨.type "dict",none,.dict #[de w "msg" a ms,de w "loc" b (B8 c pl),de w "hints" kk (.ref hh)] 3,sd⟩) {gs:List Value} {ge:Nat} (hgl:s.heap.get? gl=some (lst gs ge)) (hlen:gs.length≤1001)
  (hli:∀ p,pl=some p→(∃ r0 r1 c0 c1,c.ls p 3=.int r0 r1∧c.ls p 0=.int c0 c1)∧s.heap.get? (c.li p)=some (oL (c.dl p) (c.ls p 0) (c.ls p 1) (c.ls p 2) (c.ls p 3) (c.ls p 4))) {Q:Flow→Shared→Prop} {E:Value→Shared→Prop}
  (h:∀ s' gs2 ge',Aft [L,gl] s s'→s'.heap.get? L=some (AS (es++[de w "fault" kf (.ref e)]) (n+1) sl)→s'.heap.get? gl=some (lst (gs++gs2) ge')→Cy c s'.heap gs2 (some pl)→Q .next s') :
  wpAny (model pr2 w) (Ah A e) (execs ((ltP w).b0::(ltP w).hb) (Ai w L cx cy cz)) Q E s:=by
 have S1:Ak w (exH s [L,gl]) s:=Cq S
 have hdp:(Ah A e).depth+60<recursionLimit:=by have:=hA.depth; show A.depth+60<_; exact ω1a this
 have hsz:=sZ
 have hz:gs.length≤sizeLine:=ω0c hlen hsz
 have e1:e≠L:=fun q=>by rw [q,hL] at he; cases he
 have e2:e≠gl:=fun q=>by rw [q,hgl] at he; cases he
 have d1:d≠L:=fun q=>by rw [q,hL] at hd; have:=congrArg Obj.cls (Option.some.inj hd); simp at this
 have d2:d≠gl:=fun q=>by rw [q,hgl] at hd; have:=congrArg Obj.cls (Option.some.inj hd); simp at this
 have ed:e≠d:=fun q=>by rw [q,hd] at he; cases he
 have re:lkX w (exH s [L,gl]) e=some _:=EL S (by simp [e1,e2]) he
 have rd:lkX w (exH s [L,gl]) d=some _:=EL S (by simp [d1,d2]) hd
 have aL:lkX w (exH s [L,gl]) L=none:=Cv μ0 h5
 have ag:lkX w (exH s [L,gl]) gl=none:=Cv μ1 h5g
 refine Au ?_
 rcases F with⟨rfl,rfl⟩ | ⟨kt,ta,rfl,rfl⟩
 ·cases pl with
  | none=>
   have I0:=Inv.MH S1 (reads:=[(e,⟨.ref 156,some d,.fields vs,sle⟩),(d,⟨.type "dict",none,.dict #[de w "msg" a ms,de w "loc" b (.none),de w "hints" kk (.ref hh)] 3,sd⟩)]) (pre:=[(L,AS (As w k v pi ch so kg gl++[de w "fault" kf (.ref e)]) 12 sl),(gl,lst gs ge)]) ((ζ2 re rd)) (by simp [ed]) (ζ2 hL hgl) (by simp [hne]) (ζ2 aL ag)
   refine AG (BM (t:=s.toks) (ro:=2) W S1 rfl hdp) (lt70a_v w (Ax w) (exH s [L,gl]) s.heap.objs.size s.toks L cx cy cz pi ch so kg gl k v ge e d kf gs ms vs sle sd sl a b kk hh) rfl (vs:=[]) Aa I0 fun s1 I1 H1=>?_
   have hL1:=H1 _ μ0
   have hg1:=H1 _ μ1
   have hn1:=H1 _ μ2
   dsimp only at hL1 hg1 hn1
   refine CY hg1 hz fun s2 A2 hg2 sz2 tk2=>?_
   have hL2:=A2.keep _ _ hL1 (by simp [hne])
   have A02:Aft [L,gl] s s2:=⟨A2.same.trans (by rw [I1.aft.same]),I1.aft.gens.trans A2.gens,fun x o q hb=>A2.keep _ _ (I1.aft.keep _ _ q hb) (fun m=>hb (by rw [ιS m]; exact μ1)),ιT I1.aft.size A2.size⟩
   have S2':Ak w (exH s [L,gl]) s2:=fun x o q=>A02.keep _ _ (S1 x o q) (fun m=>by
    replace m:=ω9o m
    rcases m with m | m
    ·rw [m,aL] at q; cases q
    ·rw [m,ag] at q; cases q)
   have sz1:s1.heap.objs.size=s.heap.objs.size+1:=I1.size
   have hn2:=A2.keep _ _ hn1 (fun m=>by
    have:s.heap.objs.size=gl:=ιS m
    have l:gl<s.heap.objs.size:=ιH hgl
    exact ω1m this l)
   have t9:=lt90a_v w (Ax w) (exH s [L,gl]) s.heap.objs.size s.toks L cx cy cz pi ch so kg gl k v ge e d kf gs ms vs sle sd sl a b kk hh s2.heap.objs.size s2.toks
   refine Al (g:=Ac pr2 w (Ah A e) _ _) (BM (t:=s2.toks) (ro:=0) W S2' rfl hdp) rfl t9 (vs:=[]) Aa
    (Inv.MH S2' (reads:=[]) (pre:=[(L,AS (As w k v pi ch so kg gl++[de w "fault" kf (.ref e)]) 12 sl)]) Aa ιN (Ab hL2 Aa) (by simp) (Ab aL Aa)) fun s3 I3 H3=>ιp ?_
   have hL3:=H3 _ μ0
   dsimp only at hL3
   have A3:Aft [] s2 s3:=I3.aft.unmark fun o q=>by rw [hL2] at q; cases q; exact hL3
   exact h s3 [.ref s.heap.objs.size] (ge+1) (A02.trans (A3.mono fun _ q=>nomatch q)) hL3 (A3.keep _ _ hg2 (fun q=>nomatch q)) ⟨_,_,rfl,A3.keep _ _ hn2 (fun q=>nomatch q)⟩
  | some p=>
   obtain⟨⟨r0,r1,c0,c1,hr,hc⟩,hl⟩:=hli p rfl
   rw [hr,hc] at hl
   have l1:c.li p≠L:=fun q=>by rw [q,hL] at hl; cases hl
   have l2:c.li p≠gl:=fun q=>by rw [q,hgl] at hl; cases hl
   have le:c.li p≠e:=fun q=>by rw [q,he] at hl; cases hl
   have ld:c.li p≠d:=fun q=>by rw [q,hd] at hl; cases hl
   have rl:lkX w (exH s [L,gl]) (c.li p)=some _:=EL S (by simp [l1,l2]) hl
   have I0:=Inv.MH S1 (reads:=[(c.li p,oL (c.dl p) (.int c0 c1) (c.ls p 1) (c.ls p 2) (.int r0 r1) (c.ls p 4)),(e,⟨.ref 156,some d,.fields vs,sle⟩),(d,⟨.type "dict",none,.dict #[de w "msg" a ms,de w "loc" b (.ref (c.li p)),de w "hints" kk (.ref hh)] 3,sd⟩)]) (pre:=[(L,AS (As w k v pi ch so kg gl++[de w "fault" kf (.ref e)]) 12 sl),(gl,lst gs ge)]) (ζ3 rl re rd) (by simp [ed,le,ld]) (ζ2 hL hgl) (by simp [hne]) (ζ2 aL ag)
   refine AG (BM (t:=s.toks) (ro:=3) W S1 rfl hdp) (lt70b_v w (Ax w) (exH s [L,gl]) s.heap.objs.size s.toks L cx cy cz pi ch so kg gl k v (c.li p) (c.dl p) ge e d kf gs (c.ls p 1) (c.ls p 2) (c.ls p 4) ms c0 r0 c1 r1 vs sle sd sl a b kk hh) rfl (vs:=[]) Aa I0 fun s1 I1 H1=>?_
   have hL1:=H1 _ μ0
   have hg1:=H1 _ μ1
   have hn1:=H1 _ μ2
   dsimp only at hL1 hg1 hn1
   refine CY hg1 hz fun s2 A2 hg2 sz2 tk2=>?_
   have hL2:=A2.keep _ _ hL1 (by simp [hne])
   have A02:Aft [L,gl] s s2:=⟨A2.same.trans (by rw [I1.aft.same]),I1.aft.gens.trans A2.gens,fun x o q hb=>A2.keep _ _ (I1.aft.keep _ _ q hb) (fun m=>hb (by rw [ιS m]; exact μ1)),ιT I1.aft.size A2.size⟩
   have S2':Ak w (exH s [L,gl]) s2:=fun x o q=>A02.keep _ _ (S1 x o q) (fun m=>by
    replace m:=ω9o m
    rcases m with m | m
    ·rw [m,aL] at q; cases q
    ·rw [m,ag] at q; cases q)
   have sz1:s1.heap.objs.size=s.heap.objs.size+1:=I1.size
   have hn2:=A2.keep _ _ hn1 (fun m=>by
    have:s.heap.objs.size=gl:=ιS m
    have l:gl<s.heap.objs.size:=ιH hgl
    exact ω1m this l)
   have t9:=lt90b_v w (Ax w) (exH s [L,gl]) s.heap.objs.size s.toks L cx cy cz pi ch so kg gl k v (c.li p) (c.dl p) ge e d kf gs (c.ls p 1) (c.ls p 2) (c.ls p 4) ms c0 r0 c1 r1 vs sle sd sl a b kk hh s2.heap.objs.size s2.toks
   refine Al (g:=Ac pr2 w (Ah A e) _ _) (BM (t:=s2.toks) (ro:=0) W S2' rfl hdp) rfl t9 (vs:=[]) Aa
    (Inv.MH S2' (reads:=[]) (pre:=[(L,AS (As w k v pi ch so kg gl++[de w "fault" kf (.ref e)]) 12 sl)]) Aa ιN (Ab hL2 Aa) (by simp) (Ab aL Aa)) fun s3 I3 H3=>ιp ?_
   have hL3:=H3 _ μ0
   dsimp only at hL3
   have A3:Aft [] s2 s3:=I3.aft.unmark fun o q=>by rw [hL2] at q; cases q; exact hL3
   exact h s3 [.ref s.heap.objs.size] (ge+1) (A02.trans (A3.mono fun _ q=>nomatch q)) hL3 (A3.keep _ _ hg2 (fun q=>nomatch q)) ⟨_,_,rfl,by rw [hr,hc]; exact A3.keep _ _ hn2 (fun q=>nomatch q)⟩
 ·cases pl with
  | none=>
   have I0:=Inv.MH S1 (reads:=[(e,⟨.ref 156,some d,.fields vs,sle⟩),(d,⟨.type "dict",none,.dict #[de w "msg" a ms,de w "loc" b (.none),de w "hints" kk (.ref hh)] 3,sd⟩)]) (pre:=[(L,AS (As w k v pi ch so kg gl++[de w "t" kt (.ref ta)]++[de w "fault" kf (.ref e)]) 13 sl),(gl,lst gs ge)]) ((ζ2 re rd)) (by simp [ed]) (ζ2 hL hgl) (by simp [hne]) (ζ2 aL ag)
   refine AG (BM (t:=s.toks) (ro:=2) W S1 rfl hdp) (lt7ta_v w (Ax w) (exH s [L,gl]) s.heap.objs.size s.toks L cx cy cz pi ch so kg gl k v ta kt ge e d kf gs ms vs sle sd sl a b kk hh) rfl (vs:=[]) Aa I0 fun s1 I1 H1=>?_
   have hL1:=H1 _ μ0
   have hg1:=H1 _ μ1
   have hn1:=H1 _ μ2
   dsimp only at hL1 hg1 hn1
   refine CY hg1 hz fun s2 A2 hg2 sz2 tk2=>?_
   have hL2:=A2.keep _ _ hL1 (by simp [hne])
   have A02:Aft [L,gl] s s2:=⟨A2.same.trans (by rw [I1.aft.same]),I1.aft.gens.trans A2.gens,fun x o q hb=>A2.keep _ _ (I1.aft.keep _ _ q hb) (fun m=>hb (by rw [ιS m]; exact μ1)),ιT I1.aft.size A2.size⟩
   have S2':Ak w (exH s [L,gl]) s2:=fun x o q=>A02.keep _ _ (S1 x o q) (fun m=>by
    replace m:=ω9o m
    rcases m with m | m
    ·rw [m,aL] at q; cases q
    ·rw [m,ag] at q; cases q)
   have sz1:s1.heap.objs.size=s.heap.objs.size+1:=I1.size
   have hn2:=A2.keep _ _ hn1 (fun m=>by
    have:s.heap.objs.size=gl:=ιS m
    have l:gl<s.heap.objs.size:=ιH hgl
    exact ω1m this l)
   have t9:=lt9ta_v w (Ax w) (exH s [L,gl]) s.heap.objs.size s.toks L cx cy cz pi ch so kg gl k v ta kt ge e d kf gs ms vs sle sd sl a b kk hh s2.heap.objs.size s2.toks
   refine Al (g:=Ac pr2 w (Ah A e) _ _) (BM (t:=s2.toks) (ro:=0) W S2' rfl hdp) rfl t9 (vs:=[]) Aa
    (Inv.MH S2' (reads:=[]) (pre:=[(L,AS (As w k v pi ch so kg gl++[de w "t" kt (.ref ta)]++[de w "fault" kf (.ref e)]) 13 sl)]) Aa ιN (Ab hL2 Aa) (by simp) (Ab aL Aa)) fun s3 I3 H3=>ιp ?_
   have hL3:=H3 _ μ0
   dsimp only at hL3
   have A3:Aft [] s2 s3:=I3.aft.unmark fun o q=>by rw [hL2] at q; cases q; exact hL3
   exact h s3 [.ref s.heap.objs.size] (ge+1) (A02.trans (A3.mono fun _ q=>nomatch q)) hL3 (A3.keep _ _ hg2 (fun q=>nomatch q)) ⟨_,_,rfl,A3.keep _ _ hn2 (fun q=>nomatch q)⟩
  | some p=>
   obtain⟨⟨r0,r1,c0,c1,hr,hc⟩,hl⟩:=hli p rfl
   rw [hr,hc] at hl
   have l1:c.li p≠L:=fun q=>by rw [q,hL] at hl; cases hl
   have l2:c.li p≠gl:=fun q=>by rw [q,hgl] at hl; cases hl
   have le:c.li p≠e:=fun q=>by rw [q,he] at hl; cases hl
   have ld:c.li p≠d:=fun q=>by rw [q,hd] at hl; cases hl
   have rl:lkX w (exH s [L,gl]) (c.li p)=some _:=EL S (by simp [l1,l2]) hl
   have I0:=Inv.MH S1 (reads:=[(c.li p,oL (c.dl p) (.int c0 c1) (c.ls p 1) (c.ls p 2) (.int r0 r1) (c.ls p 4)),(e,⟨.ref 156,some d,.fields vs,sle⟩),(d,⟨.type "dict",none,.dict #[de w "msg" a ms,de w "loc" b (.ref (c.li p)),de w "hints" kk (.ref hh)] 3,sd⟩)]) (pre:=[(L,AS (As w k v pi ch so kg gl++[de w "t" kt (.ref ta)]++[de w "fault" kf (.ref e)]) 13 sl),(gl,lst gs ge)]) (ζ3 rl re rd) (by simp [ed,le,ld]) (ζ2 hL hgl) (by simp [hne]) (ζ2 aL ag)
   refine AG (BM (t:=s.toks) (ro:=3) W S1 rfl hdp) (lt7tb_v w (Ax w) (exH s [L,gl]) s.heap.objs.size s.toks L cx cy cz pi ch so kg gl k v ta kt (c.li p) (c.dl p) ge e d kf gs (c.ls p 1) (c.ls p 2) (c.ls p 4) ms c0 r0 c1 r1 vs sle sd sl a b kk hh) rfl (vs:=[]) Aa I0 fun s1 I1 H1=>?_
   have hL1:=H1 _ μ0
   have hg1:=H1 _ μ1
   have hn1:=H1 _ μ2
   dsimp only at hL1 hg1 hn1
   refine CY hg1 hz fun s2 A2 hg2 sz2 tk2=>?_
   have hL2:=A2.keep _ _ hL1 (by simp [hne])
   have A02:Aft [L,gl] s s2:=⟨A2.same.trans (by rw [I1.aft.same]),I1.aft.gens.trans A2.gens,fun x o q hb=>A2.keep _ _ (I1.aft.keep _ _ q hb) (fun m=>hb (by rw [ιS m]; exact μ1)),ιT I1.aft.size A2.size⟩
   have S2':Ak w (exH s [L,gl]) s2:=fun x o q=>A02.keep _ _ (S1 x o q) (fun m=>by
    replace m:=ω9o m
    rcases m with m | m
    ·rw [m,aL] at q; cases q
    ·rw [m,ag] at q; cases q)
   have sz1:s1.heap.objs.size=s.heap.objs.size+1:=I1.size
   have hn2:=A2.keep _ _ hn1 (fun m=>by
    have:s.heap.objs.size=gl:=ιS m
    have l:gl<s.heap.objs.size:=ιH hgl
    exact ω1m this l)
   have t9:=lt9tb_v w (Ax w) (exH s [L,gl]) s.heap.objs.size s.toks L cx cy cz pi ch so kg gl k v ta kt (c.li p) (c.dl p) ge e d kf gs (c.ls p 1) (c.ls p 2) (c.ls p 4) ms c0 r0 c1 r1 vs sle sd sl a b kk hh s2.heap.objs.size s2.toks
   refine Al (g:=Ac pr2 w (Ah A e) _ _) (BM (t:=s2.toks) (ro:=0) W S2' rfl hdp) rfl t9 (vs:=[]) Aa
    (Inv.MH S2' (reads:=[]) (pre:=[(L,AS (As w k v pi ch so kg gl++[de w "t" kt (.ref ta)]++[de w "fault" kf (.ref e)]) 13 sl)]) Aa ιN (Ab hL2 Aa) (by simp) (Ab aL Aa)) fun s3 I3 H3=>ιp ?_
   have hL3:=H3 _ μ0
   dsimp only at hL3
   have A3:Aft [] s2 s3:=I3.aft.unmark fun o q=>by rw [hL2] at q; cases q; exact hL3
   exact h s3 [.ref s.heap.objs.size] (ge+1) (A02.trans (A3.mono fun _ q=>nomatch q)) hL3 (A3.keep _ _ hg2 (fun q=>nomatch q)) ⟨_,_,rfl,by rw [hr,hc]; exact A3.keep _ _ hn2 (fun q=>nomatch q)⟩
end
theorem lk_of{w:World}{ext:Addr→Option Obj}{a:Addr}(h:lkX w ext a=none):lk w a=none:=by
 unfold lkX at h
 split at h
 ·cases h
 ·assumption
theorem Cy.keep{c:Cfg}{h h':Heap}{gs:List Value}:∀ {pl:Option (Option Nat)},Cy c h gs pl→(∀ a vs,h.get? a=some (AQ vs)→h'.get? a=some (AQ vs))→Cy c h' gs pl
 | none,x,_=>x
 | some none,⟨a,k,e,x⟩,k'=>⟨a,k,e,k' _ _ x⟩
 | some (some p),⟨a,k,e,x⟩,k'=>⟨a,k,e,k' _ _ x⟩
section
variable{w:World}{c:Cfg}{A:Around}{s s1:Shared}{L gl cx cy cz pi ch so kg e:Nat}{k:Nat→Nat}{v:Nat→Value}{es:List DictEntry}
theorem law_hand(W:Ae w)(hA:Ar A 690)(S:St0 w s){n:Nat}(F:FrN w k v pi ch so kg gl es n){D:List Addr}(h5:∀ x∈L::gl::D,lk w x=none)(hne:L≠gl)(hLD:L∉D)(hgD:gl∉D)(hL:s.heap.get? L=some (oFr es n)){gs:List Value}{ge:Nat}(hgl:s.heap.get? gl=some (lst gs ge))(hlen:gs.length≤1001)
  {pl:Option Nat} (hli:∀ p,pl=some p→(∃ r0 r1 c0 c1,c.ls p 3=.int r0 r1∧c.ls p 0=.int c0 c1)∧c.li p∉D∧s.heap.get? (c.li p)=some (oL (c.dl p) (c.ls p 0) (c.ls p 1) (c.ls p 2) (c.ls p 3) (c.ls p 4)))
  (X:Bs w ({}:Heap) [Ai w L cx cy cz] D (B8 c pl) (rawInt L) s e s1) {Q:Flow→Shared→Prop} {E:Value→Shared→Prop}
  (hQ:∀ s' sl' n' gs2 ge',s'={s with heap:=s'.heap,toks:=s'.toks,gens:=s'.gens}→By s.gens s'.gens→KX (L::gl::D) s.heap s'.heap→s.heap.objs.size≤s'.heap.objs.size→s'.heap.get? L=some (AS es n' sl')→s'.heap.get? gl=some (lst (gs++gs2) ge')→Cy c s'.heap gs2 (some pl)→Q .next s') :
  wpAny (model pr2 w) A (noteFrame (.ref e) (Ai w L cx cy cz)) (fun _ s₂=>wpAny (model pr2 w) A (setFlight (.ref e) none) (fun _ s₃=>wpAny (model pr2 w) A (handleBy (.ref e) (Ai w L cx cy cz) [.ExceptHandler (some (ltP w).t) (some "fault") ((ltP w).b0::(ltP w).hb) (ltP w).hp]) Q E s₃) E s₂) E s1:=by
 have hf:(Ai w L cx cy cz).frame=some L:=rfl
 have kf:∀ {fl s'},Bs w ({}:Heap) [Ai w L cx cy cz] D (B8 c pl) fl s e s'→∀ a o,s.heap.get? a=some o→a∉D→a≠L→s'.heap.get? a=some o:=fun Y a o q h1 h2=>Y.kx a o q fun m=>by
  rcases ιM m with m | m
  ·exact h1 m
  ·rcases CM hf m with m | m
   ·exact h2 m
   ·cases m
 have fst:∀ {fl s'},Bs w ({}:Heap) [Ai w L cx cy cz] D (B8 c pl) fl s e s'→St0 w s':=fun Y a o q=>kf Y a o (S a o q) (fun m=>by rw [h5 _ (.tail _ (.tail _ m))] at q; cases q) (fun m=>by rw [m,h5 _ μ0] at q; cases q)
 have fL:∀ {fl s'},Bs w ({}:Heap) [Ai w L cx cy cz] D (B8 c pl) fl s e s'→∃ sl,s'.heap.get? L=some (AS es n sl):=fun Y=>by
  obtain⟨sl,q⟩:=Y.nf L _ hL hLD (fun vs q=>nomatch q)
  exact⟨sl,q⟩
 have fg:∀ {fl s'},Bs w ({}:Heap) [Ai w L cx cy cz] D (B8 c pl) fl s e s'→s'.heap.get? gl=some (lst gs ge):=fun Y=>kf Y _ _ hgl hgD hne.symm
 have he5:lk w e=none:=by
  cases q:lk w e with
  | none=>rfl
  | some o=>exact(CV (S _ _ q) X.enew).elim
 have X':=X
 obtain⟨x1,x2,x3,x4,en,kx,d,T,a,b,kk,ms,hh,sl,F0,hd,hT⟩:=X
 refine Gi hf F0 ?_
 refine X'.flight (x:=none) fun s2 Y2=>?_
 refine wpAny_handleBy_cons (codeAny_handlers_test ?_) (ref_ne_byPass e)
 obtain⟨sl2,hL2⟩:=fL Y2
 refine st40 W hA (fst Y2) F (h5 _ μ0) hL2 fun s3 A3=>?_
 have Y3:=(Y2.toR.aft A3).toF
 obtain⟨d3,T3,a3,b3,k3,ms3,hh3,sl3,F3,hd3,hT3⟩:=Y3.fly
 obtain⟨vs3,sle3,he3⟩:=F3.obj
 refine st5 W hA (fst Y3) he5 he3 fun s4 A4=>?_
 have Y4:=(Y3.toR.aft A4).toF
 show codeAny _ _ _ _ s4
 refine codeAny_handlers_suite_as ?_
 refine Y4.flight (x:=none) fun s5 Y5=>?_
 obtain⟨sl5,hL5⟩:=fL Y5
 refine st6 W hA (fst Y5) F (h5 _ μ0) hL5 fun s6 kf' A6 hL6=>?_
 obtain⟨d5,T5,a5,b5,k5,ms5,hh5,sd5,F5,hd5,hT5⟩:=Y5.fly
 obtain⟨vs5,sle5,he5'⟩:=F5.obj
 have nL:∀ {x:Nat} {o:Obj},s5.heap.get? x=some o→o.cls≠.type "frame"→x∉[L]:=fun h1 h2 m=>by
  rw [ιS m,hL5] at h1
  cases h1
  exact h2 rfl
 have he6:=A6.keep _ _ he5' (nL he5' (by simp))
 have hd6:=A6.keep _ _ hd5 (nL hd5 (by simp))
 have hg6:=A6.keep _ _ (fg Y5) (nL (fg Y5) (by simp))
 have S6:St0 w s6:=fun x o q=>A6.keep _ _ (fst Y5 x o q) (fun m=>by rw [ιS m,h5 _ μ0] at q; cases q)
 refine st7 W hA S6 F (h5 _ μ0) (h5 _ μ1) hne hL6 he6 hd6 hg6 hlen (fun p hp=>?_) fun s7 gs2 ge' A7 hL7 hg7 hE7=>?_
 ·obtain⟨q1,q2,q3⟩:=hli p hp
  have q4:c.li p≠L:=fun q=>by rw [q,hL] at q3; cases q3
  have q5:=kf Y5 _ _ q3 q2 q4
  exact⟨q1,A6.keep _ _ q5 (by simp [q4])⟩
 ·have S7:St0 w s7:=fun x o q=>A7.keep _ _ (S6 x o q) (fun m=>by
   replace m:=ω9o m
   rcases m with m | m
   ·rw [m,h5 _ μ0] at q; cases q
   ·rw [m,h5 _ μ1] at q; cases q)
  show wpAny _ A (do bindName (Ai w L cx cy cz) "fault" .none; unbindBehindTheSuite (Ai w L cx cy cz) "fault" (ltP w).hp) _ _ s7
  refine st8 W hA (hp:=(ltP w).hp) S7 F (h5 _ μ0) hL7 fun s8 A8 hL8=>?_
  have A58:Aft [L,gl] s5 s8:=((A6.mono fun x m=>by rw [ιS m]; exact .head _).trans A7).trans (A8.mono fun x m=>by rw [ιS m]; exact .head _)
  refine hQ s8 _ _ gs2 ge' ?_ (Y5.gens.trans A58.gens) (fun x o q hb=>A58.keep _ _ (kf Y5 _ _ q (fun m=>hb (.tail _ (.tail _ m))) (fun m=>hb (by rw [m]; exact .head _))) (fun m=>hb (by
   simp only [List.mem_cons,List.not_mem_nil,or_false] at m ⊢
   rcases m with m | m
   ·exact .inl m
   ·exact .inr (.inl m)))) (ιT Y5.size A58.size) hL8 (A8.keep _ _ hg7 (by simp [hne.symm])) (hE7.keep fun x vs q=>A8.keep _ _ q fun m=>?_)
  ·exact smT Y5.same A58.same
  ·rw [ιS m,hL7] at q
   have:=congrArg Obj.cls (Option.some.inj q)
   simp at this
end
theorem FE{c:Cfg}:∀ (m:Nat) (s:LS),(Bf c m s).1.length≤m
 | 0,s=>ιR _
 | m+1,s=>by
  rw [Bf]
  split
  ·exact Nat.zero_le _
  ·exact Nat.zero_le _
  ·have:=FE (c:=c) m (by assumption)
   simp only [List.length_cons]
   exact ω1n this
theorem BI.lo{c:Cfg}{lo lo':Nat}{h:Heap}{gs:List Value}{l:List Dw}(G:BI c lo h gs l)(q:lo'≤lo):BI c lo' h gs l:=⟨G.1,fun i tk hi=>by
 obtain⟨a,k1,k2,h1,r⟩:=G.2 i tk hi
 exact⟨a,k1,k2,ιT q h1,r⟩⟩
section
variable{w:World}{ext:Addr→Option Obj}{c:Cfg}
noncomputable abbrev GQ(c:Cfg)(L gl:Nat):List Addr:=[L,gl,c.dx,c.tb,c.pb,c.ct,225]
theorem law_try_con(W:Ae w){L gl cx cy cz pi so kg sf sp code tu code2:Nat}{k:Nat→Nat}{v:Nat→Value}(Rw:Raw w ext c L gl)(K:Clo w ext c.x sf sp code tu code2 cx cy cz){A:Around}(hA:Ar A 690)(hfA:A.frames=some [Ai w L cx cy cz]){st:Shared}(S0:Ak w ext st)
  (hit:c.it=st.heap.objs.size) (hk4:c.kt 4=st.toks+7) (h5:∀ a∈[L,cx,cy,c.cl,c.dx],524≤a) (hL:st.heap.get? L=some (oFr (As w k v pi c.cl so kg gl) 11)) (hgl:st.heap.get? gl=some (lst [] 0)) (hdx:st.heap.get? c.dx=some (dx4 w c))
  (htb:st.heap.get? c.tb=some (lst [] 0)) (hpb:st.heap.get? c.pb=some (lst [] 0)) (hct:st.heap.get? c.ct=some (lst [] 0)) (T:∃ ps,Tab st.heap 229 225 ps) {Q:Flow→Shared→Prop} {E:Value→Shared→Prop}
  (h:∀ s' es n sl gs gs2 ge,By st.gens s'.gens→s'={st with heap:=s'.heap,toks:=s'.toks,gens:=s'.gens}→KX (GQ c L gl) st.heap s'.heap→st.heap.objs.size≤s'.heap.objs.size→s'.heap.get? L=some (AS es n sl)→JL w es k v pi c.cl so kg gl→
   s'.heap.get? gl=some (lst (gs++gs2) ge)→BI c st.heap.objs.size s'.heap gs (AH c).1→Cy c s'.heap gs2 (AH c).2→(∃ ps,Tab s'.heap 229 225 ps)→Q .next s') :
  wpAny (model pr2 w) A (exec (ltS w) (Ai w L cx cy cz)) Q E st:=by
 have nd:=Rw.nd
 replace nd:=ω9m.1 nd
 have lt:∀ {a:Nat} {o:Obj},st.heap.get? a=some o→a<(st.heap.objs.size:Nat):=fun e=>ιH e
 have lL:=lt hL
 have lgl:=lt hgl
 have ldx:=lt hdx
 have ltb:=lt htb
 have lpb:=lt hpb
 have lct:=lt hct
 have l225:225<st.heap.objs.size:=by
  obtain⟨ps,T⟩:=T
  obtain⟨_,⟨⟨o',vs',a',r'⟩,t⟩⟩:=T
  exact lt t
 have apN:∀ a,st.heap.objs.size≤a→lkX w ext a=none:=fun a ha=>by
  cases e:lkX w ext a with
  | none=>rfl
  | some o=>exact(CV (S0 a o e) ha).elim
 have htot:(AH c).1.length≤1001:=by
  have:=FE (c:=c) (c.N+1) LS.start
  have:=Rw.small
  show(Bf c (c.N+1) LS.start).1.length≤_
  omega
 have apD:∀ x∈EI c (st.heap.objs.size+1) L gl,lkX w ext x=none:=fun x hx=>by
  replace hx:=ω9s hx
  rcases hx with rfl | rfl | rfl | rfl | rfl | rfl | rfl | rfl | rfl
  ·exact Rw.ap _ (μ0)
  ·exact Rw.ap _ (μ1)
  ·exact apN _ (ω1e)
  ·exact Rw.ap _ (μ2)
  ·exact Rw.ap _ (μ3)
  ·exact Rw.ap _ (μ4)
  ·exact Rw.ap _ (μ5)
  ·exact apN _ (ωs hit)
  ·exact Rw.ap _ (μ6)
 have lowD:∀ x:Nat,x∈EI c (st.heap.objs.size+1) L gl→x<(st.heap.objs.size:Nat)+3:=fun x hx=>by
  replace hx:=ω9s hx
  rcases hx with q | q | q | q | q | q | q | q | q <;> (rw [q]; omega)
 have i1:L≠st.heap.objs.size+1:=ω1k lL
 have i2:L≠c.it:=ω1d hit lL
 have i3:gl≠st.heap.objs.size+1:=ω1k lgl
 have i4:gl≠c.it:=ω1d hit lgl
 have i5:225≠st.heap.objs.size+1:=ω1r l225
 have i6:225≠c.it:=ω1s hit l225
 have hLD:L∉gnD c (st.heap.objs.size+1):=by simp [nd.1,i1,i2]
 have hgD:gl∉gnD c (st.heap.objs.size+1):=by simp [nd.2.1,i3,i4]
 have h225:225∉CO c (st.heap.objs.size+1):=by
  have a1:=Ne.symm nd.2.2.1.2.2.2
  have a2:=Ne.symm nd.2.2.2.1.2.2
  have a3:=Ne.symm nd.2.2.2.2.1.2
  have a4:=Ne.symm nd.2.2.2.2.2.1
  simp [i5,i6,a1,a2,a3,a4]
 have hL225:225∉[L,gl]:=by
  have a1:=Ne.symm nd.1.2.2.2.2.2
  have a2:=Ne.symm nd.2.1.2.2.2.2
  simp [a1,a2]
 have sub0:∀ x∈CO c (st.heap.objs.size+1),x∈gnD c (st.heap.objs.size+1):=fun x hx=>by
  exact ιI hx (ζ6 μ0 μ1 μ2 μ3 μ4 μ5)
 have sub1:∀ x∈L::gl::CO c (st.heap.objs.size+1),x∈EI c (st.heap.objs.size+1) L gl:=fun x hx=>by
  rcases ιC hx with q | hx
  ·rw [q]; exact .head _
  rcases ιC hx with q | hx
  ·rw [q]; exact .tail _ μ0
  ·exact .tail _ (.tail _ (sub0 x hx))
 have toD:∀ b:Nat,b∈EI c (st.heap.objs.size+1) L gl→b<(st.heap.objs.size:Nat)→b∈GQ c L gl:=fun b hb hl=>by
  simp only [List.mem_cons,List.not_mem_nil,or_false] at hb ⊢
  rcases hb with q | q | q | q | q | q | q | q | q
  ·simp [q]
  ·simp [q]
  ·rw [q] at hl; exact ω1t hl
  ·simp [q]
  ·simp [q]
  ·simp [q]
  ·simp [q]
  ·rw [q] at hl; exact ω1u hit hl
  ·simp [q]
 have ekw:(Ai w L cx cy cz).frame=some L:=rfl
 show wpAny _ A (exec (.Try [.For (.Name "t" (ltP w).p0) (ltP w).it (ltP w).body [] (ltP w).p1] [.ExceptHandler (some (ltP w).t) (some "fault") ((ltP w).b0::(ltP w).hb) (ltP w).hp] [] [] (ltP w).p2) _) Q E st
 refine wpAny_Try_except (wpAny_execs_cons (wpAny_For (hs:=fun x=>by kernel_rfl) ?_))
 refine law_iter W Rw K hA hfA S0 hit hk4 h5 hL hgl hdx htb hpb hct T fun s₃ sm3 kx3 sz3 gx3 isg3 X=>?_
 refine wpAny_pyIter_gen isg3 ?_
 have S3:Ak w ext {s₃ with gens:=st.gens}:=fun a o e=>kx3 a o (S0 a o e) (fun q=>nomatch q)
 refine law_loop W (st:={s₃ with gens:=st.gens}) (s0:=s₃) Rw hA hfA S3 (ιR _) (show st.heap.objs.size+2≠L from ω1f lL) (show st.heap.objs.size+2≠gl from ω1f lgl) (apN _ (ω1e)) (apN _ (ωs hit)) ?_ (fun x hx=>by show x<s₃.heap.objs.size; rw [sz3]; exact lowD x hx) hLD hgD htot h225 hL225 X ?_ ?_
 ·intro hm
  have:=lowD _ (.tail _ (.tail _ hm))
  replace hm:=ω9r hm
  rcases hm with q | q | q | q | q | q | q <;> omega
 ·intro s₁ es n gs ge hfin hge hsm hk hz hfr hes hg hgot htab
  refine wpAny_execs_nil (wpAny_execs_nil ?_)
  refine h s₁ es n #[] gs [] ge hge ?_ (fun b o e hb=>hk b o (kx3 b o e (fun q=>nomatch q)) fun q=>hb (toD b q (lt e))) (by rw [show({s₃ with gens:=st.gens}:Shared).heap.objs.size=_ from sz3] at hz; exact ω1z hz) hfr hes (by rw [List.append_nil]; exact hg) (hgot.lo (by show _≤s₃.heap.objs.size; exact ω20 sz3)) (by rw [hfin]; rfl) htab
  exact smV hsm rfl (smd sm3 :) rfl (smo sm3 :)
 ·intro s pl e s₁ es n gs ge hfin hge hsm hk hz hfr hes hg hgot htab Y
  refine Bs.back Y ekw fun s₂ Y2=>?_
  have hl5:∀ x∈L::gl::CO c (st.heap.objs.size+1),lk w x=none:=fun x hx=>lk_of (apD x (sub1 x hx))
  have Ss:Ak w ext s:=fun a o e=>hk a o (S3 a o e) fun q=>by rw [apD a q] at e; cases e
  refine law_hand W (s:={s with gens:=st.gens}) hA (fun a o e=>Ss a o (by unfold lkX; rw [e])) hes hl5 nd.1.1 (fun m=>hLD (sub0 _ m)) (fun m=>hgD (sub0 _ m)) hfr hg (by
   have:=hgot.1
   exact ω21 htot this) (fun p hp=>?_) Y2 fun s' sl' n' gs2 ge' hsm' hge' hk' hz' hL' hg' hE'=>?_
  ·subst hp
   have hb:p<c.N:=(EH (c:=c) (m:=c.N+1) (Eu c) rfl).2 p hfin
   have hl:=Rw.hli p hb
   exact⟨Rw.hls p hb,(fun m=>by
    have h1:=apD _ (.tail _ (.tail _ (sub0 _ m)))
    rw [hl] at h1; cases h1),Ss _ _ hl⟩
  ·have hk2:KX (EI c (st.heap.objs.size+1) L gl) s₃.heap s'.heap:=fun b o e hb=>hk' b o (hk b o e hb) fun m=>hb (sub1 b m)
   refine h s' es n' sl' gs gs2 ge' hge' ?_ (fun b o e hb=>hk2 b o (kx3 b o e (fun q=>nomatch q)) fun q=>hb (toD b q (lt e))) ?_ hL' ?_ hg' ((Dp hgot fun a o ha e=>hk' a o e fun m=>?_).lo (by show _≤s₃.heap.objs.size; exact ω20 sz3)) (by rw [hfin]; exact hE') ?_
   ·exact smV hsm' rfl ((smd hsm :).trans (smd sm3 :)) rfl ((smo hsm :).trans (smo sm3 :))
   ·have h1:s₃.heap.objs.size≤s.heap.objs.size:=hz
    have h2:s.heap.objs.size≤s'.heap.objs.size:=hz'
    exact ω22 sz3 h1 h2
   ·rcases hes with⟨q,_⟩ | ⟨kt,ta,q,_⟩
    ·exact .inl q
    ·exact .inr ⟨kt,ta,q⟩
   ·have h1:=lowD a (sub1 a m)
    have h2:s₃.heap.objs.size≤a:=ha
    exact ω23 sz3 h1 h2
   ·obtain⟨ps,T⟩:=htab
    refine⟨ps,T.at fun b o hb e=>hk' b o e fun m=>?_⟩
    rcases hb with rfl | rfl
    ·have h9:(lkX w ext 229).isSome=true:=by kernel_rfl
     rw [apD _ (sub1 _ m)] at h9; cases h9
    ·rcases ιC m with q | m
     ·exact hL225 (by rw [←q]; exact .head _)
     rcases ιC m with q | m
     ·exact hL225 (by rw [←q]; exact .tail _ μ0)
     ·exact h225 m
end
section
variable(w:World)(f:Fl)(ext:Addr→Option Obj)(n t L cx cy cz:Nat)(k:Nat→Nat)(v:Nat→Value)
theorem la1_d:Nat.ble (AX (la1 w f ext n t L cx cy cz k v).ko) 20=true:=by rcases f with⟨_ | _,_,_⟩ <;> kernel_rfl
theorem la1_l:Nat.ble (Cn (la1 w f ext n t L cx cy cz k v).ko) 20=true:=by rcases f with⟨_ | _,_,_⟩ <;> kernel_rfl
theorem la1_h:AE none (la1 w f ext n t L cx cy cz k v).ko=none:=by rcases f with⟨_ | _,_,_⟩ <;> kernel_rfl
end
section
variable{w:World}{A:Around}{st:Shared}{L cx cy cz:Nat}{k:Nat→Nat}{v:Nat→Value}
structure Mid(w:World)(L cx cy cz:Nat)(k:Nat→Nat)(v:Nat→Value)(n:Nat)(st st':Shared):Prop where
 aft:Aft [L,cx,cy,cz,520] st st'
 ex:∃ x dx co tb pb ct gl sf sp code code2 tu kg,∃ kt:Nat→Nat,(∀ a∈[x,dx,co,tb,pb,ct,gl,sf,sp,code,code2],n≤a)∧[dx,tb,pb,ct,gl].Nodup∧st'.heap.get? x=some (oX dx)∧
  st'.heap.get? dx=some (AU [de w "token_buffer" (kt 0) (.ref tb),de w "pushed_back" (kt 1) (.ref pb),de w "current_text" (kt 2) (.ref ct),de w "coptions" (kt 3) (.ref co)] 4)∧
  st'.heap.get? tb=some (lst [] 0)∧st'.heap.get? pb=some (lst [] 0)∧st'.heap.get? ct=some (lst [] 0)∧st'.heap.get? gl=some (lst [] 0)∧st'.heap.get? L=some (Jp w k v kg gl)∧
  st'.heap.get? sf=some (Dn w code tu cx cy cz)∧(∃ o,st'.heap.get? code=some o∧Dr G6 o=true)∧st'.heap.get? sp=some (Hh w code2)∧(∃ o,st'.heap.get? code2=some o∧Dr HT o=true)∧
  st'.heap.get? cx=some (An (some (.ref x)))∧st'.heap.get? cy=some (An (some (.ref sf)))∧st'.heap.get? cz=some (An (some (.ref sp)))∧∃ more,st'.heap.get? 520=some (oP more)
theorem law_mid(W:Ae w)(hA:Ar A 690)(S:St0 w st)(h5:∀ a∈[L,cx,cy,cz,520],lk w a=none)(nd:[L,cx,cy,cz,520].Nodup)(hL:st.heap.get? L=some (ET w k v))(hcx:st.heap.get? cx=some (An none))(hcy:st.heap.get? cy=some (An none))(hcz:st.heap.get? cz=some (An none))(ht:st.heap.get? 520=some (oP []))
  (h524:524≤st.heap.objs.size) {Q:Flow→Shared→Prop} {E:Value→Shared→Prop} (h:∀ s',Mid w L cx cy cz k v st.heap.objs.size st s'→Q .next s') :
  wpAny (model pr2 w) A (execs (Bp w 5 4) (Ai w L cx cy cz)) Q E st:=by
 have S1:Ak w (exH st [L,cx,cy,cz,520]) st:=Cq S
 have ap:∀ a∈[L,cx,cy,cz,520],lkX w (exH st [L,cx,cy,cz,520]) a=none:=fun a ha=>Cv ha (h5 a ha)
 have nw:∀ b,st.heap.objs.size≤b→lkX w (exH st [L,cx,cy,cz,520]) b=none:=S1.new
 generalize hext:exH st [L,cx,cy,cz,520]=ext at S1 ap nw
 refine Au ?_
 refine CJ (g:=Ac pr2 w A _ _) (Ao (t:=st.toks) (ro:=0) W S1 (hA.le (by decide:60≤690)) (by decide)) rfl (la1_v _ _ _ _ _ L cx cy cz k v) (la1_h ..) (vs:=[]) Aa
  (Inv.MH S1 (reads:=[]) (pre:=[(L,ET w k v),(cx,An none),(cy,An none),(cz,An none),(520,oP [])]) Aa ιN (ζ5 hL hcx hcy hcz ht) nd
   (ζ5 (ap _ (μ0)) (ap _ (μ1)) (ap _ (μ2)) (ap _ (μ3)) (ap _ (μ4)))) fun A1 s1 hd1 hu1 hh1 hf1 I1 H1=>?_
 have q1:=Nat.le_of_ble_eq_true (la1_d w (Ax w) ext st.heap.objs.size st.toks L cx cy cz k v)
 have q2:=Nat.le_of_ble_eq_true (la1_l w (Ax w) ext st.heap.objs.size st.toks L cx cy cz k v)
 have hA1:Ar A1 200:=⟨hh1.trans hA.handled,by
  have:=hA.depth
  have h1:A1.depth≤max A.depth A.depth+_:=hd1
  exact ω24 q1 this h1,by
  have:=hA.units
  have h1:A1.units≤max A.units A.units+10*Cn (la1 w (Ax w) ext st.heap.objs.size st.toks L cx cy cz k v).ko:=hu1
  exact ω25 q2 this h1⟩
 have L1:=H1 _ μ0
 have X1:=H1 _ μ1
 have Y1:=H1 _ μ2
 have Z1:=H1 _ μ3
 have P1:=H1 _ μ4
 have dx1:=H1 _ μ6
 have x1:=H1 _ μ7
 dsimp only at L1 X1 Y1 Z1 P1 dx1 x1
 have St1:Ak w ext s1:=S1.aft I1.aft (fun a ha=>ap a ha)
 have sz1:s1.heap.objs.size=st.heap.objs.size+13:=I1.size
 refine cl_init W (ω26 h524) hA1 St1 x1 dx1 (nw _ (ω1e)) (nw _ (ω1e)) fun s2 tb pb ct k0 k1 k2 k3 A2 htb0 htp hpc hdx2 htb hpb hct=>?_
 let kt:Nat→Nat:=fun i=>match i with | 0=>k0 | 1=>k1 | 2=>k2 | _=>k3
 have nD:∀ {a:Nat} {o:Obj},s1.heap.get? a=some o→o≠AU [] 0→s2.heap.get? a=some o:=fun e n=>A2.keep _ _ e fun m=>by
  rw [ιS m,dx1] at e
  exact n (Option.some.inj e).symm
 have L2:=nD L1 (fun q=>by have:=congrArg Obj.cls q; simp at this)
 have X2:=nD X1 (fun q=>by have:=congrArg Obj.cls q; simp at this)
 have Y2:=nD Y1 (fun q=>by have:=congrArg Obj.cls q; simp at this)
 have Z2:=nD Z1 (fun q=>by have:=congrArg Obj.cls q; simp at this)
 have P2':=nD P1 (fun q=>by have:=congrArg Obj.cls q; simp at this)
 have x2:=nD x1 (fun q=>by have:=congrArg Obj.cls q; simp at this)
 have sz2:st.heap.objs.size+13≤s2.heap.objs.size:=by have:=A2.size; exact ω27 sz1 this
 have St2:Ak w ext s2:=St1.aft A2 (Ab (nw _ (ω1e)) Aa)
 have ndx:([L,cx,cy,cz,520,st.heap.objs.size+12,st.heap.objs.size+11]:List Nat).Nodup:=by
  have l1:∀ a∈([L,cx,cy,cz,520]:List Nat),a<(st.heap.objs.size:Nat):=Ab (ιH hL) (ζ4 (ιH hcx) (ιH hcy) (ιH hcz) (ιH ht))
  show([L,cx,cy,cz,520]++[st.heap.objs.size+12,st.heap.objs.size+11]:List Nat).Nodup
  rw [List.nodup_append]
  refine⟨nd,by simp,fun a ha b hb e=>?_⟩
  have h1:=l1 a ha
  replace hb:=ω9o hb
  rcases hb with q | q <;> omega
 refine Al (g:=Ac pr2 w A _ _) (Ao (t:=s2.toks) (ro:=0) W St2 (hA.le (by decide:60≤690)) (by decide)) rfl (la2_v _ _ _ _ _ L cx cy cz k v s2.heap.objs.size s2.toks tb pb ct kt) (vs:=[]) Aa
  (Inv.MH St2 (reads:=[]) (pre:=[(L,ET w k v),(cx,An none),(cy,An none),(cz,An none),(520,oP []),(st.heap.objs.size+12,oX (st.heap.objs.size+11)),(st.heap.objs.size+11,AU [de w "token_buffer" (kt 0) (.ref tb),de w "pushed_back" (kt 1) (.ref pb),de w "current_text" (kt 2) (.ref ct),de w "coptions" (kt 3) (.ref (st.heap.objs.size+1))] 4)]) Aa ιN
   (ζ7 L2 X2 Y2 Z2 P2' x2 hdx2) ndx
   (ζ7 (ap _ (μ0)) (ap _ (μ1)) (ap _ (μ2)) (ap _ (μ3)) (ap _ (μ4)) (nw _ (by omega)) (nw _ (by omega)))) fun s3 I3 H3=>ιp (h s3 ?_)
 have A3:Aft [L,cx,cy,cz,520,st.heap.objs.size+12,st.heap.objs.size+11] s2 s3:=I3.aft
 have c12:=la2_c12 w (Ax w) ext st.heap.objs.size st.toks L cx cy cz k v s2.heap.objs.size s2.toks tb pb ct kt
 have c20:=la2_c20 w (Ax w) ext st.heap.objs.size st.toks L cx cy cz k v s2.heap.objs.size s2.toks tb pb ct kt
 have lt2:∀ {a:Nat} {o:Obj},s2.heap.get? a=some o→a<(s2.heap.objs.size:Nat):=fun e=>ιH e
 have lm:∀ a∈([L,cx,cy,cz,520]:List Nat),a<(st.heap.objs.size:Nat):=Ab (ιH hL) (ζ4 (ιH hcx) (ιH hcy) (ιH hcz) (ιH ht))
 have lct:=lt2 hct
 have k3:∀ {a:Nat} {o:Obj},st.heap.objs.size+13≤a→s2.heap.get? a=some o→s3.heap.get? a=some o:=fun {a o} ha e=>A3.keep _ _ e fun m=>by
  have m':a∈([L,cx,cy,cz,520]++[st.heap.objs.size+12,st.heap.objs.size+11]:List Nat):=m
  rcases ιM m' with q | q
  ·have:=lm a q; exact ω2a ha this
  ·replace q:=ω9o q
   rcases q with q | q <;> omega
 refine⟨?_,st.heap.objs.size+12,st.heap.objs.size+11,st.heap.objs.size+1,tb,pb,ct,s2.heap.objs.size+15,s2.heap.objs.size+14,s2.heap.objs.size+6,s2.heap.objs.size+13,s2.heap.objs.size+5,s2.heap.objs.size+7,s2.toks+14,kt,?_,?_,?_,?_,k3 (ω27 sz1 htb0) htb,k3 (ω2d sz1 htb0 htp) hpb,k3 (ω2e sz1 htb0 htp hpc) hct,?_,?_,?_,⟨_,?_,c20⟩,?_,⟨_,?_,c12⟩,?_,?_,?_,?_⟩
 ·have a1:Aft ([L,cx,cy,cz,520]++[st.heap.objs.size+12,st.heap.objs.size+11]) st s1:=I1.aft.mono fun x hx=>List.mem_append_left _ hx
  have a2:Aft ([L,cx,cy,cz,520]++[st.heap.objs.size+12,st.heap.objs.size+11]) s1 s2:=A2.mono fun x hx=>by rw [ιS hx]; exact List.mem_append_right _ μ1
  refine((a1.trans a2).trans A3).drop fun x hx=>?_
  rcases ιM hx with q | q
  ·exact .inl q
  ·refine .inr ?_
   replace q:=ω9o q
   rcases q with q | q
   ·rw [q]; exact ιA ..
   ·rw [q]; exact ιA ..
 ·refine Ab ?_ (ζ10 ?_ ?_ ?_ ?_ ?_ ?_ ?_ ?_ ?_ ?_) <;> omega
 ·have e1:st.heap.objs.size+11≠tb:=ω2j sz1 htb0
  have e2:st.heap.objs.size+11≠pb:=ω2k sz1 htb0 htp
  have e3:st.heap.objs.size+11≠ct:=ω2l sz1 htb0 htp hpc
  have e4:st.heap.objs.size+11≠s2.heap.objs.size+15:=ω2m sz2
  have e5:tb≠pb:=ω2n htp
  have e6:tb≠ct:=ω2o htp hpc
  have e7:tb≠s2.heap.objs.size+15:=ω2p htp hpc lct
  have e8:pb≠ct:=ω2n hpc
  have e9:pb≠s2.heap.objs.size+15:=ω2q hpc lct
  have e10:ct≠s2.heap.objs.size+15:=ω1k lct
  refine ω9t.2 ?_
  exact⟨⟨e1,e2,e3,e4⟩,⟨e5,e6,e7⟩,⟨e8,e9⟩,e10⟩
 ·exact H3 _ μ4
 ·exact H3 _ μ5
 ·exact H3 _ μ10
 ·exact H3 _ μ0
 ·exact H3 _ μ9
 ·exact H3 _ μ8
 ·exact H3 _ μ7
 ·exact H3 _ μ6
 ·exact H3 _ μ1
 ·exact H3 _ μ2
 ·exact H3 _ μ3
 ·obtain⟨more,e⟩:=tabOk_ok (la2_c4 w (Ax w) ext st.heap.objs.size st.toks L cx cy cz k v s2.heap.objs.size s2.toks tb pb ct kt)
  have q:=H3 _ μ11
  rw [e] at q
  exact⟨more,q⟩
end
theorem K9(w:World):lk w 225=none:=by kernel_rfl
theorem Jo(w:World):lk w 520=none:=by kernel_rfl
theorem law_split(w:World):A0 w 523=(A0 w 523).take 5++(Bp w 5 4++(ltS w::(A0 w 523).drop 10)):=by kernel_rfl
section
variable{w:World}
structure MD(w:World)(c:Cfg)(L:Nat)(st:Shared):Prop where
 hcl:st.heap.get? c.cl=some (lst (c.seg 0 c.N) c.ec)
 hci:∀ i,i<c.N→st.heap.get? (c.ci i)=some (oC (c.di i))
 hdi:∀ i,i<c.N→st.heap.get? (c.di i)=some (oDc w (c.k1 i) (c.k2 i) (.str (c.sg i) (c.k3 i)) (c.li i))
 hli:∀ i,i<c.N→st.heap.get? (c.li i)=some (oL (c.dl i) (c.ls i 0) (c.ls i 1) (c.ls i 2) (c.ls i 3) (c.ls i 4))
 low:524≤c.cl∧∀ i,i<c.N→524≤c.ci i∧524≤c.di i∧524≤c.li i
 small:c.N≤1000
 hsg:∀ i,i<c.N→(c.sg i).length≤1
 hls:∀ i,i<c.N→∃ r0 r1 c0 c1,c.ls i 3=.int r0 r1∧c.ls i 0=.int c0 c1
theorem law_run(W:Ae w){c0:Cfg}{L cx cy cz pi so:Nat}{k:Nat→Nat}{v:Nat→Value}{A:Around}(hA:Ar A 690)(hfA:A.frames=some [Ai w L cx cy cz]){st:Shared}(S0:St0 w st)(Ld:MD w c0 L st)
  (hv3:v 3=.ref pi) (hv4:v 4=.ref c0.cl) (hv5:v 5=.ref so) (h5:∀ a∈[L,cx,cy,cz],524≤a) (nd:[L,cx,cy,cz].Nodup) (hL:st.heap.get? L=some (ET w k v)) (hcx:st.heap.get? cx=some (An none)) (hcy:st.heap.get? cy=some (An none)) (hcz:st.heap.get? cz=some (An none))
  (ht:st.heap.get? 520=some (oP [])) (T:∃ ps,Tab st.heap 229 225 ps) {Q:Flow→Shared→Prop} {E:Value→Shared→Prop}
  (h:∀ (c:Cfg) s' es n sl gs gs2 ge kg gl,c.N=c0.N→c.sg=c0.sg→c.ls=c0.ls→By st.gens s'.gens→s'={st with heap:=s'.heap,toks:=s'.toks,gens:=s'.gens}→KX [L,cx,cy,cz,520,225] st.heap s'.heap→st.heap.objs.size≤s'.heap.objs.size→s'.heap.get? L=some (AS es n sl)→JL w es k v pi c0.cl so kg gl→
   s'.heap.get? gl=some (lst (gs++gs2) ge)→BI c st.heap.objs.size s'.heap gs (AH c).1→Cy c s'.heap gs2 (AH c).2→(∃ more,s'.heap.get? 520=some (oP more))→(∃ ps,Tab s'.heap 229 225 ps)→wpAny (model pr2 w) A (execs ((A0 w 523).drop 10) (Ai w L cx cy cz)) Q E s') :
  wpAny (model pr2 w) A (execs (Bp w 5 4++(ltS w::(A0 w 523).drop 10)) (Ai w L cx cy cz)) Q E st:=by
 have lL:=ιH hL
 have g5:=h5 L μ0
 have h524:524≤st.heap.objs.size:=ιT g5 (Nat.le_of_lt lL)
 refine Bm ?_
 have nd5:[L,cx,cy,cz,520].Nodup:=by
  show([L,cx,cy,cz]++[520]).Nodup
  rw [List.nodup_append]
  refine⟨nd,by simp,fun a ha b hb e=>?_⟩
  have h1:524≤a:=h5 a ha
  have h2:b=520:=ιS hb
  rw [e,h2] at h1
  exact absurd h1 (by decide)
 refine law_mid W hA S0 (fun a ha=>?_) nd5 hL hcx hcy hcz ht h524 fun s1 M=>?_
 ·have ha':a∈[L,cx,cy,cz]++[520]:=ha
  rcases ιM ha' with q | q
  ·exact Cj w _ (h5 a q)
  ·rw [ιS q]; exact Jo w
 obtain⟨aft,x,dx,co,tb,pb,ct,gl,sf,sp,code,code2,tu,kg,kt,hnew,hnd,hx,hdx,htb,hpb,hct,hgl,hL1,hsf,hcode,hsp,hcode2,hcx1,hcy1,hcz1,more,h520⟩:=M
 show wpAny _ A (execs (ltS w::(A0 w 523).drop 10) _) Q E s1
 refine wpAny_execs_cons ?_
 let c:Cfg:={c0 with x:=x,dx:=dx,tb:=tb,pb:=pb,ct:=ct,co:=co,it:=s1.heap.objs.size,kt:=fun i=>if i=4 then s1.toks+7 else kt i}
 have S1:St0 w s1:=fun a o e=>aft.keep _ _ (S0 a o e) fun m=>by
  have m':a∈[L,cx,cy,cz]++[520]:=m
  rcases ιM m' with q | q
  ·rw [Cj w _ (h5 a q)] at e; cases e
  ·rw [ιS q,Jo w] at e; cases e
 have dxN:st.heap.objs.size≤dx:=hnew _ (μ1)
 have tbN:st.heap.objs.size≤tb:=hnew _ (μ3)
 have pbN:st.heap.objs.size≤pb:=hnew _ (μ4)
 have ctN:st.heap.objs.size≤ct:=hnew _ (μ5)
 have glN:st.heap.objs.size≤gl:=hnew _ (μ6)
 have xN:st.heap.objs.size≤x:=hnew _ (μ0)
 have old:∀ {a:Nat},a<st.heap.objs.size→524≤a→a≠L→a∉GQ c L gl:=fun {a} h1 h2 h3 m=>by
  have m':a∈([L,gl,dx,tb,pb,ct,225]:List Nat):=m
  replace m':=ω9r m'
  rcases m' with q | q | q | q | q | q | q
  ·exact h3 q
  all_goals omega
 have kp:∀ {a:Nat} {o:Obj},524≤a→st.heap.get? a=some o→o.cls≠.type "frame"→o.cls≠.type "cell"→s1.heap.get? a=some o∧a∉GQ c L gl:=fun {a o} ha e n1 n2=>by
  have m1:a≠L:=fun q=>by rw [q,hL] at e; cases e; exact n1 rfl
  have m2:a≠cx:=fun q=>by rw [q,hcx] at e; cases e; exact n2 rfl
  have m3:a≠cy:=fun q=>by rw [q,hcy] at e; cases e; exact n2 rfl
  have m4:a≠cz:=fun q=>by rw [q,hcz] at e; cases e; exact n2 rfl
  have m5:a≠520:=ω2t ha
  exact⟨aft.keep _ _ e (by simp [m1,m2,m3,m4,m5]),old (ιH e) ha m1⟩
 have nw:∀ {a:Nat} {o:Obj},st.heap.objs.size≤a→s1.heap.get? a=some o→o.cls≠.type "dict"→o.cls≠.type "list"→a∉GQ c L gl:=fun {a o} ha e n1 n2 m=>by
  have m':a∈([L,gl,dx,tb,pb,ct,225]:List Nat):=m
  replace m':=ω9r m'
  rcases m' with q | q | q | q | q | q | q
  ·have:=lL; rw [q] at ha; exact Nat.lt_irrefl _ (ιL lL ha)
  ·rw [q,hgl] at e; cases e; exact n2 rfl
  ·rw [q,hdx] at e; cases e; exact n1 rfl
  ·rw [q,htb] at e; cases e; exact n2 rfl
  ·rw [q,hpb] at e; cases e; exact n2 rfl
  ·rw [q,hct] at e; cases e; exact n2 rfl
  ·exact ω2u h524 ha q
 have nwF:∀ {a:Nat} {o:Obj} {q:Str},st.heap.objs.size≤a→s1.heap.get? a=some o→Dr q o=true→a∉GQ c L gl:=fun {a o qq} ha e n1 m=>by
  have m':a∈([L,gl,dx,tb,pb,ct,225]:List Nat):=m
  replace m':=ω9r m'
  rcases m' with q | q | q | q | q | q | q
  ·rw [q] at ha; exact Nat.lt_irrefl _ (ιL lL ha)
  ·rw [q,hgl] at e; cases e; cases n1
  ·rw [q,hdx] at e; cases e; cases n1
  ·rw [q,htb] at e; cases e; cases n1
  ·rw [q,hpb] at e; cases e; cases n1
  ·rw [q,hct] at e; cases e; cases n1
  ·exact ω2u h524 ha q
 generalize hext:exH s1 (GQ c L gl)=ext
 have rd:∀ {a:Nat} {o:Obj},a∉GQ c L gl→s1.heap.get? a=some o→lkX w ext a=some o:=fun n e=>by rw [←hext]; exact EL S1 n e
 have Sx:Ak w ext s1:=by rw [←hext]; exact Cq S1
 have Rw:Raw w ext c L gl:=by
  refine⟨rd (nw xN hx (by simp) (by simp)) hx,?_,?_,?_,?_,?_,?_,Ld.small,Ld.hsg,Ld.hls⟩
  ·obtain⟨a,b⟩:=kp Ld.low.1 Ld.hcl (by simp) (by simp); exact rd b a
  ·intro i hi; obtain⟨a,b⟩:=kp (Ld.low.2 i hi).1 (Ld.hci i hi) (by simp) (by simp); exact rd b a
  ·intro i hi; obtain⟨a,b⟩:=kp (Ld.low.2 i hi).2.1 (Ld.hdi i hi) (by simp) (by simp); exact rd b a
  ·intro i hi; obtain⟨a,b⟩:=kp (Ld.low.2 i hi).2.2 (Ld.hli i hi) (by simp) (by simp); exact rd b a
  ·show([L,gl,dx,tb,pb,ct,225]:List Nat).Nodup
   replace hnd:=ω9t.1 hnd; refine ω9u.2 ?_
   obtain⟨⟨a1,a2,a3,a4⟩,⟨a5,a6,a7⟩,⟨a8,a9⟩,a10⟩:=hnd
   have lL':L<(st.heap.objs.size:Nat):=lL
   have g5':524≤(L:Nat):=g5
   refine⟨⟨?_,?_,?_,?_,?_,?_⟩,⟨Ne.symm a4,Ne.symm a7,Ne.symm a9,Ne.symm a10,?_⟩,⟨a1,a2,a3,?_⟩,⟨a5,a6,?_⟩,⟨a8,?_⟩,?_⟩ <;> omega
  ·intro a ha
   rw [←hext]
   refine Cv ha ?_
   have m':a∈([L,gl,dx,tb,pb,ct,225]:List Nat):=ha
   replace m':=ω9r m'
   rcases m' with q | q | q | q | q | q | q
   ·rw [q]; exact Cj w _ g5
   ·rw [q]; exact Cj w _ (ιT h524 glN)
   ·rw [q]; exact Cj w _ (ιT h524 dxN)
   ·rw [q]; exact Cj w _ (ιT h524 tbN)
   ·rw [q]; exact Cj w _ (ιT h524 pbN)
   ·rw [q]; exact Cj w _ (ιT h524 ctN)
   ·rw [q]; exact K9 w
 have oc:∀ {a:Nat},a∈[cx,cy,cz]→∀ {o o':Obj},st.heap.get? a=some o→s1.heap.get? a=some o'→lkX w ext a=some o':=fun {a} ha {o o'} e e'=>rd (old (ιH e) (h5 a (.tail _ ha)) fun q=>(List.nodup_cons.mp nd).1 (by rw [←q]; exact ha)) e'
 have K:Clo w ext c.x sf sp code tu code2 cx cy cz:=by
  obtain⟨o1,e1,f1⟩:=hcode
  obtain⟨o2,e2,f2⟩:=hcode2
  refine⟨rd (nw (hnew _ (μ7)) hsf (by simp) (by simp)) hsf,⟨o1,rd (nwF (hnew _ (μ9)) e1 f1) e1,f1⟩,rd (nw (hnew _ (μ8)) hsp (by simp) (by simp)) hsp,⟨o2,rd (nwF (hnew _ (μ10)) e2 f2) e2,f2⟩,oc μ0 hcx hcx1,oc μ1 hcy hcy1,oc μ2 hcz hcz1,(List.nodup_cons.mp nd).2⟩
 have h5c:∀ a∈[L,cx,cy,c.cl,c.dx],524≤a:=Ab g5 (ζ4 (h5 _ (μ1)) (h5 _ (μ2)) Ld.low.1 (ιT h524 dxN))
 refine law_try_con W (k:=k) (v:=v) (pi:=pi) (so:=so) (kg:=kg) Rw K hA hfA Sx rfl (show(if (4:Nat)=4 then s1.toks+7 else kt 4)=s1.toks+7 from if_pos rfl) h5c ?_ hgl hdx htb hpb hct ?_ fun s' es n sl gs gs2 ge a1 a2 a3 a4 a5 a6 a7 a8 a9 a10=>?_
 ·rw [hL1]
  show some (oFr [de w "script" (k 0) (v 0),de w "tape" (k 1) (v 1),de w "head" (k 2) (v 2),de w "pieces" (k 3) (v 3),de w "spots" (k 5) (v 5),de w "chars" (k 4) (v 4),de w "row" (k 6) (v 6),de w "piece" (k 7) (v 7),de w "column" (k 8) (v 8),de w "sign" (k 9) (v 9),de w "got" kg (.ref gl)] 11)=some (oFr (As w k v pi c0.cl so kg gl) 11)
  rw [hv3,hv4,hv5]
 ·obtain⟨ps,T⟩:=T
  refine⟨ps,T.at fun b o hb e=>aft.keep _ _ e fun m=>?_⟩
  have m':b∈[L,cx,cy,cz]++[520]:=m
  have hb':b<520:=by rcases hb with q | q <;> (rw [q]; decide)
  rcases ιM m' with q | q
  ·exact absurd (Nat.lt_of_le_of_lt (h5 b q) hb') (by decide)
  ·rw [ιS q] at hb'
   exact absurd hb' (by decide)
 ·refine h c s' es n sl gs gs2 ge kg gl rfl rfl rfl ?_ ?_ ?_ (ιT aft.size a4) a5 a6 a7 (a8.lo aft.size) a9 ⟨more,a3 _ _ h520 fun m=>?_⟩ a10
  ·exact aft.gens.trans a1
  ·exact smT aft.same a2
  ·intro b o e hb
   have m1:b∉[L,cx,cy,cz,520]:=fun q=>hb (by
    have:b∈[L,cx,cy,cz,520]++[225]:=List.mem_append_left _ q
    exact this)
   refine a3 b o (aft.keep _ _ e m1) fun m=>?_
   have m':b∈([L,gl,dx,tb,pb,ct,225]:List Nat):=m
   have hlt:(b:Nat)<(st.heap.objs.size:Nat):=ιH e
   replace m':=ω9r m'
   rcases m' with q | q | q | q | q | q | q
   ·exact m1 (by rw [q]; exact .head _)
   ·rw [q] at hlt; exact absurd (ιL hlt glN) (Nat.lt_irrefl _)
   ·rw [q] at hlt; exact absurd (ιL hlt dxN) (Nat.lt_irrefl _)
   ·rw [q] at hlt; exact absurd (ιL hlt tbN) (Nat.lt_irrefl _)
   ·rw [q] at hlt; exact absurd (ιL hlt pbN) (Nat.lt_irrefl _)
   ·rw [q] at hlt; exact absurd (ιL hlt ctN) (Nat.lt_irrefl _)
   ·exact hb (by rw [q]; exact μ5)
  ·have m':520∈([L,gl,dx,tb,pb,ct,225]:List Nat):=m
   have g5':524≤(L:Nat):=g5
   replace m':=ω9r m'
   rcases m' with q | q | q | q | q | q | q <;> omega
end
open Builtin.Str in
theorem occ_cons(x y:Str){i:Nat}(hi:i+y.length≤x.length)(h:subAt x y i=true):occurrences x y 0 x.length 1≠[]:=by
 rw [StrLaws.occ_eq]
 suffices H:∀ (l:List Nat) (f:Array Nat) (k:Nat),(f.size≠0∨(i∈l∧f=#[]∧k=0))→(forIn (m:=Id) l (f,k) (StrLaws.occBody x y x.length 1)).run.fst.size≠0 by
  intro q
  refine H (List.range' 0 (x.length+1-0)) #[] 0 (.inr ⟨by simp [List.mem_range']; exact ω31 hi,rfl,rfl⟩) ?_
  have:=congrArg List.length q
  simpa using this
 intro l
 induction l with
 | nil=>
  intro f k hf
  rcases hf with hf | ⟨hm,_⟩
  ·exact hf
  ·cases hm
 | cons a r ih=>
  intro f k hf
  simp only [List.forIn_cons,StrLaws.occBody]
  by_cases c:((f.size<1∧k≤a)∧a+y.length≤x.length)∧subAt x y a=true
  ·rw [if_pos c]
   exact ih _ _ (.inl (by simp))
  ·rw [if_neg c]
   refine ih _ _ ?_
   rcases hf with hf | ⟨hm,rfl,rfl⟩
   ·exact .inl hf
   ·rcases ιC hm with q | q
    ·subst q
     exact absurd ⟨⟨⟨by simp,Nat.zero_le _⟩,hi⟩,h⟩ c
    ·exact .inr ⟨q,rfl,rfl⟩
theorem Gb{x:Str}{n i:Nat}:Builtin.Str.subAt x ⟨#[n]⟩ i=true↔x.cps[i]? = some n:=by
 unfold Builtin.Str.subAt
 rw [beq_iff_eq]
 constructor
 ·intro h
  have h1:=congrArg (fun a=>a[0]?) h
  simp only [Str.length] at h1
  rw [Array.getElem?_extract] at h1
  have h2:0<min (i+1) x.cps.size-i∧x.cps[i]? = some n:=by simpa using h1
  exact h2.2
 ·intro h
  obtain⟨hi,e⟩:=Array.getElem?_eq_some_iff.mp h
  apply Array.ext
  ·simp [Str.length]; exact ω32 hi
  ·intro j h1 h2
   have:j=0:=by simp at h2; exact h2
   subst this
   simp [e]
theorem isIn_one(x:Str)(n:Nat):E4 x ⟨#[n]⟩=x.cps.toList.contains n:=by
 cases q:x.cps.toList.contains n with
 | true=>
  have hm:n∈x.cps.toList:=List.contains_iff_mem.mp q
  obtain⟨i,hi,e⟩:=List.getElem_of_mem hm
  have h1:x.cps[i]? = some n:=by rw [←Array.getElem?_toList,List.getElem?_eq_getElem hi,e]
  have h2:=occ_cons x ⟨#[n]⟩ (i:=i) (by simp at hi; show i+1≤x.cps.size; exact hi) (Gb.mpr h1)
  unfold E4
  cases r:Builtin.Str.occurrences x ⟨#[n]⟩ 0 x.length 1 with
  | nil=>exact absurd r h2
  | cons a b=>rfl
 | false=>
  unfold E4
  rw [occ_nil_of_no]
  ·rfl
  ·intro i hi
   cases r:Builtin.Str.subAt x ⟨#[n]⟩ i with
   | false=>rfl
   | true=>
    have h1:=Gb.mp r
    have hm:n∈x.cps.toList:=by
     rw [←Array.getElem?_toList] at h1
     exact List.mem_of_getElem? h1
    rw [List.contains_iff_mem.mpr hm] at q; cases q
noncomputable abbrev H0:Str:=ιc
noncomputable def BQ(c:Cfg)(i:Nat):Nat:=(c.sg i).cps.toList.headD 0
noncomputable def FX(c:Cfg):Prop:=∀ i,i<c.N→c.sg i=⟨⟨[BQ c i]⟩⟩
noncomputable def bsl(c:Cfg)(i:Nat):Bool:=BQ c i == 92
noncomputable def quo(c:Cfg)(i:Nat):Bool:=BQ c i == 34
noncomputable def Ex(c:Cfg)(least:Nat):Nat→Nat
 | 0=>0
 | a+1=>if least≤a&&bsl c a then Ex c least a+1 else 0
noncomputable def Ec(c:Cfg)(least a:Nat):Bool:=Ex c least a%2 == 0
noncomputable def Bg(p:Nat→Bool):Nat→Nat→Option Nat
 | 0,_=>none
 | n+1,a=>if p a then some a else Bg p n (a+1)
noncomputable def Dc(c:Cfg)(least a:Nat):Bool:=quo c a&&Ec c least a
noncomputable def AD(c:Cfg)(least:Nat):Nat:=(Bg (Dc c least) (c.N-least) least).getD c.N
noncomputable def Du(c:Cfg)(i:Nat):Bool:=if i<c.N then E4 H0 (c.sg i) else true
noncomputable def Dx(c:Cfg)(least a:Nat):Bool:=bsl c a&&!Du c (a+1)&&Ec c least a
noncomputable def BK(c:Cfg)(least close:Nat):Option Nat:=(Bg (Dx c least) (close-least) least).map (· + 1)
noncomputable def D0(c:Cfg)(a:Nat):Nat:=if a+1<c.N&&((BQ c a == 76&&BQ c (a+1) == 34)||(BQ c a == 96&&BQ c (a+1) == 96)) then 2 else if BQ c a == 34||BQ c a == 64 then 1 else 0
noncomputable def Dg(c:Cfg):Nat→Nat→List Dw×Option (Option Nat)
 | 0,_=>([],none)
 | n+1,a=>if a<c.N then
   (match D0 c a with
   | 0=>((Er,c.txt a (a+1),a)::(Dg c n (a+1)).1,(Dg c n (a+1)).2)
   | z=>match BK c (a+z) (AD c (a+z)) with
    | some p=>([],some (some p))
    | none=>if AD c (a+z)=c.N then([],some none) else((B0,c.txt a (AD c (a+z)+1),a)::(Dg c n (AD c (a+z)+1)).1,(Dg c n (AD c (a+z)+1)).2))
  else([],none)
section
variable{c:Cfg}
theorem CP{p:Nat→Bool}:∀ {n a b:Nat},a≤b→b≤a+n→(∀ i,a≤i→i<b→p i=false)→Bg p n a=Bg p (a+n-b) b
 | 0,a,b,h1,h2,h=>by
  have:a=b:=ω33 h1 h2
  subst this; simp
 | n+1,a,b,h1,h2,h=>by
  by_cases e:a=b
  ·subst e; rw [show a+(n+1)-a=n+1 from ω34]
  ·rw [Bg,h a (ιR _) (ω35 h1 e),if_neg (by simp),CP (b:=b) (ω36 h1 e) (ω37 h2) fun i h3 h4=>h i (ω1z h3) h4]
   congr 1; exact ω38
theorem Gs{p:Nat→Bool}{n a:Nat}(hn:0<n)(h:p a=true):Bg p n a=some a:=by
 cases n with
 | zero=>omega
 | succ n=>rw [Bg,if_pos h]
theorem CQ{p:Nat→Bool}{n a:Nat}(h:∀ i,a≤i→i<a+n→p i=false):Bg p n a=none:=by
 rw [CP (b:=a+n) (ω39) (ιR _) h,Nat.sub_self]
 rfl
theorem run_least{least:Nat}:Ex c least least=0:=by
 cases least with
 | zero=>rfl
 | succ n=>rw [Ex,if_neg (by simp; intro h; omega)]
theorem Jb{least a:Nat}(h:bsl c a=false):Ex c least (a+1)=0:=by rw [Ex,if_neg (by simp [h])]
theorem HQ{least a:Nat}(hl:least≤a)(h:bsl c a=true):Ex c least (a+1)=Ex c least a+1:=by rw [Ex,if_pos (by simp [hl,h])]
theorem Fh(H:FX c){i:Nat}(hi:i<c.N)(vs:Str):E4 vs (c.sg i)=vs.cps.toList.contains (BQ c i):=by rw [H i hi]; exact isIn_one vs _
theorem GI(H:FX c){i n:Nat}(hi:i<c.N):isC ⟨⟨[n]⟩⟩ (c.sg i)=(BQ c i == n):=by
 rw [H i hi]
 unfold isC
 simp only [List.cons_beq_cons]
 show(_&&([]:List Nat) == [])=_
 simp
structure Dd(c:Cfg)(least p:Nat):Prop where
 le:least≤p
 pn:p≤c.N
 ev:Ex c least p%2=0
 noq:∀ i,least≤i→i<p→Dc c least i=false
 now:∀ i,least≤i→i<p→Dx c least i=false
theorem FM{least:Nat}(h:least≤c.N):Dd c least least:=⟨ιR _,h,(by rw [run_least]),(fun i h1 h2=>by omega),(fun i h1 h2=>by omega)⟩
theorem Dd.plain{least p:Nat}(G:Dd c least p)(hp:p<c.N)(h1:bsl c p=false)(h2:quo c p=false):Dd c least (p+1):=⟨Nat.le_succ_of_le G.le,hp,(by rw [Jb h1]),
 (fun i a b=>by
  by_cases e:i=p
  ·subst e; simp [Dc,h2]
  ·exact G.noq i a (ω3a b e)),
 (fun i a b=>by
  by_cases e:i=p
  ·subst e; simp [Dx,h1]
  ·exact G.now i a (ω3a b e))⟩
theorem Dd.esc{least p:Nat}(G:Dd c least p)(hp:p+1<c.N)(h1:bsl c p=true)(h2:Du c (p+1)=true):Dd c least (p+2):=by
 have r1:Ex c least (p+1)=Ex c least p+1:=HQ G.le h1
 have ev:=G.ev
 have nq:quo c p=false:=by
  unfold quo; unfold bsl at h1
  have:BQ c p=92:=by simpa using h1
  rw [this]; rfl
 refine⟨by have:=G.le; exact ωv this,hp,?_,?_,?_⟩
 ·by_cases b:bsl c (p+1)=true
  ·rw [HQ (by have:=G.le; exact ωv this) b,r1]; exact ω3b ev
  ·rw [Jb (by simpa using b)]
 ·intro i a b
  by_cases e:i=p
  ·subst e; simp [Dc,nq]
  by_cases e':i=p+1
  ·subst e'
   have:Ec c least (p+1)=false:=by unfold Ec; rw [r1]; simp; exact ω3c ev
   simp [Dc,this]
  ·exact G.noq i a (ω3d b e e')
 ·intro i a b
  by_cases e:i=p
  ·subst e; simp [Dx,h2]
  by_cases e':i=p+1
  ·subst e'
   have:Ec c least (p+1)=false:=by unfold Ec; rw [r1]; simp; exact ω3c ev
   simp [Dx,this]
  ·exact G.now i a (ω3d b e e')
theorem Dd.close{least p:Nat}(G:Dd c least p)(hp:p<c.N)(h:quo c p=true):AD c least=p∧BK c least (AD c least)=none:=by
 have e:AD c least=p:=by
  unfold AD
  rw [CP G.le (by have:=G.le; exact ω3e hp) G.noq,Gs (by have:=G.le; exact ω3f hp)]
  ·rfl
  ·have:=G.ev; simp [Dc,h,Ec,this]
 refine⟨e,?_⟩
 rw [e]
 unfold BK
 rw [CQ fun i a b=>G.now i a (by have:=G.le; exact ω3g b this)]
 rfl
theorem Dd.wrong{least p:Nat}(G:Dd c least p)(hp:p<c.N)(h1:bsl c p=true)(h2:Du c (p+1)=false):BK c least (AD c least)=some (p+1):=by
 have ev:=G.ev
 have nq:quo c p=false:=by
  unfold quo; unfold bsl at h1
  have:BQ c p=92:=by simpa using h1
  rw [this]; rfl
 have le:=G.le
 have hc:p<AD c least:=by
  have fgt:∀ (n a:Nat),p<a→a+n=c.N→p<(Bg (Dc c least) n a).getD c.N:=by
   intro n
   induction n with
   | zero=>intro a h3 h4; exact hp
   | succ n ih=>
    intro a h3 h4
    rw [Bg]
    split
    ·exact h3
    ·exact ih (a+1) (ω1o h3) (ω3h h4)
  unfold AD
  rw [CP (b:=p+1) (ωv le) (ω3i hp) fun i a b=>by
   by_cases e:i=p
   ·subst e; simp [Dc,nq]
   ·exact G.noq i a (ω3a b e)]
  exact fgt _ _ (ω3j) (ω3k hp le)
 unfold BK
 rw [CP G.le (ω3e hc) G.now,Gs (ω3f hc)]
 ·rfl
 ·simp [Dx,h1,h2,Ec,ev]
theorem Dd.ends{least:Nat}(G:Dd c least c.N):AD c least=c.N∧BK c least (AD c least)=none:=by
 have e:AD c least=c.N:=by
  unfold AD
  rw [CQ fun i a b=>G.noq i a (by have:=G.le; exact ω3g b this)]
  rfl
 refine⟨e,?_⟩
 rw [e]
 unfold BK
 rw [CQ fun i a b=>G.now i a (by have:=G.le; exact ω3g b this)]
 rfl
theorem Dd.last{least p:Nat}(G:Dd c least p)(hp:p+1=c.N)(h1:bsl c p=true):AD c least=c.N∧BK c least (AD c least)=none:=by
 have nq:quo c p=false:=by
  unfold quo; unfold bsl at h1
  have:BQ c p=92:=by simpa using h1
  rw [this]; rfl
 have le:=G.le
 have e:AD c least=c.N:=by
  unfold AD
  rw [CQ fun i a b=>by
   by_cases e:i=p
   ·subst e; simp [Dc,nq]
   ·exact G.noq i a (ω3l hp le b e)]
  rfl
 refine⟨e,?_⟩
 rw [e]
 unfold BK
 rw [CQ fun i a b=>by
  by_cases e:i=p
  ·subst e
   have:Du c (i+1)=true:=by unfold Du; rw [if_neg (ω3m hp)]
   simp [Dx,this]
  ·exact G.now i a (ω3l hp le b e)]
 rfl
end
section
variable{c:Cfg}
theorem EF{s:LS}(h:s.p<c.N):(s.next c).p=s.p+1:=by unfold LS.next; rw [if_pos h]
theorem Fm{s:LS}{vs:Str}(h:s.hit c vs=true):(s.acc c vs).p=s.p+1:=by
 unfold LS.hit at h
 rw [Bool.and_eq_true] at h
 have hp:=of_decide_eq_true h.1
 unfold LS.acc
 rw [if_pos hp,if_pos h.2,EF hp]
theorem GO{vs:Str}:∀ {n:Nat} {s:LS},s.WF c→∀ i,s.p≤i→i<(s.accs c vs n).p→i<c.N∧E4 vs (c.sg i)=true
 | 0,s,F,i,h1,h2=>by
  have:(s.accs c vs 0).p=s.p:=rfl
  omega
 | n+1,s,F,i,h1,h2=>by
  by_cases q:s.hit c vs=true
  ·have e:=Fm q
   by_cases e':i=s.p
   ·subst e'
    unfold LS.hit at q
    rw [Bool.and_eq_true] at q
    exact⟨of_decide_eq_true q.1,q.2⟩
   ·exact GO (n:=n) (s:=s.acc c vs) (LS.MG F) i (ω3n h1 e e') h2
  ·have e:=LS.MK F (by simpa using q)
   exact GO (n:=n) (s:=s.acc c vs) (LS.MG F) i (ω3o h1 e) h2
noncomputable def Ff(c:Cfg)(i:Nat):Prop:=bsl c i=false∧quo c i=false
theorem plain_in(H:FX c){vs:Str}{i:Nat}(hi:i<c.N)(h:E4 vs (c.sg i)=true)(h1:vs.cps.toList.contains 92=false)(h2:vs.cps.toList.contains 34=false):Ff c i:=by
 rw [Fh H hi] at h
 constructor
 ·unfold bsl
  cases q:BQ c i == 92 with
  | false=>rfl
  | true=>rw [beq_iff_eq.mp q,h1] at h; cases h
 ·unfold quo
  cases q:BQ c i == 34 with
  | false=>rfl
  | true=>rw [beq_iff_eq.mp q,h2] at h; cases h
theorem Dd.plains{least:Nat}:∀ {n p:Nat},Dd c least p→p+n≤c.N→(∀ i,p≤i→i<p+n→Ff c i)→Dd c least (p+n)
 | 0,p,G,_,_=>G
 | n+1,p,G,h,hi=>by
  have G1:=G.plain (ω3p h) (hi p (ιR _) (ω3q)).1 (hi p (ιR _) (ω3q)).2
  have:=Dd.plains (n:=n) G1 (ω3r h) fun i a b=>hi i (ω1z a) (ω3s b)
  rw [show p+(n+1)=p+1+n from ω3t]
  exact this
theorem Cu(H:FX c){s:LS}{vs:Str}(hp:s.p<c.N):s.hit c vs=vs.cps.toList.contains (BQ c s.p):=by
 unfold LS.hit
 rw [decide_eq_true hp,Bool.true_and,Fh H hp]
theorem CD{s:LS}{vs:Str}(hp:¬ s.p<c.N):s.hit c vs=false:=by
 unfold LS.hit
 rw [decide_eq_false hp,Bool.false_and]
theorem esc_end{s:LS}(F:s.WF c)(hp:¬ s.p<c.N):s.esc c=none:=by
 have F1:=LS.MG (vs:=Bh) F
 have F2:=LS.MG (vs:=BE) F1
 have F3:=LS.MG (vs:=tx) F2
 have F4:=LS.MG (vs:=tu) F3
 have p1:=LS.MK F (CD (vs:=Bh) hp)
 have p2:=LS.MK F1 (CD (vs:=BE) (by rw [p1]; exact hp))
 have p3:=LS.MK F2 (CD (vs:=tx) (by rw [p2,p1]; exact hp))
 have p4:=LS.MK F3 (CD (vs:=tu) (by rw [p3,p2,p1]; exact hp))
 unfold LS.esc
 rw [if_neg (by rw [CD hp]; simp),if_neg (by rw [CD (by rw [p1]; exact hp)]; simp),if_neg (by rw [CD (by rw [p2,p1]; exact hp)]; simp),if_neg (by rw [CD (by rw [p3,p2,p1]; exact hp)]; simp),if_neg (by rw [CD (by rw [p4,p3,p2,p1]; exact hp)]; simp)]
theorem esc_spec(H:FX c){s:LS}(F:s.WF c)(hp:s.p<c.N):match s.esc c with
  | none=>Du c s.p=false
  | some s'=>Du c s.p=true∧s.p+1≤s'.p∧∀ i,s.p+1≤i→i<s'.p→Ff c i:=by
 have ea:Du c s.p=(Bh.cps.toList.contains (BQ c s.p)||BE.cps.toList.contains (BQ c s.p)||tx.cps.toList.contains (BQ c s.p)||tu.cps.toList.contains (BQ c s.p)||tU.cps.toList.contains (BQ c s.p)):=by
  unfold Du
  rw [if_pos hp,Fh H hp]
  generalize BQ c s.p=n
  show List.contains (Bh.cps.toList++(BE.cps.toList++(tx.cps.toList++(tu.cps.toList++tU.cps.toList)))) n=_
  simp only [List.contains_eq_any_beq,List.any_append,Bool.or_assoc]
 have F1:=LS.MG (vs:=Bh) F
 have F2:=LS.MG (vs:=BE) F1
 have F3:=LS.MG (vs:=tx) F2
 have F4:=LS.MG (vs:=tu) F3
 have run:∀ {s0:LS} {vs vt:Str} {n:Nat},s0.WF c→s0.p=s.p→s0.hit c vs=true→vt.cps.toList.contains 92=false→vt.cps.toList.contains 34=false→s.p+1≤((s0.acc c vs).accs c vt n).p∧∀ i,s.p+1≤i→i<((s0.acc c vs).accs c vt n).p→Ff c i:=fun F0 e q h1 h2=>by
  have e1:=Fm q
  refine⟨by rw [←e,←e1]; exact LS.MM,fun i a b=>?_⟩
  obtain⟨i1,i2⟩:=GO (LS.MG F0) i (ω3u e e1 a) b
  exact plain_in H i1 i2 h1 h2
 unfold LS.esc
 by_cases q1:s.hit c Bh=true
 ·rw [if_pos q1]
  have e1:=Fm q1
  rw [Cu H hp] at q1
  refine⟨by rw [ea,q1]; rfl,Nat.le_of_eq e1.symm,fun i a b=>?_⟩
  have:(s.m1 c).p=s.p+1:=e1
  omega
 have p1:(s.m1 c).p=s.p:=LS.MK F (by simpa using q1)
 rw [if_neg q1]
 by_cases q2:(s.m1 c).hit c BE=true
 ·rw [if_pos q2]
  have r:=run (vt:=BE) (n:=2) F1 p1 q2 (by decide) (by decide)
  rw [Cu H (by rw [p1]; exact hp),p1] at q2
  exact⟨by rw [ea,q2]; simp only [Bool.or_true,Bool.true_or],r⟩
 have p2:(s.m2 c).p=s.p:=(LS.MK F1 (by simpa using q2)).trans p1
 rw [if_neg q2]
 by_cases q3:(s.m2 c).hit c tx=true
 ·rw [if_pos q3]
  have r:=run (vt:=AJ) (n:=2) F2 p2 q3 (by decide) (by decide)
  rw [Cu H (by rw [p2]; exact hp),p2] at q3
  exact⟨by rw [ea,q3]; simp only [Bool.or_true,Bool.true_or],r⟩
 have p3:(s.m3 c).p=s.p:=(LS.MK F2 (by simpa using q3)).trans p2
 rw [if_neg q3]
 by_cases q4:(s.m3 c).hit c tu=true
 ·rw [if_pos q4]
  have r:=run (vt:=AJ) (n:=4) F3 p3 q4 (by decide) (by decide)
  rw [Cu H (by rw [p3]; exact hp),p3] at q4
  exact⟨by rw [ea,q4]; simp only [Bool.or_true,Bool.true_or],r⟩
 have p4:(s.m4 c).p=s.p:=(LS.MK F3 (by simpa using q4)).trans p3
 rw [if_neg q4]
 by_cases q5:(s.m4 c).hit c tU=true
 ·rw [if_pos q5]
  have r:=run (vt:=AJ) (n:=4) F4 p4 q5 (by decide) (by decide)
  rw [Cu H (by rw [p4]; exact hp),p4] at q5
  exact⟨by rw [ea,q5]; simp only [Bool.or_true,Bool.true_or],r⟩
 rw [if_neg q5]
 rw [Cu H hp] at q1
 rw [Cu H (by rw [p1]; exact hp),p1] at q2
 rw [Cu H (by rw [p2]; exact hp),p2] at q3
 rw [Cu H (by rw [p3]; exact hp),p3] at q4
 rw [Cu H (by rw [p4]; exact hp),p4] at q5
 show Du c s.p=false
 rw [ea]
 simp only [Bool.not_eq_true] at q1 q2 q3 q4 q5
 rw [q1,q2,q3,q4,q5]
 rfl
end
section
variable{c:Cfg}
theorem esc_b'{s s':LS}(e:s.esc c=some s'):s'.b=s.b:=by
 unfold LS.esc at e
 have b1:(s.m1 c).b=s.b:=LS.MR
 have b2:(s.m2 c).b=s.b:=LS.MR.trans b1
 have b3:(s.m3 c).b=s.b:=LS.MR.trans b2
 have b4:(s.m4 c).b=s.b:=LS.MR.trans b3
 have b5:(s.m5 c).b=s.b:=LS.MR.trans b4
 repeat' split at e
 all_goals first
  | (cases e; first | exact b1 | exact LS.MS.trans b2 | exact LS.MS.trans b3 | exact LS.MS.trans b4 | exact LS.MS.trans b5)
  | cases e
noncomputable def E9(c:Cfg)(least b:Nat):SR→Prop
 | .ok s'=>s'.WF c∧s'.b=b∧∃ k,s'.p=k+1∧k<c.N∧AD c least=k∧BK c least (AD c least)=none
 | .err (some p)=>BK c least (AD c least)=some p
 | .err none=>AD c least=c.N∧BK c least (AD c least)=none
theorem Et(H:FX c):∀ (n:Nat) (s:LS) (q least:Nat),s.WF c→s.p=q+1→c.N<s.p+n→Dd c least q→q<c.N→E9 c least s.b (AI c n s q)
 | 0,s,q,least,F,e,hn,G,hq=>by have:=F.pn; omega
 | n+1,s,q,least,F,e,hn,G,hq=>by
  have step:∀ s1:LS,s1.WF c→s1.b=s.b→s.p≤s1.p→Dd c least s1.p→E9 c least s.b (if s1.p<c.N then AI c n (s1.next c) s1.p else .err none):=fun s1 F1 b1 l1 G1=>by
   by_cases h:s1.p<c.N
   ·rw [if_pos h]
    have:=Et H n (s1.next c) s1.p least (LS.next_wf F1) (EF h) (by rw [EF h]; exact ω0m hn l1) G1 h
    rw [LS.MQ,b1] at this
    exact this
   ·rw [if_neg h]
    have hN:s1.p=c.N:=by have:=F1.pn; exact ω3v h this
    rw [hN] at G1
    exact G1.ends
  rw [AI,GI H hq,GI H hq]
  by_cases h1:(BQ c q == 34)=true
  ·rw [if_pos h1]
   obtain⟨k1,k2⟩:=G.close hq h1
   exact⟨F,rfl,q,e,hq,k1,k2⟩
  ·rw [if_neg h1]
   by_cases h2:(BQ c q == 92)=true
   ·rw [if_pos h2]
    by_cases hp:s.p<c.N
    ·have sp:=esc_spec H F hp
     cases he:s.esc c with
     | none=>
      rw [he] at sp
      have:=G.wrong (p:=q) hq h2 (by rw [←e]; exact sp)
      show E9 c least s.b (.err (Ck c s.p))
      unfold Ck
      rw [if_pos hp,e]
      exact this
     | some s1=>
      rw [he] at sp
      obtain⟨a1,a2,a3⟩:=sp
      have F1:=LS.MJ F he
      refine step s1 F1 (esc_b' he) (ω1z a2) ?_
      have G2:=G.esc (p:=q) (ω3w e hp) h2 (by rw [←e]; exact a1)
      have l:=F1.pn
      have G3:=G2.plains (n:=s1.p-(q+2)) (ω3x e a2 l) fun i x y=>a3 i (ω3y e x) (ω3z e a2 y)
      rw [show q+2+(s1.p-(q+2))=s1.p from ω40 e a2] at G3
      exact G3
    ·rw [esc_end F hp]
     show E9 c least s.b (.err (Ck c s.p))
     unfold Ck
     rw [if_neg hp]
     exact G.last (p:=q) (by have:=F.pn; exact ω41 e hq hp) h2
   ·rw [if_neg h2]
    refine step s F rfl (ιR _) ?_
    rw [e]
    exact G.plain hq (by simpa [bsl] using h2) (by simpa [quo] using h1)
theorem lexStr_spec(H:FX c){s:LS}(F:s.WF c):E9 c s.p s.b (Ct c s):=by
 unfold Ct
 by_cases h:s.p<c.N
 ·rw [if_pos h]
  have:=Et H (c.N+1) (s.next c) s.p s.p (LS.next_wf F) (EF h) (by rw [EF h]; exact ω0n) (FM F.pn) h
  rw [LS.MQ] at this
  exact this
 ·rw [if_neg h]
  have hN:s.p=c.N:=by have:=F.pn; exact ω3v h this
  have:=(FM (c:=c) F.pn)
  rw [hN] at this ⊢
  exact this.ends
theorem openAt_spec(H:FX c){s:LS}(F:s.WF c)(hp:s.p<c.N) :
  (D0 c s.p=0∧(Bb c (c.sg s.p) (s.next c)).1=false∧(Bb c (c.sg s.p) (s.next c)).2.p=s.p+1∧(Bb c (c.sg s.p) (s.next c)).2.b=s.b)∨
  (∃ z,D0 c s.p=z+1∧(Bb c (c.sg s.p) (s.next c)).1=true∧(Bb c (c.sg s.p) (s.next c)).2.p=s.p+(z+1)∧(Bb c (c.sg s.p) (s.next c)).2.b=s.b):=by
 have F1:=LS.next_wf F
 have p1:=EF hp
 have b1:(s.next c).b=s.b:=LS.MQ
 unfold Bb
 rw [Fh H hp,GI H hp,GI H hp]
 generalize hk:BQ c s.p=n
 by_cases h1:IV.cps.toList.contains n=true
 ·rw [if_pos h1]
  have hn:n=34∨n=64:=by
   have:n∈[34,64]:=List.contains_iff_mem.mp h1
   simpa using this
  refine .inr ⟨0,?_,rfl,p1,b1⟩
  unfold D0
  rw [hk]
  rcases hn with rfl | rfl <;> simp
 ·rw [if_neg h1]
  have hn:¬ n=34∧¬ n=64:=by
   have:¬ n∈[34,64]:=fun m=>h1 (List.contains_iff_mem.mpr m)
   simpa using this
  have two:∀ m:Nat,n=m→(m=76∨m=96)→∀ k:Nat,((m=76∧k=34)∨(m=96∧k=96))→(D0 c s.p=0∧(s.next c).hit c ⟨⟨[k]⟩⟩=false∧((s.next c).acc c ⟨⟨[k]⟩⟩).p=s.p+1∧((s.next c).acc c ⟨⟨[k]⟩⟩).b=s.b)∨
    (∃ z,D0 c s.p=z+1∧(s.next c).hit c ⟨⟨[k]⟩⟩=true∧((s.next c).acc c ⟨⟨[k]⟩⟩).p=s.p+(z+1)∧((s.next c).acc c ⟨⟨[k]⟩⟩).b=s.b):=fun m em hm k hmk=>by
   have bb:((s.next c).acc c ⟨⟨[k]⟩⟩).b=s.b:=LS.MR.trans b1
   by_cases q:(s.next c).hit c ⟨⟨[k]⟩⟩=true
   ·refine .inr ⟨1,?_,q,by rw [Fm q,p1],bb⟩
    have hp1:s.p+1<c.N:=by
     unfold LS.hit at q
     rw [Bool.and_eq_true] at q
     have:=of_decide_eq_true q.1
     exact ω3w p1 this
    rw [Cu H (by rw [p1]; exact hp1),p1] at q
    have ek:BQ c (s.p+1)=k:=by
     have:BQ c (s.p+1)∈[k]:=List.contains_iff_mem.mp q
     simpa using this
    unfold D0
    rw [hk,ek,em]
    rcases hmk with⟨rfl,rfl⟩ | ⟨rfl,rfl⟩ <;> simp [hp1]
   ·refine .inl ⟨?_,by simpa using q,by rw [LS.MK F1 (by simpa using q),p1],bb⟩
    unfold D0
    rw [hk]
    have n1:(n == 34||n == 64)=false:=by simp [hn]
    rw [n1]
    by_cases hp1:s.p+1<c.N
    ·rw [Cu H (by rw [p1]; exact hp1),p1] at q
     have ek:¬ BQ c (s.p+1)=k:=fun x=>q (List.contains_iff_mem.mpr (by rw [x]; exact .head _))
     rw [em]
     rcases hmk with⟨rfl,rfl⟩ | ⟨rfl,rfl⟩ <;> simp [ek]
    ·simp [hp1]
  by_cases h2:(n == 76)=true
  ·rw [if_pos h2]
   exact two 76 (beq_iff_eq.mp h2) (.inl rfl) 34 (.inl ⟨rfl,rfl⟩)
  ·rw [if_neg h2]
   by_cases h3:(n == 96)=true
   ·rw [if_pos h3]
    exact two 96 (beq_iff_eq.mp h3) (.inr rfl) 96 (.inr ⟨rfl,rfl⟩)
   ·rw [if_neg h3]
    refine .inl ⟨?_,rfl,p1,b1⟩
    unfold D0
    rw [hk]
    have e1:¬ n=76:=by simpa using h2
    have e2:¬ n=96:=by simpa using h3
    simp [hn,e1,e2]
theorem DE(H:FX c):∀ (m:Nat) (s:LS),s.WF c→s.b=s.p→Bf c m s=Dg c m s.p
 | 0,s,F,hb=>rfl
 | m+1,s,F,hb=>by
  rw [Bf,Dg]
  by_cases hp:s.p<c.N
  ·rw [if_pos hp]
   have T:=fun ty tx b s' (h:BH c s=.tok ty tx b s')=>DR F hb h
   have ok:=EC (c:=c) (sg:=c.sg s.p) (LS.next_wf F)
   rcases openAt_spec H F hp with⟨h1,h2,h3,h4⟩ | ⟨z,h1,h2,h3,h4⟩
   ·have e:BH c s=.tok Er (c.txt s.p (s.p+1)) s.p (Bb c (c.sg s.p) (s.next c)).2.cut:=by
     unfold BH
     rw [if_pos hp]
     revert h2 h3 h4
     generalize Bb c (c.sg s.p) (s.next c)=o
     obtain⟨b,s2⟩:=o
     intro h2 h3 h4
     dsimp only at h2 h3 h4 ⊢
     subst h2
     show CU c s2=_
     unfold CU
     rw [h3,h4,hb]
    obtain⟨F',hb',_,_⟩:=T _ _ _ _ e
    rw [e]
    dsimp only
    rw [h1,DE H m _ F' hb']
    have ep:(Bb c (c.sg s.p) (s.next c)).2.cut.p=s.p+1:=h3
    rw [ep]
    rfl
   ·have sp:=lexStr_spec H ok.1
    rw [h3,h4] at sp
    rw [h1]
    show _=(match BK c (s.p+(z+1)) (AD c (s.p+(z+1))) with
     | some p=>([],some (some p))
     | none=>if AD c (s.p+(z+1))=c.N then([],some none) else((B0,c.txt s.p (AD c (s.p+(z+1))+1),s.p)::(Dg c m (AD c (s.p+(z+1))+1)).1,(Dg c m (AD c (s.p+(z+1))+1)).2))
    cases hl:Ct c (Bb c (c.sg s.p) (s.next c)).2 with
    | ok s'=>
     rw [hl] at sp
     obtain⟨a1,a2,k,a3,a4,a5,a6⟩:=sp
     have e:BH c s=.tok B0 (c.txt s'.b s'.p) s'.b s'.cut:=by
      unfold BH
      rw [if_pos hp]
      revert h2 hl
      generalize Bb c (c.sg s.p) (s.next c)=o
      obtain⟨b,s2⟩:=o
      intro h2 hl
      dsimp only at h2 hl ⊢
      subst h2
      show BR c s2=_
      unfold BR
      rw [hl]
     obtain⟨F',hb',_,_⟩:=T _ _ _ _ e
     rw [e,a6,if_neg (by rw [a5]; exact ω2n a4)]
     dsimp only
     rw [DE H m _ F' hb']
     have ep:s'.cut.p=AD c (s.p+(z+1))+1:=by rw [a5]; exact a3
     have eq':s'.p=AD c (s.p+(z+1))+1:=ep
     rw [ep,eq',a2,hb]
    | err pl=>
     rw [hl] at sp
     have e:BH c s=.err pl:=by
      unfold BH
      rw [if_pos hp]
      revert h2 hl
      generalize Bb c (c.sg s.p) (s.next c)=o
      obtain⟨b,s2⟩:=o
      intro h2 hl
      dsimp only at h2 hl ⊢
      subst h2
      show BR c s2=_
      unfold BR
      rw [hl]
     rw [e]
     cases pl with
     | some p=>rw [show BK c (s.p+(z+1)) (AD c (s.p+(z+1)))=some p from sp]
     | none=>rw [sp.2,if_pos sp.1]
  ·rw [if_neg hp]
   unfold BH
   rw [if_neg hp]
theorem lexed_read(H:FX c):AH c=Dg c (c.N+1) 0:=DE H _ LS.start (Eu c) rfl
end
structure II where
 x:Expr
 it:Expr
 body:List Stmt
 pos:Pos
noncomputable def Ju(s:Option Stmt):II:=match s with
 | some (.For x it body [] p)=>⟨x,it,body,p⟩
 | _=>⟨.Constant .none 0 default,.Constant .none 0 default,[],default⟩
noncomputable def sgF(w:World):II:=Ju (A0 w 483)[1]?
noncomputable abbrev oRi(x left:Int):Obj:=⟨.type "range_iterator",none,.fields #[rawInt x,rawInt left,rawInt 1],#[]⟩
noncomputable abbrev oRg(b:Int)(t u v:Nat):Obj:=⟨.type "range",none,.fields #[.int 0 t,.int b u,.int 1 v],#[]⟩
noncomputable abbrev BF(id:String)(args:Args)(v:Int):Sp:=⟨.builtin id args,{r:=fun _ t=>.ok (.ret (.int v t)),dk:=1},[],[]⟩
abbrev sMd(a b:Value)(v:Int):Sp:=BF "int.__mod__" ⟨[a,b],[]⟩ v
abbrev sFd(a b:Value)(v:Int):Sp:=BF "int.__floordiv__" ⟨[a,b],[]⟩ v
abbrev sAd(a b:Value)(v:Int):Sp:=BF "int.__add__" ⟨[a,b],[]⟩ v
abbrev sMl(a b:Value)(v:Int):Sp:=BF "int.__mul__" ⟨[a,b],[]⟩ v
abbrev sSb(a b:Value)(v:Int):Sp:=BF "int.__sub__" ⟨[a,b],[]⟩ v
noncomputable abbrev Cc(x:Str)(t:Nat):Sp:=⟨.builtin "len" ⟨[.str x t],[]⟩,{r:=fun _ k=>.ok (.ret (.int (x.length:Nat) (k+1))),dk:=2},[],[]⟩
noncomputable abbrev Bt(i:Nat)(it:Addr)(x left:Int):Sp:=⟨.builtin "range_iterator.__next__" ⟨[.ref it],[]⟩,{r:=fun _ t=>.ok (.ret (.int x t)),upd:=[(i,oRi (x+1) (left-1))],dk:=1},[some (it,oRi x left)],[]⟩
noncomputable abbrev Gz(j:Nat)(r:Addr)(b:Int)(t u v:Nat):Sp:=⟨.builtin "range.__iter__" ⟨[.ref r],[]⟩,{r:=fun n _=>.ok (.ret (.ref n)),news:=fun _=>[oRi 0 b],reads:=[j]},[],[some (r,oRg b t u v)]⟩
noncomputable abbrev Cf(j:Nat)(it:Addr)(x left:Int):Sp:=⟨.builtin "range_iterator.__next__" ⟨[.ref it],[]⟩,{r:=fun n _=>.error (.ref (n+1)),reads:=[j],news:=fun n=>[{cls:=.type "tuple",data:=.seq #[]},{cls:=.type "StopIteration",data:=.fields #[.ref n,.none,.none,.none,.bool false,.none]}]},[],[some (it,oRi x left)]⟩
section
variable{P:Par}{g:Bq}{U D:Nat}{id:String}{args:Args}{B:Builtin}
theorem Hg{v:Int}(hP:∀ b,P.n≤b→P.look b=none)(entry:entryFor table id=some B)(plain:plainId id=true)(G:Gives (B args) (.int v)):AK P g U D (BF id args v):=
 BV (dk:=1) (reads:=[]) (ps:=[]) hP fun A s R _ _ _ _ hR=>AA entry plain G.meets hR
theorem E1{x:Str}{t:Nat}(hP:∀ b,P.n≤b→P.look b=none)(hx:x.length<1000000):AK P g U D (Cc x t):=
 BV (dk:=2) (reads:=[]) (ps:=[]) hP fun A s R _ _ _ _ hR=>by
  refine codeAny_builtin entry_len ?_
  rw [Around.under_plainId (by decide +kernel)]
  exact wpAny_mono (wpAny_len_body (Q:=fun r s'=>R (.ok (.ret r)) s') (v:=.str x t) (n:=x.length) (T:="str") (typeIs_str s x t) F.slot_str_len F.entry_str_len (F.args_str_len_1 _) (gives_str_len x t) (ω42) (by omega) hR)
   (fun fin s' h'=>by obtain⟨r,rfl,hq⟩:=h'; exact hq) fun _ _ e=>e
theorem o_riter{j:Nat}{r:Addr}{b:Int}{t u v:Nat}(hP:∀ b,P.n≤b→P.look b=none)(h0:0≤b)(h1:b<1000000):AK P g U D (Gz j r b t u v):=by
 refine Bu (us:=[]) (ps:=[(r,oRg b t u v)]) rfl hP fun A s R _ _ _ _ _ h5 hR=>?_
 have hsm:Builtin.Range.small 0 b 1=true:=small_one (by decide) (by decide) (by omega) (by omega)
 have hsz:Builtin.Range.rangeSize 0 b 1=b:=by
  rw [rangeSize_one]
  split <;> omega
 refine AA (F.entry_range_iter) (by decide +kernel) (AutoRange.range___iter___range_1 r 0 b 1 t u v (by have hq:=hsm; unfold Builtin.Range.small at hq; rw [hq]; simp)) ⟨h5 _ μ0,?_⟩
 unfold Builtin.Range.small at hsm
 rw [if_pos hsm,hsz]
 obtain⟨k1,k2,k3⟩:=BP (s:=s.heap) (l:=[oRi 0 b]) (fun o ho=>by rw [ιS ho]; rfl)
 refine hR _ ⟨rfl,rfl,?_,?_,(fun p hp=>nomatch hp),?_⟩
 ·exact k1
 ·exact fun b o e _=>k2 b o e
 ·exact k3
theorem DQ{i:Nat}{it:Addr}{x left:Int}(hP:∀ b,P.n≤b→P.look b=none)(hr:P.ro≤i)(hl:0<left):AK P g U D (Bt i it x left):=by
 refine Bu (us:=[(it,oRi x left)]) (ps:=[]) (by simp only [Fa,FW,Bool.and_true]; exact Nat.ble_eq_true_of_le hr) hP fun A s R _ _ _ _ h4 _ hR=>?_
 have ha:=h4 _ μ0
 refine AA (F.entry_range_iterator_next) (by decide +kernel) (AutoRange.range_iterator___next___range_iterator_1 it x left 1 (by omega)) ⟨ha,?_⟩
 have u1:=Heap.get?_update_self (Obj.mapFields fun x_1=>x_1.setIfInBounds 0 (rawInt (x+1))) ha rfl
 have u2:=Heap.get?_update_self (Obj.mapFields fun x=>x.setIfInBounds 1 (rawInt (left-1))) u1 rfl
 refine hR _ ⟨rfl,rfl,?_,?_,?_,(fun p hp=>nomatch hp)⟩
 ·simp only [Heap.size_update]; rfl
 ·intro b o e hb
  have n:it≠b:=fun q=>hb (by rw [q]; exact .head _)
  show((s.heap.update it _).update it _).get? b=some o
  rw [Heap.get?_update_other _ _ n,Heap.get?_update_other _ _ n]; exact e
 ·intro p hp
  have:p=(it,oRi (x+1) (left-1)):=ιS hp
  rw [this]; exact u2
theorem ED{j:Nat}{it:Addr}{x left:Int}(hP:∀ b,P.n≤b→P.look b=none)(hl:left≤0):AK P g U D (Cf j it x left):=by
 refine Bu (us:=[]) (ps:=[(it,oRi x left)]) rfl hP fun A s R _ _ hh _ _ h5 hR=>?_
 have hit:=h5 _ μ0
 refine codeAny_builtin F.entry_range_iterator_next ?_
 rw [Around.under_plainId (by decide +kernel)]
 show wpAny _ _ (field (.ref it) 0 >>= _) _ _ s
 refine wpAny_bind (wpAny_field hit rfl (x:=rawInt x) rfl ?_)
 show wpAny _ _ (field (.ref it) 1 >>= _) _ _ s
 refine wpAny_bind (wpAny_field hit rfl (x:=rawInt left) rfl ?_)
 show wpAny _ _ (field (.ref it) 2 >>= _) _ _ s
 refine wpAny_bind (wpAny_field hit rfl (x:=rawInt 1) rfl ?_)
 show wpAny _ _ (if left≤0 then _ else _) _ _ s
 rw [if_pos hl]
 refine wpAny_bind (wpAny_rule ?_)
 refine wpAny_bind ?_
 show wpAny _ _ (newExc (.type "StopIteration") [] >>= _) _ _ _
 refine wpAny_bind ?_
 simp only [newExc,newTuple]
 refine wpAny_bind (wpAny_newObj_type ?_ (by size_fits))
 refine wpAny_bind (m:=firstArgMember _ _) (wpAny_of_eq (a:=Value.none) (by first | rfl | (simp only [firstArgMember]; rfl)) ?_)
 refine wpAny_newObj_type ?_ (by size_fits)
 simp only [raiseNew]
 refine wpAny_bind (wpAny_handled ?_)
 rw [show A.in1.handled=none from hh]
 refine wpAny_bind (ιp (wpAny_throw ?_))
 obtain⟨k1,k2,k3⟩:=BP (s:=s.heap) (l:=[{cls:=.type "tuple",data:=.seq #[]},{cls:=.type "StopIteration",data:=.fields #[.ref s.heap.objs.size,.none,.none,.none,.bool false,.none]}]) (fun o ho=>by
  rcases ιC ho with rfl | ho
  ·rfl
  ·rw [ιS ho]; rfl)
 have:=hR _ (Chg.mk (s':={s with heap:=List.foldl Heap.push s.heap [{cls:=.type "tuple",data:=.seq #[]},{cls:=.type "StopIteration",data:=.fields #[.ref s.heap.objs.size,.none,.none,.none,.bool false,.none]}]}) rfl rfl k1 (fun b o e _=>k2 b o e) (fun p hp=>nomatch hp) k3)
 simp only [Heap.size_push]
 exact this
end
section
variable(w:World)(f:Fl)(ext:Addr→Option Obj)(n t L:Nat)(k:Nat→Nat)(it:Nat)(m cnt:Int)(t1 t2 t3 t4:Nat)(tab tx sg ty:Str)(m2 m3 x left:Int)(kk:Nat)(vv:Value)
noncomputable abbrev Ja:List Sp:=[sFd (.int m t1) (.int (tab.length:Nat) (t+7+1)) m3,Cc tab t3,Am "str.__add__" ⟨[.str ⟨#[]⟩ t4,.str sg (t+5)],[]⟩ (.str sg (t+5)),spStr "str.__getitem__" ⟨[.str tab t3,.int m2 (t+4)],[]⟩ sg,sMd (.int m t1) (.int (tab.length:Nat) (t+2+1)) m2,Cc tab t3,Bt 1 it x left]
def sg2a:Res:=
 run (P4 w f ext n t 0) 76 (ιx 32 0x11202010011120202020100111112202) ((Ja t it m t1 t3 t4 tab sg m2 m3 x left).reverse.map Sp.x) [(L,oFr [de w "n" (k 0) (.int m t1),de w "count" (k 1) (.int cnt t2),de w "table" (k 2) (.str tab t3),de w "text" (k 3) (.str ⟨#[]⟩ t4)] 4),(it,oRi x left)] 0 0 .tree
  (Dj (sgF w).x (.ref it) (sgF w).body [] (Af w 483 L)) [] [] []
theorem sg2a_v:RvD (sg2a w f ext n t L k it m cnt t1 t2 t3 t4 tab sg m2 m3 x left) [0,1] (.again (.forLoop (sgF w).x (.ref it) (sgF w).body [] (Af w 483 L))) 1 0 11 [some (L,oFr [de w "n" (k 0) (.int m3 (t+9)),de w "count" (k 1) (.int cnt t2),de w "table" (k 2) (.str tab t3),de w "text" (k 3) (.str sg (t+5)),de w "k" (t+1) (.int x (t+0))] 5),some (it,oRi (x+1) (left-1))] (Ja t it m t1 t3 t4 tab sg m2 m3 x left):=by kernel_rfl
noncomputable abbrev IZ:List Sp:=[sFd (.int m t1) (.int (tab.length:Nat) (t+8+1)) m3,Cc tab t3,spStr "str.__add__" ⟨[.str tx t4,.str sg (t+5)],[]⟩ ty,spStr "str.__getitem__" ⟨[.str tab t3,.int m2 (t+4)],[]⟩ sg,sMd (.int m t1) (.int (tab.length:Nat) (t+2+1)) m2,Cc tab t3,Bt 1 it x left]
def sg2b:Res:=
 run (P4 w f ext n t 0) 76 (ιx 32 0x11202010011120202020100111112202) ((IZ t it m t1 t3 t4 tab tx sg ty m2 m3 x left).reverse.map Sp.x) [(L,oFr [de w "n" (k 0) (.int m t1),de w "count" (k 1) (.int cnt t2),de w "table" (k 2) (.str tab t3),de w "text" (k 3) (.str tx t4),de w "k" kk vv] 5),(it,oRi x left)] 0 0 .tree
  (Dj (sgF w).x (.ref it) (sgF w).body [] (Af w 483 L)) [] [] []
theorem sg2b_v:RvD (sg2b w f ext n t L k it m cnt t1 t2 t3 t4 tab tx sg ty m2 m3 x left kk vv) [0,1] (.again (.forLoop (sgF w).x (.ref it) (sgF w).body [] (Af w 483 L))) 1 0 12 [some (L,oFr [de w "n" (k 0) (.int m3 (t+10)),de w "count" (k 1) (.int cnt t2),de w "table" (k 2) (.str tab t3),de w "text" (k 3) (.str ty (t+6)),de w "k" kk (.int x (t+0))] 5),some (it,oRi (x+1) (left-1))] (IZ t it m t1 t3 t4 tab tx sg ty m2 m3 x left):=by kernel_rfl
def sg3a:Res:=
 run (P4 w f ext n t 0) 17 [2,0,2,2,4] ([Cf 1 it x left].map Sp.x) [(L,oFr [de w "n" (k 0) (.int m t1),de w "count" (k 1) (.int cnt t2),de w "table" (k 2) (.str tab t3),de w "text" (k 3) (.str ⟨#[]⟩ t4)] 4),(it,oRi x left)] 0 0 .tree
  (Dj (sgF w).x (.ref it) (sgF w).body [] (Af w 483 L)) [] [] []
theorem sg3a_v:RvD (sg3a w f ext n t L k it m cnt t1 t2 t3 t4 tab x left) [0,1] (.again (.block [] (Af w 483 L))) 1 2 0 [some (L,oFr [de w "n" (k 0) (.int m t1),de w "count" (k 1) (.int cnt t2),de w "table" (k 2) (.str tab t3),de w "text" (k 3) (.str ⟨#[]⟩ t4)] 4),some (it,oRi x left)] [Cf 1 it x left]:=by kernel_rfl
def sg3b:Res:=
 run (P4 w f ext n t 0) 17 [2,0,2,2,4] ([Cf 1 it x left].map Sp.x) [(L,oFr [de w "n" (k 0) (.int m t1),de w "count" (k 1) (.int cnt t2),de w "table" (k 2) (.str tab t3),de w "text" (k 3) (.str tx t4),de w "k" kk vv] 5),(it,oRi x left)] 0 0 .tree
  (Dj (sgF w).x (.ref it) (sgF w).body [] (Af w 483 L)) [] [] []
theorem sg3b_v:RvD (sg3b w f ext n t L k it m cnt t1 t2 t3 t4 tab tx x left kk vv) [0,1] (.again (.block [] (Af w 483 L))) 1 2 0 [some (L,oFr [de w "n" (k 0) (.int m t1),de w "count" (k 1) (.int cnt t2),de w "table" (k 2) (.str tab t3),de w "text" (k 3) (.str tx t4),de w "k" kk vv] 5),some (it,oRi x left)] [Cf 1 it x left]:=by kernel_rfl
def sgE:Res:=
 run (P2 w f ext n t 0) 68 (ιx 29 0x13220222020220000100110111111) ([Gz 1 (n+1) cnt (t+5) t2 (t+6)].map Sp.x) [] 0 0 .tree
  (ent w ext 483 [.int m t1,.int cnt t2,.str tab t3]) [] [] []
theorem sgE_v:RvN (sgE w f ext n t m cnt t1 t2 t3 tab) [0,1,2] (.call (.forLoop (sgF w).x (.ref (n+2)) (sgF w).body [] (Af w 483 n))) 0 3 7 [some (n,oFr [de w "n" t (.int m t1),de w "count" (t+1) (.int cnt t2),de w "table" (t+2) (.str tab t3),de w "text" (t+4) (.str ⟨#[]⟩ (t+3))] 4),some (n+1,oRg cnt (t+5) t2 (t+6)),some (n+2,oRi 0 cnt)] [Gz 1 (n+1) cnt (t+5) t2 (t+6)]:=by rcases f with⟨_ | _,_,_⟩ <;> kernel_rfl
end
section
variable(w:World)(f:Fl)(ext:Addr→Option Obj)(n t:Nat)(k:Nat→Nat)(m cnt:Int)(t1 t2 t3 t4:Nat)(tab tx:Str)(kk:Nat)(vv:Value)(n2 u2:Nat)(mz:Int)(tz:Nat)
def sg4a:Res:=
 run (P2 w f ext n2 u2 0) 14 [1] [] [(n,oFr [de w "n" (k 0) (.int mz tz),de w "count" (k 1) (.int cnt t2),de w "table" (k 2) (.str tab t3),de w "text" (k 3) (.str ⟨#[]⟩ t4)] 4)] 0 0 ((sgE w f ext n t m cnt t1 t2 t3 tab).ko)
  ((sgE w f ext n t m cnt t1 t2 t3 tab).kk (.ok .next)) [] [] []
theorem sg4a_v:RvD (sg4a w f ext n t k m cnt t1 t2 t3 t4 tab n2 u2 mz tz) [0] (.done (.ok (.ret (.str ⟨#[]⟩ t4)))) 0 0 0 [some (n,oFr [de w "n" (k 0) (.int mz tz),de w "count" (k 1) (.int cnt t2),de w "table" (k 2) (.str tab t3),de w "text" (k 3) (.str ⟨#[]⟩ t4)] 4)] []:=by rcases f with⟨_ | _,_,_⟩ <;> kernel_rfl
def sg4b:Res:=
 run (P2 w f ext n2 u2 0) 14 [1] [] [(n,oFr [de w "n" (k 0) (.int mz tz),de w "count" (k 1) (.int cnt t2),de w "table" (k 2) (.str tab t3),de w "text" (k 3) (.str tx t4),de w "k" kk vv] 5)] 0 0 ((sgE w f ext n t m cnt t1 t2 t3 tab).ko)
  ((sgE w f ext n t m cnt t1 t2 t3 tab).kk (.ok .next)) [] [] []
theorem sg4b_v:RvD (sg4b w f ext n t k m cnt t1 t2 t3 t4 tab tx kk vv n2 u2 mz tz) [0] (.done (.ok (.ret (.str tx t4)))) 0 0 0 [some (n,oFr [de w "n" (k 0) (.int mz tz),de w "count" (k 1) (.int cnt t2),de w "table" (k 2) (.str tab t3),de w "text" (k 3) (.str tx t4),de w "k" kk vv] 5)] []:=by rcases f with⟨_ | _,_,_⟩ <;> kernel_rfl
theorem sgE_h:AE none (sgE w f ext n t m cnt t1 t2 t3 tab).ko=none:=by rcases f with⟨_ | _,_,_⟩ <;> kernel_rfl
theorem sgE_d:Nat.ble (AX (sgE w f ext n t m cnt t1 t2 t3 tab).ko) 20=true:=by rcases f with⟨_ | _,_,_⟩ <;> kernel_rfl
theorem sgE_l:Nat.ble (Cn (sgE w f ext n t m cnt t1 t2 t3 tab).ko) 20=true:=by rcases f with⟨_ | _,_,_⟩ <;> kernel_rfl
end
noncomputable def sgL(tab:Str):Nat→Nat→List Nat
 | 0,_=>[]
 | c+1,m=>tab.cps.getD (m%tab.length) 0::sgL tab c (m/tab.length)
noncomputable abbrev Li(w:World)(k:Nat→Nat)(m:Nat)(cnt:Int)(tab tx:Str)(t1 t2 t3 t4 kk:Nat)(vv:Value):Obj:=oFr [de w "n" (k 0) (.int (m:Nat) t1),de w "count" (k 1) (.int cnt t2),de w "table" (k 2) (.str tab t3),de w "text" (k 3) (.str tx t4),de w "k" kk vv] 5
noncomputable abbrev sgW(w:World)(it L:Nat):Code:=.forLoop (sgF w).x (.ref it) (sgF w).body [] (Af w 483 L)
section
variable{w:World}{ext:Addr→Option Obj}
theorem fmod_nat(m T:Nat):(m:Int).fmod (T:Int)=((m%T:Nat):Int):=by rw [Int.fmod_eq_emod_of_nonneg _ (ω43)]; rfl
theorem fdiv_nat(m T:Nat):(m:Int).fdiv (T:Int)=((m/T:Nat):Int):=by rw [Int.fdiv_eq_ediv_of_nonneg _ (ω43)]; rfl
theorem seqIndex_nat{i n:Nat}(h:i<n):seqIndex? (i:Int) n=some i:=by
 unfold seqIndex?
 have h1:¬ ((i:Int)<0):=ω42
 have h2:(0≤(i:Int)&&decide ((i:Int)<(n:Int)))=true:=by simp; exact h
 simp only [h1,if_false]
 rw [if_pos h2]
 rfl
variable{P:Par}{g:Bq}{U D:Nat}
theorem CL{m T t u:Nat}(hP:∀ b,P.n≤b→P.look b=none)(hT:0<T):AK P g U D (sMd (.int (m:Nat) t) (.int (T:Nat) u) ((m%T:Nat):Int)):=
 Hg hP F.entry_int_mod (by decide +kernel) (by rw [←fmod_nat]; exact AutoIntG6.int___mod___int_int_1 _ _ _ _ (by simp; exact ω44 hT))
theorem Be{m T t u:Nat}(hP:∀ b,P.n≤b→P.look b=none)(hT:0<T)(hT2:T<1000000):AK P g U D (sFd (.int (m:Nat) t) (.int (T:Nat) u) ((m/T:Nat):Int)):=
 Hg hP F.entry_int_floordiv (by decide +kernel) (by
  rw [←fdiv_nat]
  refine AutoIntG4.int___floordiv___int_int_1 _ _ _ _ (by simp; exact ω44 hT) ?_
  unfold Builtin.divisionGoesByPylong
  have h1:T.log2<20:=(Nat.log2_lt (ω44 hT)).mpr (by omega)
  have h0:((T:Int) == 0)=false:=by simp; exact ω44 hT
  have h2:((T:Int).natAbs.log2)=T.log2:=rfl
  simp only [h0,Bool.false_eq_true,if_false,h2]
  have:¬ (T.log2/30+1>300):=ω45 h1
  simp [this])
theorem BS{x:Str}{i t u:Nat}(hP:∀ b,P.n≤b→P.look b=none)(hi:i<x.length)(hx:x.length<1000000):AK P g U D (spStr "str.__getitem__" ⟨[.str x t,.int (i:Nat) u],[]⟩ ⟨#[x.cps.getD i 0]⟩):=
 Iq hP F.entry_str_getitem (by decide +kernel) (gives_str_getitem x i t u _ (by simp; exact ω46 hi hx) (by
  rw [seqIndex_nat hi]
  have hi':i<x.cps.size:=hi
  simp [Array.getD,hi'])) (show 1≤sizeLine by decide)
theorem BY{x y:Str}{t u:Nat}(hP:∀ b,P.n≤b→P.look b=none)(h1:0<x.length)(h2:0<y.length)(hz:(x++y).length≤sizeLine):AK P g U D (spStr "str.__add__" ⟨[.str x t,.str y u],[]⟩ (x++y)):=
 Iq hP F.entry_str_add (by decide +kernel) (by
  have e1:(x.length == 0)=false:=by simp; exact ω44 h1
  have e2:(y.length == 0)=false:=by simp; exact ω44 h2
  have:=gives_str_add x y t u
  rw [e1,e2] at this
  exact this) hz
theorem o_sadd0{y:Str}{t u:Nat}(hP:∀ b,P.n≤b→P.look b=none):AK P g U D (Am "str.__add__" ⟨[.str ⟨#[]⟩ t,.str y u],[]⟩ (.str y u)):=
 E0 hP F.entry_str_add (by decide +kernel) (by exact gives_str_add ⟨#[]⟩ y t u)
theorem app_toList(x y:Str):(x++y).cps.toList=x.cps.toList++y.cps.toList:=Array.toList_append
theorem CE(x y:Str):(x++y).length=x.length+y.length:=Array.size_append
theorem sg_loop(W:Ae w){L it:Nat}{k:Nat→Nat}{cnt:Int}{tab:Str}{t2 t3:Nat}(hT:0<tab.length)(hT2:tab.length<1000)(ndL:L≠it)(apL:lkX w ext L=none)(apI:lkX w ext it=none) :
  ∀ (n m:Nat) (x:Int) (t1 t4 kk:Nat) (vv:Value) (tx:Str),0<tx.length→tx.length+n≤1000→∀ {A:Around} {st:Shared} {R:Result→Shared→Prop},Ar A 100→Ak w ext st→st.heap.get? L=some (Li w k m cnt tab tx t1 t2 t3 t4 kk vv)→st.heap.get? it=some (oRi x (n:Nat))→
   (∀ s' m' t1' t4' kk' vv' (ty:Str),Aft [L,it] st s'→ty.cps.toList=tx.cps.toList++sgL tab n m→s'.heap.get? L=some (Li w k m' cnt tab ty t1' t2 t3 t4' kk' vv')→R (.ok .next) s')→
   codeAny (model pr2 w) A (sgW w it L) R st:=by
 intro n
 induction n with
 | zero=>
  intro m x t1 t4 kk vv tx h1 h2 A st R hA S hL hI hR
  refine Cp ?_
  obtain⟨hroom,hfr⟩:=BU (target:=(sgF w).x) (it:=.ref it) (body:=(sgF w).body) (orelse:=[]) (env:=Af w 483 L) (hA.le (show 99+1≤100 by decide))
  refine uA W S hroom rfl (sg3b_v _ _ _ _ _ L k it m cnt t1 t2 t3 t4 tab tx x (0:Nat) kk vv) (Ab (ED S.new (by decide)) Aa) (ζ2 hL hI) (by simp [ndL]) (ζ2 apL apI) fun s1 I1 H1=>?_
  refine ιp ⟨rfl,codeAny_block (wpAny_execs_nil ?_)⟩
  exact hR s1 m t1 t4 kk vv tx I1.aft (by simp [sgL]) (H1 _ μ0)
 | succ n ih=>
  intro m x t1 t4 kk vv tx h1 h2 A st R hA S hL hI hR
  refine Cp ?_
  obtain⟨hroom,hfr⟩:=BU (target:=(sgF w).x) (it:=.ref it) (body:=(sgF w).body) (orelse:=[]) (env:=Af w 483 L) (hA.le (show 99+1≤100 by decide))
  have hm:m%tab.length<tab.length:=Nat.mod_lt _ hT
  have hsz:=sZ
  have hl:(tx++⟨#[tab.cps.getD (m%tab.length) 0]⟩).length=tx.length+1:=CE ..
  refine uA W S hroom rfl (sg2b_v _ _ _ _ _ L k it m cnt t1 t2 t3 t4 tab tx ⟨#[tab.cps.getD (m%tab.length) 0]⟩ (tx++⟨#[tab.cps.getD (m%tab.length) 0]⟩) ((m%tab.length:Nat):Int) ((m/tab.length:Nat):Int) x ((n+1:Nat):Int) kk vv) (ζ7 (Be S.new hT (ω47 hT2)) (E1 S.new (ω47 hT2)) (BY S.new h1 (Nat.succ_pos 0) (ω48 h2 hsz hl)) (BS S.new hm (ω47 hT2)) (CL S.new hT) (E1 S.new (ω47 hT2)) (DQ S.new (Nat.zero_le 1) (ω49))) (ζ2 hL hI) (by simp [ndL]) (ζ2 apL apI) fun s1 I1 H1=>?_
  have A1:Aft [L,it] st s1:=I1.aft
  have hL1:=H1 _ μ0
  have hI1:=H1 _ μ1
  dsimp only at hL1 hI1
  have en:((n+1:Nat):Int)-1=(n:Nat):=ω4a
  rw [en] at hI1
  refine ιp ⟨rfl,ih (m/tab.length) (x+1) _ _ kk _ _ (by rw [hl]; exact ω4b) (by rw [hl]; exact ω4c h2) hA (S.aft A1 (ζ2 apL apI)) hL1 hI1 fun s2 m' t1' t4' kk' vv' ty A2 e hL2=>hR s2 m' t1' t4' kk' vv' ty (A1.trans A2) ?_ hL2⟩
  rw [e,app_toList]
  simp [sgL]
end
section
variable{w:World}{ext:Addr→Option Obj}
theorem sg_con(W:Ae w){A:Around}{st:Shared}(hA:Ar A 200)(S:Ak w ext st){m n t1 t2 t3:Nat}{tab:Str}(hT:0<tab.length)(hT2:tab.length<1000)(hn:n≤900)
  (hR:∀ s' tk (ty:Str),Aft [] st s'→ty.cps.toList=sgL tab n m→R (.ok (.ret (.str ty tk))) s'):codeAny (model pr2 w) A (.call (.ref 483) ⟨[.int (m:Nat) t1,.int (n:Nat) t2,.str tab t3],[]⟩) R st:=by
 have I0:=Inv.MH S (reads:=[]) (pre:=[]) Aa ιN Aa (by simp) Aa
 refine Bv S (BA w ext 483 (by rfl)) (by have:=hA.depth; exact ω03 this) ?_
 refine CJ (g:=Av pr2 w A R) (BC W S hA (by decide)) rfl (sgE_v _ _ _ _ _ m n t1 t2 t3 tab) (sgE_h w (Ax w) ext st.heap.objs.size st.toks m n t1 t2 t3 tab)
  (Ab (o_riter S.new (ω43) (ω4d hn)) Aa) I0 fun A1 s1 hd1 hu1 hh1 hf1 I1 H1=>?_
 have q1:=Nat.le_of_ble_eq_true (sgE_d w (Ax w) ext st.heap.objs.size st.toks m n t1 t2 t3 tab)
 have q2:=Nat.le_of_ble_eq_true (sgE_l w (Ax w) ext st.heap.objs.size st.toks m n t1 t2 t3 tab)
 have hA1:Ar A1 110:=⟨hh1.trans hA.handled,by
  have:=hA.depth
  have h1:A1.depth≤max A.depth A.depth+_:=hd1
  exact ω4e q1 this h1,by
  have:=hA.units
  have h1:A1.units≤max (A.units+1) A.units+10*Cn (sgE w (Ax w) ext st.heap.objs.size st.toks m n t1 t2 t3 tab).ko:=hu1
  exact ω4f q2 this h1⟩
 have St1:Ak w ext s1:=S.aft I1.aft (fun a ha=>nomatch ha)
 have F1:=H1 _ μ0
 have RI1:=H1 _ μ2
 dsimp only at F1 RI1
 have apL:lkX w ext st.heap.objs.size=none:=S.new _ (ιR _)
 have apI:lkX w ext (st.heap.objs.size+2)=none:=S.new _ (ιA ..)
 have ndL:st.heap.objs.size≠st.heap.objs.size+2:=ω4g
 have dropA:∀ {s':Shared},Aft [st.heap.objs.size,st.heap.objs.size+2] s1 s'→Aft [] st s':=fun a=>((I1.aft.mono Aa).trans a).drop fun x hx=>by
  replace hx:=ω9o hx
  rcases hx with q | q
  ·exact .inr (by rw [q]; exact ιR _)
  ·exact .inr (by rw [q]; exact ιA ..)
 have fin:∀ {s2 s3:Shared},Aft [st.heap.objs.size,st.heap.objs.size+2] s1 s2→Aft [st.heap.objs.size] s2 s3→Aft [] st s3:=fun a b=>dropA (a.trans (b.mono fun x hx=>by rw [ιS hx]; exact .head _))
 let k:Nat→Nat:=fun i=>match i with | 0=>st.toks | 1=>st.toks+1 | 2=>st.toks+2 | _=>st.toks+4
 have fin0:∀ {s2:Shared} {kk:Nat→Nat} {m':Int} {t1' t4':Nat},Aft [st.heap.objs.size,st.heap.objs.size+2] s1 s2→n=0→s2.heap.get? st.heap.objs.size=some (oFr [de w "n" (kk 0) (.int m' t1'),de w "count" (kk 1) (.int (n:Nat) t2),de w "table" (kk 2) (.str tab t3),de w "text" (kk 3) (.str ⟨#[]⟩ t4')] 4)→
   Bn (Av pr2 w A R) (sgE w (Ax w) ext st.heap.objs.size st.toks m n t1 t2 t3 tab).ko ((sgE w (Ax w) ext st.heap.objs.size st.toks m n t1 t2 t3 tab).kk (.ok .next)) s2:=fun {s2 kk m' t1' t4'} a e hF=>by
  have St2:Ak w ext s2:=St1.aft a (ζ2 apL apI)
  exact Aw (g:=Av pr2 w A R) (BC W St2 hA (by decide)) rfl (sg4a_v _ _ _ _ _ kk m n t1 t2 t3 t4' tab s2.heap.objs.size s2.toks m' t1') (vs:=[]) Aa
   (Inv.MH St2 (reads:=[]) (pre:=[(st.heap.objs.size,_)]) Aa ιN (Ab hF Aa) (by simp) (Ab apL Aa)) fun s3 I3 H3=>hR s3 _ ⟨#[]⟩ (fin a I3.aft) (by rw [e]; rfl)
 have fin1:∀ {s2:Shared} {kk:Nat→Nat} {m':Int} {t1' t4' kz:Nat} {vz:Value} {ty:Str},Aft [st.heap.objs.size,st.heap.objs.size+2] s1 s2→ty.cps.toList=sgL tab n m→s2.heap.get? st.heap.objs.size=some (oFr [de w "n" (kk 0) (.int m' t1'),de w "count" (kk 1) (.int (n:Nat) t2),de w "table" (kk 2) (.str tab t3),de w "text" (kk 3) (.str ty t4'),de w "k" kz vz] 5)→
   Bn (Av pr2 w A R) (sgE w (Ax w) ext st.heap.objs.size st.toks m n t1 t2 t3 tab).ko ((sgE w (Ax w) ext st.heap.objs.size st.toks m n t1 t2 t3 tab).kk (.ok .next)) s2:=fun {s2 kk m' t1' t4' kz vz ty} a e hF=>by
  have St2:Ak w ext s2:=St1.aft a (ζ2 apL apI)
  exact Aw (g:=Av pr2 w A R) (BC W St2 hA (by decide)) rfl (sg4b_v _ _ _ _ _ kk m n t1 t2 t3 t4' tab ty kz vz s2.heap.objs.size s2.toks m' t1') (vs:=[]) Aa
   (Inv.MH St2 (reads:=[]) (pre:=[(st.heap.objs.size,_)]) Aa ιN (Ab hF Aa) (by simp) (Ab apL Aa)) fun s3 I3 H3=>hR s3 _ ty (fin a I3.aft) e
 cases n with
 | zero=>
  refine Cp ?_
  obtain⟨hroom,hfr⟩:=BU (target:=(sgF w).x) (it:=.ref (st.heap.objs.size+2)) (body:=(sgF w).body) (orelse:=[]) (env:=Af w 483 st.heap.objs.size) (hA1.le (show 99+1≤110 by decide))
  refine uA W St1 hroom rfl (sg3a_v _ _ _ _ _ st.heap.objs.size k (st.heap.objs.size+2) m (0:Nat) t1 t2 t3 (st.toks+3) tab 0 (0:Nat)) (Ab (ED St1.new (by decide)) Aa) (ζ2 F1 RI1) (by simp) (ζ2 apL apI) fun s2 I2 H2=>?_
  refine ιp ⟨rfl,codeAny_block (wpAny_execs_nil ?_)⟩
  exact fin0 I2.aft rfl (kk:=k) (H2 _ μ0)
 | succ n=>
  refine Cp ?_
  obtain⟨hroom,hfr⟩:=BU (target:=(sgF w).x) (it:=.ref (st.heap.objs.size+2)) (body:=(sgF w).body) (orelse:=[]) (env:=Af w 483 st.heap.objs.size) (hA1.le (show 99+1≤110 by decide))
  have hm:m%tab.length<tab.length:=Nat.mod_lt _ hT
  refine uA W St1 hroom rfl (sg2a_v _ _ _ _ _ st.heap.objs.size k (st.heap.objs.size+2) m (n+1:Nat) t1 t2 t3 (st.toks+3) tab ⟨#[tab.cps.getD (m%tab.length) 0]⟩ ((m%tab.length:Nat):Int) ((m/tab.length:Nat):Int) 0 ((n+1:Nat):Int)) (ζ7 (Be St1.new hT (ω47 hT2)) (E1 St1.new (ω47 hT2)) (o_sadd0 St1.new) (BS St1.new hm (ω47 hT2)) (CL St1.new hT) (E1 St1.new (ω47 hT2)) (DQ St1.new (Nat.zero_le 1) (ω49))) (ζ2 F1 RI1) (by simp) (ζ2 apL apI) fun s2 I2 H2=>?_
  have A2:Aft [st.heap.objs.size,st.heap.objs.size+2] s1 s2:=I2.aft
  have F2:=H2 _ μ0
  have RI2:=H2 _ μ1
  dsimp only at F2 RI2
  have en:((n+1:Nat):Int)-1=(n:Nat):=ω4a
  rw [en] at RI2
  have h1000:(⟨#[tab.cps.getD (m%tab.length) 0]⟩:Str).length+n≤1000:=by show 1+n≤1000; exact ω4h hn
  refine ιp ⟨rfl,sg_loop W hT hT2 ndL apL apI n (m/tab.length) _ _ _ _ _ ⟨#[tab.cps.getD (m%tab.length) 0]⟩ (Nat.succ_pos 0) h1000 (hA1.le (by decide:100≤110)) (St1.aft A2 (ζ2 apL apI)) F2 RI2 fun s3 m' t1' t4' kk' vv' ty A3 e hL3=>?_⟩
  exact fin1 (kk:=k) (A2.trans A3) (by rw [e]; simp [sgL]) hL3
end
section
variable(w:World)(f:Fl)(ext:Addr→Option Obj)(n t:Nat)(m m2 m3:Int)(t1:Nat)(sg:Str)
noncomputable abbrev Io:List Sp:=[sMd (.int m2 (t+4)) (.int 4 (t+12)) 0,sFd (.int m t1) (.int 10 (t+3)) m2,sMd (.int m t1) (.int 10 (t+1)) 0]
def pc0_0:Res:=
 run (P2 w f ext n t 0) 135 (ιx 66 0x070707772010300001111153323303033323303033323303033020222201201011) ((Io t m m2 t1).reverse.map Sp.x) [] 0 0 .tree
  (ent w ext 490 [.int m t1]) [] [] []
theorem pc0_0_v:RvD (pc0_0 w f ext n t m m2 t1) [] (.done (.ok (.ret (.str ⟨⟨[34]⟩⟩ (t+8))))) 0 7 14 [] (Io t m m2 t1):=by rcases f with⟨_ | _,_,_⟩ <;> kernel_rfl
noncomputable abbrev Im:List Sp:=[sMd (.int m2 (t+4)) (.int 4 (t+12)) 1,sFd (.int m t1) (.int 10 (t+3)) m2,sMd (.int m t1) (.int 10 (t+1)) 0]
def pc0_1:Res:=
 run (P2 w f ext n t 0) 135 (ιx 66 0x070707772010300001111153323303033323303033323303033020222201201011) ((Im t m m2 t1).reverse.map Sp.x) [] 0 0 .tree
  (ent w ext 490 [.int m t1]) [] [] []
theorem pc0_1_v:RvD (pc0_1 w f ext n t m m2 t1) [] (.done (.ok (.ret (.str ⟨⟨[64]⟩⟩ (t+9))))) 0 7 14 [] (Im t m m2 t1):=by rcases f with⟨_ | _,_,_⟩ <;> kernel_rfl
noncomputable abbrev Il:List Sp:=[sMd (.int m2 (t+4)) (.int 4 (t+12)) 2,sFd (.int m t1) (.int 10 (t+3)) m2,sMd (.int m t1) (.int 10 (t+1)) 0]
def pc0_2:Res:=
 run (P2 w f ext n t 0) 135 (ιx 66 0x070707772010300001111153323303033323303033323303033020222201201011) ((Il t m m2 t1).reverse.map Sp.x) [] 0 0 .tree
  (ent w ext 490 [.int m t1]) [] [] []
theorem pc0_2_v:RvD (pc0_2 w f ext n t m m2 t1) [] (.done (.ok (.ret (.str ιd (t+10))))) 0 7 14 [] (Il t m m2 t1):=by rcases f with⟨_ | _,_,_⟩ <;> kernel_rfl
noncomputable abbrev Ik:List Sp:=[sMd (.int m2 (t+4)) (.int 4 (t+12)) 3,sFd (.int m t1) (.int 10 (t+3)) m2,sMd (.int m t1) (.int 10 (t+1)) 0]
def pc0_3:Res:=
 run (P2 w f ext n t 0) 135 (ιx 66 0x070707772010300001111153323303033323303033323303033020222201201011) ((Ik t m m2 t1).reverse.map Sp.x) [] 0 0 .tree
  (ent w ext 490 [.int m t1]) [] [] []
theorem pc0_3_v:RvD (pc0_3 w f ext n t m m2 t1) [] (.done (.ok (.ret (.str ιe (t+11))))) 0 7 14 [] (Ik t m m2 t1):=by rcases f with⟨_ | _,_,_⟩ <;> kernel_rfl
noncomputable abbrev Kk:List Sp:=[spStr "str.__add__" ⟨[.str ⟨⟨[92]⟩⟩ (t+10),.str sg (t+13)],[]⟩ (⟨⟨[92]⟩⟩++sg),spStr "str.__getitem__" ⟨[.str ιb 815,.int m3 (t+12)],[]⟩ sg,sMd (.int m2 (t+4)) (.int 12 (t+11)) m3,sFd (.int m t1) (.int 10 (t+3)) m2,sMd (.int m t1) (.int 10 (t+1)) 2]
def pc2:Res:=
 run (P2 w f ext n t 0) 135 (ιx 65 0x20202010001001001111153323303033323303033323303033020222201201011) ((Kk t m m2 m3 t1 sg).reverse.map Sp.x) [] 0 0 .tree
  (ent w ext 490 [.int m t1]) [] [] []
theorem pc2_v:RvD (pc2 w f ext n t m m2 m3 t1 sg) [] (.done (.ok (.ret (.str (⟨⟨[92]⟩⟩++sg) (t+14))))) 0 5 15 [] (Kk t m m2 m3 t1 sg):=by rcases f with⟨_ | _,_,_⟩ <;> kernel_rfl
noncomputable abbrev Kj:List Sp:=[spStr "str.__add__" ⟨[.str ⟨⟨[92]⟩⟩ (t+15),.str sg (t+18)],[]⟩ (⟨⟨[92]⟩⟩++sg),spStr "str.__getitem__" ⟨[.str ιi 817,.int m3 (t+17)],[]⟩ sg,sMd (.int m2 (t+4)) (.int 12 (t+16)) m3,sFd (.int m t1) (.int 10 (t+3)) m2,sMd (.int m t1) (.int 10 (t+1)) 7]
def pc7:Res:=
 run (P2 w f ext n t 0) 180 (ιx 80 0x20202010001001001001001001001001111153323303033323303033323303033020222201201011) ((Kj t m m2 m3 t1 sg).reverse.map Sp.x) [] 0 0 .tree
  (ent w ext 490 [.int m t1]) [] [] []
theorem pc7_v:RvD (pc7 w f ext n t m m2 m3 t1 sg) [] (.done (.ok (.ret (.str (⟨⟨[92]⟩⟩++sg) (t+19))))) 0 5 20 [] (Kj t m m2 m3 t1 sg):=by rcases f with⟨_ | _,_,_⟩ <;> kernel_rfl
noncomputable abbrev Ij:List Sp:=[spStr "str.__add__" ⟨[.str ⟨⟨[34]⟩⟩ (t+16),.str ⟨⟨[34]⟩⟩ (t+17)],[]⟩ (⟨⟨[34]⟩⟩++⟨⟨[34]⟩⟩),sMd (.int m2 (t+4)) (.int 4 (t+21)) 0,sFd (.int m t1) (.int 10 (t+3)) m2,sMd (.int m t1) (.int 10 (t+1)) 9]
def pc9_0:Res:=
 run (P2 w f ext n t 0) 212 (ιx 92 0x20070707772010300001001001001001001001001001111153323303033323303033323303033020222201201011) ((Ij t m m2 t1).reverse.map Sp.x) [] 0 0 .tree
  (ent w ext 490 [.int m t1]) [] [] []
theorem pc9_0_v:RvD (pc9_0 w f ext n t m m2 t1) [] (.done (.ok (.ret (.str (⟨⟨[34]⟩⟩++⟨⟨[34]⟩⟩) (t+23))))) 0 7 24 [] (Ij t m m2 t1):=by rcases f with⟨_ | _,_,_⟩ <;> kernel_rfl
noncomputable abbrev Ii:List Sp:=[spStr "str.__add__" ⟨[.str ⟨⟨[34]⟩⟩ (t+16),.str ⟨⟨[64]⟩⟩ (t+18)],[]⟩ (⟨⟨[34]⟩⟩++⟨⟨[64]⟩⟩),sMd (.int m2 (t+4)) (.int 4 (t+21)) 1,sFd (.int m t1) (.int 10 (t+3)) m2,sMd (.int m t1) (.int 10 (t+1)) 9]
def pc9_1:Res:=
 run (P2 w f ext n t 0) 212 (ιx 92 0x20070707772010300001001001001001001001001001111153323303033323303033323303033020222201201011) ((Ii t m m2 t1).reverse.map Sp.x) [] 0 0 .tree
  (ent w ext 490 [.int m t1]) [] [] []
theorem pc9_1_v:RvD (pc9_1 w f ext n t m m2 t1) [] (.done (.ok (.ret (.str (⟨⟨[34]⟩⟩++⟨⟨[64]⟩⟩) (t+23))))) 0 7 24 [] (Ii t m m2 t1):=by rcases f with⟨_ | _,_,_⟩ <;> kernel_rfl
noncomputable abbrev Ih:List Sp:=[spStr "str.__add__" ⟨[.str ⟨⟨[34]⟩⟩ (t+16),.str ιd (t+19)],[]⟩ (⟨⟨[34]⟩⟩++ιd),sMd (.int m2 (t+4)) (.int 4 (t+21)) 2,sFd (.int m t1) (.int 10 (t+3)) m2,sMd (.int m t1) (.int 10 (t+1)) 9]
def pc9_2:Res:=
 run (P2 w f ext n t 0) 212 (ιx 92 0x20070707772010300001001001001001001001001001111153323303033323303033323303033020222201201011) ((Ih t m m2 t1).reverse.map Sp.x) [] 0 0 .tree
  (ent w ext 490 [.int m t1]) [] [] []
theorem pc9_2_v:RvD (pc9_2 w f ext n t m m2 t1) [] (.done (.ok (.ret (.str (⟨⟨[34]⟩⟩++ιd) (t+23))))) 0 7 24 [] (Ih t m m2 t1):=by rcases f with⟨_ | _,_,_⟩ <;> kernel_rfl
noncomputable abbrev Ig:List Sp:=[spStr "str.__add__" ⟨[.str ⟨⟨[34]⟩⟩ (t+16),.str ιe (t+20)],[]⟩ (⟨⟨[34]⟩⟩++ιe),sMd (.int m2 (t+4)) (.int 4 (t+21)) 3,sFd (.int m t1) (.int 10 (t+3)) m2,sMd (.int m t1) (.int 10 (t+1)) 9]
def pc9_3:Res:=
 run (P2 w f ext n t 0) 212 (ιx 92 0x20070707772010300001001001001001001001001001111153323303033323303033323303033020222201201011) ((Ig t m m2 t1).reverse.map Sp.x) [] 0 0 .tree
  (ent w ext 490 [.int m t1]) [] [] []
theorem pc9_3_v:RvD (pc9_3 w f ext n t m m2 t1) [] (.done (.ok (.ret (.str (⟨⟨[34]⟩⟩++ιe) (t+23))))) 0 7 24 [] (Ig t m m2 t1):=by rcases f with⟨_ | _,_,_⟩ <;> kernel_rfl
end
section
variable(w:World)(f:Fl)(ext:Addr→Option Obj)(n t:Nat)(m m2 m3 m4 m5:Int)(t1:Nat)
noncomputable abbrev Ki:List Sp:=[sAd (.int 1 (t+11)) (.int m4 (t+13)) m5,sMd (.int m2 (t+4)) (.int 3 (t+12)) m4,sFd (.int m2 (t+4)) (.int 3 (t+9)) m3,sFd (.int m t1) (.int 10 (t+3)) m2,sMd (.int m t1) (.int 10 (t+1)) 1]
def pd1:Res:=
 run (P2 w f ext n t 0) 132 (ιx 66 0x100202012010001001111153323303033323303033323303033020222201201011) ((Ki t m m2 m3 m4 m5 t1).reverse.map Sp.x) [] 0 0 .tree
  (ent w ext 490 [.int m t1]) [] [] []
theorem pd1_v:RvN (pd1 w f ext n t m m2 m3 m4 m5 t1) [] (.call (.call (.ref 483) ⟨[.int m3 (t+10),.int m5 (t+14),.str ⟨⟨[97,76,55,39,47,42,63,64,96,101,233,48,117,59,120,56,32,8364,128512,1635]⟩⟩ 813],[]⟩)) 0 5 15 [] (Ki t m m2 m3 m4 m5 t1):=by rcases f with⟨_ | _,_,_⟩ <;> kernel_rfl
noncomputable abbrev Kh:List Sp:=[sAd (.int 1 (t+14)) (.int m4 (t+16)) m5,sMd (.int m2 (t+4)) (.int 4 (t+15)) m4,sFd (.int m2 (t+4)) (.int 4 (t+12)) m3,sFd (.int m t1) (.int 10 (t+3)) m2,sMd (.int m t1) (.int 10 (t+1)) 3]
def pd3:Res:=
 run (P2 w f ext n t 0) 150 (ιx 71 0x10202012010001001001001111153323303033323303033323303033020222201201011) ((Kh t m m2 m3 m4 m5 t1).reverse.map Sp.x) [] 0 0 .tree
  (ent w ext 490 [.int m t1]) [] [] []
theorem pd3_v:RvN (pd3 w f ext n t m m2 m3 m4 m5 t1) [] (.call (.call (.ref 483) ⟨[.int m3 (t+13),.int m5 (t+17),.str ιf (t+18)],[]⟩)) 0 5 19 [] (Kh t m m2 m3 m4 m5 t1):=by rcases f with⟨_ | _,_,_⟩ <;> kernel_rfl
noncomputable abbrev Kg:List Sp:=[sMd (.int m2 (t+4)) (.int 4 (t+15)) m4,sFd (.int m2 (t+4)) (.int 4 (t+13)) m3,sFd (.int m t1) (.int 10 (t+3)) m2,sMd (.int m t1) (.int 10 (t+1)) 4]
def pd4:Res:=
 run (P2 w f ext n t 0) 156 (ιx 73 0x1002012010001001001001001111153323303033323303033323303033020222201201011) ((Kg t m m2 m3 m4 t1).reverse.map Sp.x) [] 0 0 .tree
  (ent w ext 490 [.int m t1]) [] [] []
theorem pd4_v:RvN (pd4 w f ext n t m m2 m3 m4 t1) [] (.call (.call (.ref 483) ⟨[.int m3 (t+14),.int m4 (t+16),.str ιa 821],[]⟩)) 0 5 17 [] (Kg t m m2 m3 m4 t1):=by rcases f with⟨_ | _,_,_⟩ <;> kernel_rfl
noncomputable abbrev Kf:List Sp:=[sMd (.int m2 (t+4)) (.int 3 (t+19)) m4,sFd (.int m2 (t+4)) (.int 3 (t+17)) m3,sFd (.int m t1) (.int 10 (t+3)) m2,sMd (.int m t1) (.int 10 (t+1)) 8]
def pd8:Res:=
 run (P2 w f ext n t 0) 192 (ιx 85 0x1002012010001001001001001001001001001111153323303033323303033323303033020222201201011) ((Kf t m m2 m3 m4 t1).reverse.map Sp.x) [] 0 0 .tree
  (ent w ext 490 [.int m t1]) [] [] []
theorem pd8_v:RvN (pd8 w f ext n t m m2 m3 m4 t1) [] (.call (.call (.ref 483) ⟨[.int m3 (t+18),.int m4 (t+20),.str ⟨⟨[97,76,55,39,47,42,63,64,96,101,233,48,117,59,120,56,32,8364,128512,1635]⟩⟩ 813],[]⟩)) 0 5 21 [] (Kf t m m2 m3 m4 t1):=by rcases f with⟨_ | _,_,_⟩ <;> kernel_rfl
end
section
variable(w:World)(f:Fl)(ext:Addr→Option Obj)(n t:Nat)(m m2 m3 m4 m5:Int)(t1:Nat)(n2 u2 tk:Nat)(sg:Str)
def pd1r:Res:=
 run (P2 w f ext n2 u2 0) 12 [] [] [] 0 0 ((pd1 w f ext n t m m2 m3 m4 m5 t1).ko)
  ((pd1 w f ext n t m m2 m3 m4 m5 t1).kk (.ok (.ret (.str sg tk)))) [] [] []
theorem pd1r_v:RvD (pd1r w f ext n t m m2 m3 m4 m5 t1 n2 u2 tk sg) [] (.done (.ok (.ret (.str sg tk)))) 0 0 0 [] []:=by rcases f with⟨_ | _,_,_⟩ <;> kernel_rfl
def pd3r:Res:=
 run (P2 w f ext n2 u2 0) 16 [0,2] ([spStr "str.__add__" ⟨[.str ⟨⟨[92]⟩⟩ (t+11),.str sg tk],[]⟩ (⟨⟨[92]⟩⟩++sg)].map Sp.x) [] 0 0 ((pd3 w f ext n t m m2 m3 m4 m5 t1).ko)
  ((pd3 w f ext n t m m2 m3 m4 m5 t1).kk (.ok (.ret (.str sg tk)))) [] [] []
theorem pd3r_v:RvD (pd3r w f ext n t m m2 m3 m4 m5 t1 n2 u2 tk sg) [] (.done (.ok (.ret (.str (⟨⟨[92]⟩⟩++sg) (u2+0))))) 0 0 1 [] [spStr "str.__add__" ⟨[.str ⟨⟨[92]⟩⟩ (t+11),.str sg tk],[]⟩ (⟨⟨[92]⟩⟩++sg)]:=by rcases f with⟨_ | _,_,_⟩ <;> kernel_rfl
def pd4r:Res:=
 run (P2 w f ext n2 u2 0) 16 [0,2] ([spStr "str.__add__" ⟨[.str ιj (t+12),.str sg tk],[]⟩ (ιj++sg)].map Sp.x) [] 0 0 ((pd4 w f ext n t m m2 m3 m4 t1).ko)
  ((pd4 w f ext n t m m2 m3 m4 t1).kk (.ok (.ret (.str sg tk)))) [] [] []
theorem pd4r_v:RvD (pd4r w f ext n t m m2 m3 m4 t1 n2 u2 tk sg) [] (.done (.ok (.ret (.str (ιj++sg) (u2+0))))) 0 0 1 [] [spStr "str.__add__" ⟨[.str ιj (t+12),.str sg tk],[]⟩ (ιj++sg)]:=by rcases f with⟨_ | _,_,_⟩ <;> kernel_rfl
def pd8r:Res:=
 run (P2 w f ext n2 u2 0) 16 [0,2] ([spStr "str.__add__" ⟨[.str ⟨⟨[34]⟩⟩ (t+16),.str sg tk],[]⟩ (⟨⟨[34]⟩⟩++sg)].map Sp.x) [] 0 0 ((pd8 w f ext n t m m2 m3 m4 t1).ko)
  ((pd8 w f ext n t m m2 m3 m4 t1).kk (.ok (.ret (.str sg tk)))) [] [] []
theorem pd8r_v:RvD (pd8r w f ext n t m m2 m3 m4 t1 n2 u2 tk sg) [] (.done (.ok (.ret (.str (⟨⟨[34]⟩⟩++sg) (u2+0))))) 0 0 1 [] [spStr "str.__add__" ⟨[.str ⟨⟨[34]⟩⟩ (t+16),.str sg tk],[]⟩ (⟨⟨[34]⟩⟩++sg)]:=by rcases f with⟨_ | _,_,_⟩ <;> kernel_rfl
def pd4e:Res:=
 run (P2 w f ext n2 u2 0) 16 [0,2] ([Am "str.__add__" ⟨[.str ιj (t+12),.str ⟨#[]⟩ tk],[]⟩ (.str ιj (t+12))].map Sp.x) [] 0 0 ((pd4 w f ext n t m m2 m3 m4 t1).ko)
  ((pd4 w f ext n t m m2 m3 m4 t1).kk (.ok (.ret (.str ⟨#[]⟩ tk)))) [] [] []
theorem pd4e_v:RvD (pd4e w f ext n t m m2 m3 m4 t1 n2 u2 tk) [] (.done (.ok (.ret (.str ιj (t+12))))) 0 0 0 [] [Am "str.__add__" ⟨[.str ιj (t+12),.str ⟨#[]⟩ tk],[]⟩ (.str ιj (t+12))]:=by rcases f with⟨_ | _,_,_⟩ <;> kernel_rfl
def pd8e:Res:=
 run (P2 w f ext n2 u2 0) 16 [0,2] ([Am "str.__add__" ⟨[.str ⟨⟨[34]⟩⟩ (t+16),.str ⟨#[]⟩ tk],[]⟩ (.str ⟨⟨[34]⟩⟩ (t+16))].map Sp.x) [] 0 0 ((pd8 w f ext n t m m2 m3 m4 t1).ko)
  ((pd8 w f ext n t m m2 m3 m4 t1).kk (.ok (.ret (.str ⟨#[]⟩ tk)))) [] [] []
theorem pd8e_v:RvD (pd8e w f ext n t m m2 m3 m4 t1 n2 u2 tk) [] (.done (.ok (.ret (.str ⟨⟨[34]⟩⟩ (t+16))))) 0 0 0 [] [Am "str.__add__" ⟨[.str ⟨⟨[34]⟩⟩ (t+16),.str ⟨#[]⟩ tk],[]⟩ (.str ⟨⟨[34]⟩⟩ (t+16))]:=by rcases f with⟨_ | _,_,_⟩ <;> kernel_rfl
end
section
variable(w:World)(f:Fl)(ext:Addr→Option Obj)(n t:Nat)(m m2 m3 m4 m5:Int)(t1:Nat)(sg:Str)
noncomputable abbrev Ie:List Sp:=[sMd (.int m4 (t+20)) (.int 9 (t+21)) m5,sFd (.int m2 (t+4)) (.int 2 (t+19)) m4,sFd (.int m2 (t+4)) (.int 18 (t+17)) m3,sMd (.int m2 (t+4)) (.int 2 (t+13)) 0,sFd (.int m t1) (.int 10 (t+3)) m2,sMd (.int m t1) (.int 10 (t+1)) 5]
def EQ:Res:=
 run (P2 w f ext n t 0) 181 (ιx 83 0x10020201201000201001001001001001001111153323303033323303033323303033020222201201011) ((Ie t m m2 m3 m4 m5 t1).reverse.map Sp.x) [] 0 0 .tree
  (ent w ext 490 [.int m t1]) [] [] []
theorem pe5_0_v:RvN (EQ w f ext n t m m2 m3 m4 m5 t1) [] (.call (.call (.ref 483) ⟨[.int m3 (t+18),.int m5 (t+22),.str ιa 821],[]⟩)) 0 5 23 [] (Ie t m m2 m3 m4 m5 t1):=by rcases f with⟨_ | _,_,_⟩ <;> kernel_rfl
noncomputable abbrev Ic:List Sp:=[sMd (.int m4 (t+20)) (.int 9 (t+21)) m5,sFd (.int m2 (t+4)) (.int 2 (t+19)) m4,sFd (.int m2 (t+4)) (.int 18 (t+17)) m3,sMd (.int m2 (t+4)) (.int 2 (t+13)) 1,sFd (.int m t1) (.int 10 (t+3)) m2,sMd (.int m t1) (.int 10 (t+1)) 5]
def EP:Res:=
 run (P2 w f ext n t 0) 181 (ιx 83 0x10020201201000201001001001001001001111153323303033323303033323303033020222201201011) ((Ic t m m2 m3 m4 m5 t1).reverse.map Sp.x) [] 0 0 .tree
  (ent w ext 490 [.int m t1]) [] [] []
theorem pe5_1_v:RvN (EP w f ext n t m m2 m3 m4 m5 t1) [] (.call (.call (.ref 483) ⟨[.int m3 (t+18),.int m5 (t+22),.str ιa 821],[]⟩)) 0 5 23 [] (Ic t m m2 m3 m4 m5 t1):=by rcases f with⟨_ | _,_,_⟩ <;> kernel_rfl
noncomputable abbrev GZ:List Sp:=[Am "str.__add__" ⟨[.str ⟨⟨[92]⟩⟩ (t+14),.str ⟨#[]⟩ (t+24)],[]⟩ (.str ⟨⟨[92]⟩⟩ (t+14)),spStr "str.__mul__" ⟨[.str {cps:={toList:=[34]}} (t+19),.int 0 (t+23)],[]⟩ ⟨#[]⟩,sMd (.int m3 (t+21)) (.int 2 (t+22)) 0,sFd (.int m2 (t+4)) (.int 5 (t+20)) m3,Am "str.__mul__" ⟨[.str {cps:={toList:=[92]}} (t+14),.int (1+0) (t+18)],[]⟩ (.str ⟨⟨[92]⟩⟩ (t+14)),sMd (.int m2 (t+4)) (.int 5 (t+16)) 0,sFd (.int m t1) (.int 10 (t+3)) m2,sMd (.int m t1) (.int 10 (t+1)) 6]
def pe6_00:Res:=
 run (P2 w f ext n t 0) 199 (ιx 89 0x20200020201200000201001001001001001001001111153323303033323303033323303033020222201201011) ((GZ t m m2 m3 t1).reverse.map Sp.x) [] 0 0 .tree
  (ent w ext 490 [.int m t1]) [] [] []
theorem pe6_00_v:RvD (pe6_00 w f ext n t m m2 m3 t1) [] (.done (.ok (.ret (.str ⟨⟨[92]⟩⟩ (t+14))))) 0 5 25 [] (GZ t m m2 m3 t1):=by rcases f with⟨_ | _,_,_⟩ <;> kernel_rfl
noncomputable abbrev GY:List Sp:=[spStr "str.__add__" ⟨[.str ⟨⟨[92]⟩⟩ (t+14),.str ⟨⟨[34]⟩⟩ (t+19)],[]⟩ (⟨⟨[92]⟩⟩++⟨⟨[34]⟩⟩),Am "str.__mul__" ⟨[.str {cps:={toList:=[34]}} (t+19),.int 1 (t+23)],[]⟩ (.str ⟨⟨[34]⟩⟩ (t+19)),sMd (.int m3 (t+21)) (.int 2 (t+22)) 1,sFd (.int m2 (t+4)) (.int 5 (t+20)) m3,Am "str.__mul__" ⟨[.str {cps:={toList:=[92]}} (t+14),.int (1+0) (t+18)],[]⟩ (.str ⟨⟨[92]⟩⟩ (t+14)),sMd (.int m2 (t+4)) (.int 5 (t+16)) 0,sFd (.int m t1) (.int 10 (t+3)) m2,sMd (.int m t1) (.int 10 (t+1)) 6]
def pe6_01:Res:=
 run (P2 w f ext n t 0) 199 (ιx 89 0x20200020201200000201001001001001001001001111153323303033323303033323303033020222201201011) ((GY t m m2 m3 t1).reverse.map Sp.x) [] 0 0 .tree
  (ent w ext 490 [.int m t1]) [] [] []
theorem pe6_01_v:RvD (pe6_01 w f ext n t m m2 m3 t1) [] (.done (.ok (.ret (.str (⟨⟨[92]⟩⟩++⟨⟨[34]⟩⟩) (t+24))))) 0 5 25 [] (GY t m m2 m3 t1):=by rcases f with⟨_ | _,_,_⟩ <;> kernel_rfl
noncomputable abbrev GX:List Sp:=[Am "str.__add__" ⟨[.str sg (t+19),.str {cps:=#[]} (t+25)],[]⟩ (.str sg (t+19)),spStr "str.__mul__" ⟨[.str {cps:={toList:=[34]}} (t+20),.int 0 (t+24)],[]⟩ ⟨#[]⟩,sMd (.int m3 (t+22)) (.int 2 (t+23)) 0,sFd (.int m2 (t+4)) (.int 5 (t+21)) m3,spStr "str.__mul__" ⟨[.str {cps:={toList:=[92]}} (t+14),.int m5 (t+18)],[]⟩ sg,sAd (.int 1 (t+15)) (.int m4 (t+17)) m5,sMd (.int m2 (t+4)) (.int 5 (t+16)) m4,sFd (.int m t1) (.int 10 (t+3)) m2,sMd (.int m t1) (.int 10 (t+1)) 6]
def pe6_10:Res:=
 run (P2 w f ext n t 0) 197 (ιx 89 0x20200020201200020201001001001001001001001111153323303033323303033323303033020222201201011) ((GX t m m2 m3 m4 m5 t1 sg).reverse.map Sp.x) [] 0 0 .tree
  (ent w ext 490 [.int m t1]) [] [] []
theorem pe6_10_v:RvD (pe6_10 w f ext n t m m2 m3 m4 m5 t1 sg) [] (.done (.ok (.ret (.str sg (t+19))))) 0 5 26 [] (GX t m m2 m3 m4 m5 t1 sg):=by rcases f with⟨_ | _,_,_⟩ <;> kernel_rfl
noncomputable abbrev GW:List Sp:=[spStr "str.__add__" ⟨[.str sg (t+19),.str ⟨⟨[34]⟩⟩ (t+20)],[]⟩ (sg++⟨⟨[34]⟩⟩),Am "str.__mul__" ⟨[.str {cps:={toList:=[34]}} (t+20),.int 1 (t+24)],[]⟩ (.str ⟨⟨[34]⟩⟩ (t+20)),sMd (.int m3 (t+22)) (.int 2 (t+23)) 1,sFd (.int m2 (t+4)) (.int 5 (t+21)) m3,spStr "str.__mul__" ⟨[.str {cps:={toList:=[92]}} (t+14),.int m5 (t+18)],[]⟩ sg,sAd (.int 1 (t+15)) (.int m4 (t+17)) m5,sMd (.int m2 (t+4)) (.int 5 (t+16)) m4,sFd (.int m t1) (.int 10 (t+3)) m2,sMd (.int m t1) (.int 10 (t+1)) 6]
def pe6_11:Res:=
 run (P2 w f ext n t 0) 197 (ιx 89 0x20200020201200020201001001001001001001001111153323303033323303033323303033020222201201011) ((GW t m m2 m3 m4 m5 t1 sg).reverse.map Sp.x) [] 0 0 .tree
  (ent w ext 490 [.int m t1]) [] [] []
theorem pe6_11_v:RvD (pe6_11 w f ext n t m m2 m3 m4 m5 t1 sg) [] (.done (.ok (.ret (.str (sg++⟨⟨[34]⟩⟩) (t+25))))) 0 5 26 [] (GW t m m2 m3 m4 m5 t1 sg):=by rcases f with⟨_ | _,_,_⟩ <;> kernel_rfl
end
section
variable(w:World)(f:Fl)(ext:Addr→Option Obj)(n t:Nat)(m m2 m3 m4 m5:Int)(t1:Nat)(sg:Str)(n2 u2 tk:Nat)
noncomputable abbrev Hc:List Sp:=[spStr "str.__add__" ⟨[.str (Str.ofString "\\u") (t+(0+1+1+(BF "int.__mod__" {pos:=[Value.int m t1,.int 10 (t+1)]} 5).x.dk+1+(BF "int.__floordiv__" {pos:=[Value.int m t1,.int 10 (t+3)]} m2).x.dk+1+1+1+1+1+1+1+1+1+(BF "int.__mod__" {pos:=[Value.int m2 (t+4),.int 2 (t+13)]} 0).x.dk+1)),.str sg tk],[]⟩ (⟨⟨[92,117]⟩⟩++sg)]
def pe5_0r:Res:=
 run (P2 w f ext n2 u2 0) 16 [0,2] ((Hc t m m2 t1 sg tk).reverse.map Sp.x) [] 0 0 ((EQ w f ext n t m m2 m3 m4 m5 t1).ko)
  ((EQ w f ext n t m m2 m3 m4 m5 t1).kk (.ok (.ret (.str sg tk)))) [] [] []
theorem pe5_0r_v:RvD (pe5_0r w f ext n t m m2 m3 m4 m5 t1 sg n2 u2 tk) [] (.done (.ok (.ret (.str (⟨⟨[92,117]⟩⟩++sg) (u2+0))))) 0 0 1 [] (Hc t m m2 t1 sg tk):=by rcases f with⟨_ | _,_,_⟩ <;> kernel_rfl
noncomputable abbrev Hd:List Sp:=[Am "str.__add__" ⟨[.str (Str.ofString "\\u") (t+(0+1+1+(BF "int.__mod__" {pos:=[Value.int m t1,.int 10 (t+1)]} 5).x.dk+1+(BF "int.__floordiv__" {pos:=[Value.int m t1,.int 10 (t+3)]} m2).x.dk+1+1+1+1+1+1+1+1+1+(BF "int.__mod__" {pos:=[Value.int m2 (t+4),.int 2 (t+13)]} 0).x.dk+1)),.str {cps:=#[]} tk],[]⟩ (.str ⟨⟨[92,117]⟩⟩ (t+(0+1+1+(BF "int.__mod__" {pos:=[Value.int m t1,.int 10 (t+1)]} 5).x.dk+1+(BF "int.__floordiv__" {pos:=[Value.int m t1,.int 10 (t+3)]} m2).x.dk+1+1+1+1+1+1+1+1+1+(BF "int.__mod__" {pos:=[Value.int m2 (t+4),.int 2 (t+13)]} 0).x.dk+1)))]
def pe5_0e:Res:=
 run (P2 w f ext n2 u2 0) 16 [0,2] ((Hd t m m2 t1 tk).reverse.map Sp.x) [] 0 0 ((EQ w f ext n t m m2 m3 m4 m5 t1).ko)
  ((EQ w f ext n t m m2 m3 m4 m5 t1).kk (.ok (.ret (.str ⟨#[]⟩ tk)))) [] [] []
theorem pe5_0e_v:RvD (pe5_0e w f ext n t m m2 m3 m4 m5 t1 n2 u2 tk) [] (.done (.ok (.ret (.str ⟨⟨[92,117]⟩⟩ (t+16))))) 0 0 0 [] (Hd t m m2 t1 tk):=by rcases f with⟨_ | _,_,_⟩ <;> kernel_rfl
noncomputable abbrev Ha:List Sp:=[spStr "str.__add__" ⟨[.str (Str.ofString "\\U") (t+(0+1+1+(BF "int.__mod__" {pos:=[Value.int m t1,.int 10 (t+1)]} 5).x.dk+1+(BF "int.__floordiv__" {pos:=[Value.int m t1,.int 10 (t+3)]} m2).x.dk+1+1+1+1+1+1+1+1+1+(BF "int.__mod__" {pos:=[Value.int m2 (t+4),.int 2 (t+13)]} 1).x.dk+1)),.str sg tk],[]⟩ (⟨⟨[92,85]⟩⟩++sg)]
def pe5_1r:Res:=
 run (P2 w f ext n2 u2 0) 16 [0,2] ((Ha t m m2 t1 sg tk).reverse.map Sp.x) [] 0 0 ((EP w f ext n t m m2 m3 m4 m5 t1).ko)
  ((EP w f ext n t m m2 m3 m4 m5 t1).kk (.ok (.ret (.str sg tk)))) [] [] []
theorem pe5_1r_v:RvD (pe5_1r w f ext n t m m2 m3 m4 m5 t1 sg n2 u2 tk) [] (.done (.ok (.ret (.str (⟨⟨[92,85]⟩⟩++sg) (u2+0))))) 0 0 1 [] (Ha t m m2 t1 sg tk):=by rcases f with⟨_ | _,_,_⟩ <;> kernel_rfl
noncomputable abbrev Hb:List Sp:=[Am "str.__add__" ⟨[.str (Str.ofString "\\U") (t+(0+1+1+(BF "int.__mod__" {pos:=[Value.int m t1,.int 10 (t+1)]} 5).x.dk+1+(BF "int.__floordiv__" {pos:=[Value.int m t1,.int 10 (t+3)]} m2).x.dk+1+1+1+1+1+1+1+1+1+(BF "int.__mod__" {pos:=[Value.int m2 (t+4),.int 2 (t+13)]} 1).x.dk+1)),.str {cps:=#[]} tk],[]⟩ (.str ⟨⟨[92,85]⟩⟩ (t+(0+1+1+(BF "int.__mod__" {pos:=[Value.int m t1,.int 10 (t+1)]} 5).x.dk+1+(BF "int.__floordiv__" {pos:=[Value.int m t1,.int 10 (t+3)]} m2).x.dk+1+1+1+1+1+1+1+1+1+(BF "int.__mod__" {pos:=[Value.int m2 (t+4),.int 2 (t+13)]} 1).x.dk+1)))]
def pe5_1e:Res:=
 run (P2 w f ext n2 u2 0) 16 [0,2] ((Hb t m m2 t1 tk).reverse.map Sp.x) [] 0 0 ((EP w f ext n t m m2 m3 m4 m5 t1).ko)
  ((EP w f ext n t m m2 m3 m4 m5 t1).kk (.ok (.ret (.str ⟨#[]⟩ tk)))) [] [] []
theorem pe5_1e_v:RvD (pe5_1e w f ext n t m m2 m3 m4 m5 t1 n2 u2 tk) [] (.done (.ok (.ret (.str ⟨⟨[92,85]⟩⟩ (t+16))))) 0 0 0 [] (Hb t m m2 t1 tk):=by rcases f with⟨_ | _,_,_⟩ <;> kernel_rfl
end
theorem p5_0_h(w:World)(f:Fl)(ext:Addr→Option Obj)(n t:Nat)(m m2 m3 m4 m5 m6 m7:Int)(t1:Nat)(sg:Str):AE none (EQ w f ext n t m m2 m3 m4 m5 t1).ko=none:=by rcases f with⟨_ | _,_,_⟩ <;> kernel_rfl
theorem p5_0_d(w:World)(f:Fl)(ext:Addr→Option Obj)(n t:Nat)(m m2 m3 m4 m5 m6 m7:Int)(t1:Nat)(sg:Str):Nat.ble (AX (EQ w f ext n t m m2 m3 m4 m5 t1).ko) 20=true:=by rcases f with⟨_ | _,_,_⟩ <;> kernel_rfl
theorem p5_0_l(w:World)(f:Fl)(ext:Addr→Option Obj)(n t:Nat)(m m2 m3 m4 m5 m6 m7:Int)(t1:Nat)(sg:Str):Nat.ble (Cn (EQ w f ext n t m m2 m3 m4 m5 t1).ko) 20=true:=by rcases f with⟨_ | _,_,_⟩ <;> kernel_rfl
theorem p5_1_h(w:World)(f:Fl)(ext:Addr→Option Obj)(n t:Nat)(m m2 m3 m4 m5 m6 m7:Int)(t1:Nat)(sg:Str):AE none (EP w f ext n t m m2 m3 m4 m5 t1).ko=none:=by rcases f with⟨_ | _,_,_⟩ <;> kernel_rfl
theorem p5_1_d(w:World)(f:Fl)(ext:Addr→Option Obj)(n t:Nat)(m m2 m3 m4 m5 m6 m7:Int)(t1:Nat)(sg:Str):Nat.ble (AX (EP w f ext n t m m2 m3 m4 m5 t1).ko) 20=true:=by rcases f with⟨_ | _,_,_⟩ <;> kernel_rfl
theorem p5_1_l(w:World)(f:Fl)(ext:Addr→Option Obj)(n t:Nat)(m m2 m3 m4 m5 m6 m7:Int)(t1:Nat)(sg:Str):Nat.ble (Cn (EP w f ext n t m m2 m3 m4 m5 t1).ko) 20=true:=by rcases f with⟨_ | _,_,_⟩ <;> kernel_rfl
section
variable(w:World)(f:Fl)(ext:Addr→Option Obj)(n t:Nat)(m m2 m3 m4 m5:Int)(t1:Nat)
theorem pd1_h:AE none (pd1 w f ext n t m m2 m3 m4 m5 t1).ko=none:=by rcases f with⟨_ | _,_,_⟩ <;> kernel_rfl
theorem pd1_d:Nat.ble (AX (pd1 w f ext n t m m2 m3 m4 m5 t1).ko) 20=true:=by rcases f with⟨_ | _,_,_⟩ <;> kernel_rfl
theorem pd1_l:Nat.ble (Cn (pd1 w f ext n t m m2 m3 m4 m5 t1).ko) 20=true:=by rcases f with⟨_ | _,_,_⟩ <;> kernel_rfl
theorem pd3_h:AE none (pd3 w f ext n t m m2 m3 m4 m5 t1).ko=none:=by rcases f with⟨_ | _,_,_⟩ <;> kernel_rfl
theorem pd3_d:Nat.ble (AX (pd3 w f ext n t m m2 m3 m4 m5 t1).ko) 20=true:=by rcases f with⟨_ | _,_,_⟩ <;> kernel_rfl
theorem pd3_l:Nat.ble (Cn (pd3 w f ext n t m m2 m3 m4 m5 t1).ko) 20=true:=by rcases f with⟨_ | _,_,_⟩ <;> kernel_rfl
theorem pd4_h:AE none (pd4 w f ext n t m m2 m3 m4 t1).ko=none:=by rcases f with⟨_ | _,_,_⟩ <;> kernel_rfl
theorem pd4_d:Nat.ble (AX (pd4 w f ext n t m m2 m3 m4 t1).ko) 20=true:=by rcases f with⟨_ | _,_,_⟩ <;> kernel_rfl
theorem pd4_l:Nat.ble (Cn (pd4 w f ext n t m m2 m3 m4 t1).ko) 20=true:=by rcases f with⟨_ | _,_,_⟩ <;> kernel_rfl
theorem pd8_h:AE none (pd8 w f ext n t m m2 m3 m4 t1).ko=none:=by rcases f with⟨_ | _,_,_⟩ <;> kernel_rfl
theorem pd8_d:Nat.ble (AX (pd8 w f ext n t m m2 m3 m4 t1).ko) 20=true:=by rcases f with⟨_ | _,_,_⟩ <;> kernel_rfl
theorem pd8_l:Nat.ble (Cn (pd8 w f ext n t m m2 m3 m4 t1).ko) 20=true:=by rcases f with⟨_ | _,_,_⟩ <;> kernel_rfl
end
section
variable{w:World}{ext:Addr→Option Obj}
theorem HP(tab:Str):∀ n m,(sgL tab n m).length=n
 | 0,_=>rfl
 | n+1,m=>by rw [sgL,List.length_cons,HP tab n]
theorem Fe{x:Str}(h:x.cps.toList=[]):x=⟨#[]⟩:=by
 obtain⟨⟨l⟩⟩:=x
 cases h
 rfl
theorem str_len{x:Str}{l:List Nat}(h:x.cps.toList=l):x.length=l.length:=by rw [←h]; exact Array.length_toList.symm
variable{P:Par}{g:Bq}{U D:Nat}
theorem AC{m T t u:Nat}{v:Int}(hP:∀ b,P.n≤b→P.look b=none)(hT:0<T)(h:((m%T:Nat):Int)=v):AK P g U D (sMd (.int (m:Nat) t) (.int (T:Nat) u) v):=h▸CL hP hT
theorem Bj{a b t u:Nat}{v:Int}(hP:∀ b,P.n≤b→P.look b=none)(h1:a+b<1000000)(h:((a+b:Nat):Int)=v):AK P g U D (sAd (.int (a:Nat) t) (.int (b:Nat) u) v):=
 Hg hP F.entry_int_add (by decide +kernel) (by rw [←h]; exact AutoIntG4.int___add___int_int_0 _ _ _ _)
noncomputable def PcR(R:Result→Shared→Prop)(st:Shared):Prop:=∀ s' tk (ty:Str),Aft [] st s'→ty.length≤12→R (.ok (.ret (.str ty tk))) s'
theorem BG(W:Ae w){A:Around}{st:Shared}(hA:Ar A 300)(S:Ak w ext st){a:Value}{R0:Res}{fuel:Nat}{hs:List Nat}{as:List Ans}{dep envs hd m' k'}{vs:List Sp}{ty:Str}{tk:Nat}
  (hv:R0.rv 30 30 []=⟨R0.exp,.done (.ok (.ret (.str ty tk))),0,dep,envs,hd,m',k',[],vs.map Sp.view,true⟩) (hR:run (P2 w (Ax w) ext st.heap.objs.size st.toks 0) fuel hs as [] 0 0 .tree (ent w ext 490 [a]) [] [] []=R0)
  (ho:∀ v∈vs,AK (P2 w (Ax w) ext st.heap.objs.size st.toks 0) (Av pr2 w A R) 30 30 v) (hz:ty.length≤12) (h:PcR R st):codeAny (model pr2 w) A (.call (.ref 490) ⟨[a],[]⟩) R st:=
 Bv S (BA w ext 490 (by rfl)) (by have:=hA.depth; exact ω03 this)
  (Aw (g:=Av pr2 w A R) (BC W S hA (by decide)) hR hv ho (Inv.MH S (reads:=[]) (pre:=[]) Aa ιN Aa (by simp) Aa) fun s' I' _=>h s' tk ty I'.aft hz)
theorem DM(W:Ae w){A:Around}{st:Shared}(hA:Ar A 300)(S:Ak w ext st){a:Value}{R0:Res}{fuel:Nat}{hs:List Nat}{as:List Ans}{envs m' k'}{vs:List Sp}{mm nn ta tb tc:Nat}{tab:Str}
  (hv:R0.rv 30 30 []=⟨R0.exp,.call (.call (.ref 483) ⟨[.int (mm:Nat) ta,.int (nn:Nat) tb,.str tab tc],[]⟩),0,AX R0.ko,envs,none,m',k',[],vs.map Sp.view,true⟩) (hR:run (P2 w (Ax w) ext st.heap.objs.size st.toks 0) fuel hs as [] 0 0 .tree (ent w ext 490 [a]) [] [] []=R0)
  (hh:AE none R0.ko=none) (hd:Nat.ble (AX R0.ko) 20=true) (hl:Nat.ble (Cn R0.ko) 20=true) (ho:∀ v∈vs,AK (P2 w (Ax w) ext st.heap.objs.size st.toks 0) (Av pr2 w A R) 30 30 v) (hT:0<tab.length) (hT2:tab.length<1000) (hn:nn≤900)
  (h:∀ s' tk (ty:Str),Aft [] st s'→Ak w ext s'→ty.length=nn→Bn (Av pr2 w A R) R0.ko (R0.kk (.ok (.ret (.str ty tk)))) s'):codeAny (model pr2 w) A (.call (.ref 490) ⟨[a],[]⟩) R st:=by
 refine Bv S (BA w ext 490 (by rfl)) (by have:=hA.depth; exact ω03 this) ?_
 refine CJ (g:=Av pr2 w A R) (BC W S hA (by decide)) hR hv hh ho (Inv.MH S (reads:=[]) (pre:=[]) Aa ιN Aa (by simp) Aa) fun A1 s1 hd1 hu1 hh1 hf1 I1 _=>?_
 have q1:=Nat.le_of_ble_eq_true hd
 have q2:=Nat.le_of_ble_eq_true hl
 have hA1:Ar A1 200:=⟨hh1.trans hA.handled,by
  have:=hA.depth
  have h1:A1.depth≤max A.depth A.depth+_:=hd1
  exact ω4i q1 this h1,by
  have:=hA.units
  have h1:A1.units≤max (A.units+1) A.units+10*Cn R0.ko:=hu1
  exact ω4j q2 this h1⟩
 have S1:Ak w ext s1:=S.aft I1.aft (fun a ha=>nomatch ha)
 exact sg_con W hA1 S1 hT hT2 hn fun s2 tk ty a2 e=>h s2 tk ty (I1.aft.trans a2) (S1.aft a2 (fun a ha=>nomatch ha)) (by rw [str_len e,HP])
theorem Cl(W:Ae w){A:Around}{st s:Shared}(hA:Ar A 300)(S:Ak w ext s){κ:Ko}{t:Sem PySem.Fin}{R0:Res}{fuel:Nat}{hs:List Nat}{as:List Ans}{dep envs hd m' k'}{vs:List Sp}{ty:Str}{tk:Nat}
  (hv:R0.rv 30 30 []=⟨R0.exp,.done (.ok (.ret (.str ty tk))),0,dep,envs,hd,m',k',[],vs.map Sp.view,true⟩) (hR:run (P2 w (Ax w) ext s.heap.objs.size s.toks 0) fuel hs as [] 0 0 κ t [] [] []=R0)
  (ho:∀ v∈vs,AK (P2 w (Ax w) ext s.heap.objs.size s.toks 0) (Av pr2 w A R) 30 30 v) (hz:ty.length≤12) (a:Aft [] st s) (h:PcR R st):Bn (Av pr2 w A R) κ t s:=
 Aw (g:=Av pr2 w A R) (BC W S hA (by decide)) hR hv ho (Inv.MH S (reads:=[]) (pre:=[]) Aa ιN Aa (by simp) Aa) fun s' I' _=>h s' tk ty (a.trans I'.aft) hz
end
section
variable{w:World}{ext:Addr→Option Obj}{A:Around}{st:Shared}{R:Result→Shared→Prop}
theorem Ay{a:Nat}{z:Nat}(h:a=z):((a:Nat):Int)=(z:Nat):=by rw [h]
theorem pk0(W:Ae w)(hA:Ar A 300)(S:Ak w ext st){n t1:Nat}(e:n%10=0)(h:PcR R st):codeAny (model pr2 w) A (.call (.ref 490) ⟨[.int (n:Nat) t1],[]⟩) R st:=by
 have c:n/10%4=0∨n/10%4=1∨n/10%4=2∨n/10%4=3:=ω4k
 rcases c with c | c | c | c
 ·exact BG W hA S (pc0_0_v _ _ _ _ _ n ((n/10:Nat):Int) t1) rfl (ζ3 (AC S.new (by decide) (Ay c)) (Be S.new (by decide) (by decide)) (AC S.new (by decide) (Ay e))) (by decide) h
 ·exact BG W hA S (pc0_1_v _ _ _ _ _ n ((n/10:Nat):Int) t1) rfl (ζ3 (AC S.new (by decide) (Ay c)) (Be S.new (by decide) (by decide)) (AC S.new (by decide) (Ay e))) (by decide) h
 ·exact BG W hA S (pc0_2_v _ _ _ _ _ n ((n/10:Nat):Int) t1) rfl (ζ3 (AC S.new (by decide) (Ay c)) (Be S.new (by decide) (by decide)) (AC S.new (by decide) (Ay e))) (by decide) h
 ·exact BG W hA S (pc0_3_v _ _ _ _ _ n ((n/10:Nat):Int) t1) rfl (ζ3 (AC S.new (by decide) (Ay c)) (Be S.new (by decide) (by decide)) (AC S.new (by decide) (Ay e))) (by decide) h
theorem DP{P:Par}{g:Bq}{U D:Nat}{x:Str}{t u:Nat}(hP:∀ b,P.n≤b→P.look b=none)(h1:0<x.length):AK P g U D (Am "str.__add__" ⟨[.str x t,.str ⟨#[]⟩ u],[]⟩ (.str x t)):=
 E0 hP F.entry_str_add (by decide +kernel) (by
  have e1:(x.length == 0)=false:=by simp; exact ω44 h1
  have:=gives_str_add x ⟨#[]⟩ t u
  rw [e1] at this
  exact this)
theorem FD{z:Int}(h0:0≤z)(h:z<1000000):(decide (z < -(2 ^ 63:Int))||decide (z≥2 ^ 63))=false:=by
 have a:¬ z < -(2 ^ 63:Int):=Int.not_lt.mpr (Int.le_trans (by decide:-(2 ^ 63:Int)≤0) h0)
 have b:¬ z≥(2 ^ 63:Int):=Int.not_le.mpr (Int.lt_of_lt_of_le h (by decide:(1000000:Int)≤2 ^ 63))
 rw [decide_eq_false a,decide_eq_false b]; rfl
theorem GC{P:Par}{g:Bq}{U D:Nat}{x:Str}{t u:Nat}{z:Int}(hP:∀ b,P.n≤b→P.look b=none)(hz:z=1):AK P g U D (Am "str.__mul__" ⟨[.str x t,.int z u],[]⟩ (.str x t)):=by
 subst hz
 refine E0 hP F.entry_str_mul (by decide +kernel) ?_
 have:=gives_str_mul x 1 t u (FD (by decide) (by decide)) (fun _ h=>by simp at h) (fun _ h=>by simp at h)
 exact this
theorem Ji{P:Par}{g:Bq}{U D:Nat}{x:Str}{t u:Nat}(hP:∀ b,P.n≤b→P.look b=none):AK P g U D (spStr "str.__mul__" ⟨[.str x t,.int 0 u],[]⟩ ⟨#[]⟩):=by
 refine Iq hP F.entry_str_mul (by decide +kernel) ?_ (by decide)
 have:=gives_str_mul x 0 t u (FD (by decide) (by decide)) (fun h=>absurd (by decide) h) (fun h=>absurd (by decide) h)
 exact this
noncomputable def GV(x:Str)(k:Nat):Str:=⟨(List.replicate k x.cps).foldl (·++·) #[]⟩
theorem GU(x:Str)(k:Nat):(GV x k).length=k*x.length:=by
 have key:∀ k (a:Array Nat),((List.replicate k x.cps).foldl (·++·) a).size=a.size+k*x.cps.size:=by
  intro k
  induction k with
  | zero=>intro a; simp
  | succ k ih=>intro a; rw [List.replicate_succ,List.foldl_cons,ih,Array.size_append,Nat.succ_mul]; exact ω4l
 have:=key k #[]
 show((List.replicate k x.cps).foldl (·++·) #[]).size=k*x.cps.size
 rw [this,Array.size_empty,Nat.zero_add]
theorem Jh{P:Par}{g:Bq}{U D:Nat}{k t u:Nat}(hP:∀ b,P.n≤b→P.look b=none)(h2:2≤k)(h:k≤9):AK P g U D (spStr "str.__mul__" ⟨[.str ⟨⟨[92]⟩⟩ t,.int (k:Nat) u],[]⟩ (GV ⟨⟨[92]⟩⟩ k)):=by
 have hl:=GU ⟨⟨[92]⟩⟩ k
 have hl':(GV ⟨⟨[92]⟩⟩ k).length=k:=by rw [hl]; exact Nat.mul_one k
 have hsz:=sZ
 refine Iq hP F.entry_str_mul (by decide +kernel) ?_ (ω4m h hl' hsz)
 have a1:¬ ((k:Nat):Int)<1:=ω4n h2
 have a2:((((k:Nat):Int) == 1)||((⟨⟨[92]⟩⟩:Str).length == 0))=false:=by
  have:(((k:Nat):Int) == 1)=false:=by simp; exact ω4o h2
  rw [this]; rfl
 have:=gives_str_mul ⟨⟨[92]⟩⟩ (k:Nat) t u (FD (ω43) (ω4p h)) (fun _ _=>by
  have c:k=2∨k=3∨k=4∨k=5∨k=6∨k=7∨k=8∨k=9:=ω4q h2 h
  rcases c with c | c | c | c | c | c | c | c <;> subst c <;> decide) (fun _ _=>by
  have c:k=2∨k=3∨k=4∨k=5∨k=6∨k=7∨k=8∨k=9:=ω4q h2 h
  rcases c with c | c | c | c | c | c | c | c <;> subst c <;> decide)
 rw [if_neg a1,a2] at this
 exact this
theorem pk2(W:Ae w)(hA:Ar A 300)(S:Ak w ext st){n t1:Nat}(e:n%10=2)(h:PcR R st):codeAny (model pr2 w) A (.call (.ref 490) ⟨[.int (n:Nat) t1],[]⟩) R st:=by
 have hl:(⟨⟨[92]⟩⟩++⟨#[(ιb:Str).cps.getD (n/10%12) 0]⟩:Str).length=2:=CE ..
 exact BG W hA S (pc2_v _ _ _ _ _ n ((n/10:Nat):Int) ((n/10%12:Nat):Int) t1 ⟨#[(ιb:Str).cps.getD (n/10%12) 0]⟩) rfl (ζ5 (BY S.new (by decide) (Nat.succ_pos 0) (by rw [hl]; decide)) (BS S.new (Nat.mod_lt _ (by decide)) (by decide)) (CL S.new (by decide)) (Be S.new (by decide) (by decide)) (AC S.new (by decide) (Ay e))) (by rw [hl]; decide) h
theorem pk7(W:Ae w)(hA:Ar A 300)(S:Ak w ext st){n t1:Nat}(e:n%10=7)(h:PcR R st):codeAny (model pr2 w) A (.call (.ref 490) ⟨[.int (n:Nat) t1],[]⟩) R st:=by
 have hl:(⟨⟨[92]⟩⟩++⟨#[(ιi:Str).cps.getD (n/10%12) 0]⟩:Str).length=2:=CE ..
 exact BG W hA S (pc7_v _ _ _ _ _ n ((n/10:Nat):Int) ((n/10%12:Nat):Int) t1 ⟨#[(ιi:Str).cps.getD (n/10%12) 0]⟩) rfl (ζ5 (BY S.new (by decide) (Nat.succ_pos 0) (by rw [hl]; decide)) (BS S.new (Nat.mod_lt _ (by decide)) (by decide)) (CL S.new (by decide)) (Be S.new (by decide) (by decide)) (AC S.new (by decide) (Ay e))) (by rw [hl]; decide) h
theorem pk9(W:Ae w)(hA:Ar A 300)(S:Ak w ext st){n t1:Nat}(e:n%10=9)(h:PcR R st):codeAny (model pr2 w) A (.call (.ref 490) ⟨[.int (n:Nat) t1],[]⟩) R st:=by
 have c:n/10%4=0∨n/10%4=1∨n/10%4=2∨n/10%4=3:=ω4k
 rcases c with c | c | c | c
 ·exact BG W hA S (pc9_0_v _ _ _ _ _ n ((n/10:Nat):Int) t1) rfl (ζ4 (BY S.new (by decide) (by decide) (by decide)) (AC S.new (by decide) (Ay c)) (Be S.new (by decide) (by decide)) (AC S.new (by decide) (Ay e))) (by decide) h
 ·exact BG W hA S (pc9_1_v _ _ _ _ _ n ((n/10:Nat):Int) t1) rfl (ζ4 (BY S.new (by decide) (by decide) (by decide)) (AC S.new (by decide) (Ay c)) (Be S.new (by decide) (by decide)) (AC S.new (by decide) (Ay e))) (by decide) h
 ·exact BG W hA S (pc9_2_v _ _ _ _ _ n ((n/10:Nat):Int) t1) rfl (ζ4 (BY S.new (by decide) (by decide) (by decide)) (AC S.new (by decide) (Ay c)) (Be S.new (by decide) (by decide)) (AC S.new (by decide) (Ay e))) (by decide) h
 ·exact BG W hA S (pc9_3_v _ _ _ _ _ n ((n/10:Nat):Int) t1) rfl (ζ4 (BY S.new (by decide) (by decide) (by decide)) (AC S.new (by decide) (Ay c)) (Be S.new (by decide) (by decide)) (AC S.new (by decide) (Ay e))) (by decide) h
theorem pk1(W:Ae w)(hA:Ar A 300)(S:Ak w ext st){n t1:Nat}(e:n%10=1)(h:PcR R st):codeAny (model pr2 w) A (.call (.ref 490) ⟨[.int (n:Nat) t1],[]⟩) R st:=by
 refine DM W hA S (pd1_v _ _ _ _ _ n ((n/10:Nat):Int) ((n/10/3:Nat):Int) ((n/10%3:Nat):Int) ((1+n/10%3:Nat):Int) t1) rfl (pd1_h w (Ax w) ext st.heap.objs.size st.toks n ((n/10:Nat):Int) ((n/10/3:Nat):Int) ((n/10%3:Nat):Int) ((1+n/10%3:Nat):Int) t1) (pd1_d w (Ax w) ext st.heap.objs.size st.toks n ((n/10:Nat):Int) ((n/10/3:Nat):Int) ((n/10%3:Nat):Int) ((1+n/10%3:Nat):Int) t1) (pd1_l w (Ax w) ext st.heap.objs.size st.toks n ((n/10:Nat):Int) ((n/10/3:Nat):Int) ((n/10%3:Nat):Int) ((1+n/10%3:Nat):Int) t1) (ζ5 (Bj (a:=1) S.new (ω4r) rfl) (CL S.new (by decide)) (Be S.new (by decide) (by decide)) (Be S.new (by decide) (by decide)) (AC S.new (by decide) (Ay e))) (by decide) (by decide) (ω4s) fun s' tk ty a S' hl=>?_
 exact Cl W hA S' (pd1r_v _ _ _ _ _ n ((n/10:Nat):Int) ((n/10/3:Nat):Int) ((n/10%3:Nat):Int) ((1+n/10%3:Nat):Int) t1 s'.heap.objs.size s'.toks tk ty) rfl (vs:=[]) Aa (ω4t hl) a h
theorem pk3(W:Ae w)(hA:Ar A 300)(S:Ak w ext st){n t1:Nat}(e:n%10=3)(h:PcR R st):codeAny (model pr2 w) A (.call (.ref 490) ⟨[.int (n:Nat) t1],[]⟩) R st:=by
 refine DM W hA S (pd3_v _ _ _ _ _ n ((n/10:Nat):Int) ((n/10/4:Nat):Int) ((n/10%4:Nat):Int) ((1+n/10%4:Nat):Int) t1) rfl (pd3_h w (Ax w) ext st.heap.objs.size st.toks n ((n/10:Nat):Int) ((n/10/4:Nat):Int) ((n/10%4:Nat):Int) ((1+n/10%4:Nat):Int) t1) (pd3_d w (Ax w) ext st.heap.objs.size st.toks n ((n/10:Nat):Int) ((n/10/4:Nat):Int) ((n/10%4:Nat):Int) ((1+n/10%4:Nat):Int) t1) (pd3_l w (Ax w) ext st.heap.objs.size st.toks n ((n/10:Nat):Int) ((n/10/4:Nat):Int) ((n/10%4:Nat):Int) ((1+n/10%4:Nat):Int) t1) (ζ5 (Bj (a:=1) S.new (ω4u) rfl) (CL S.new (by decide)) (Be S.new (by decide) (by decide)) (Be S.new (by decide) (by decide)) (AC S.new (by decide) (Ay e))) (by decide) (by decide) (ω4v) fun s' tk ty a S' hl=>?_
 have hq:(⟨⟨[92]⟩⟩++ty:Str).length=1+ty.length:=CE ..
 have hsz:=sZ
 exact Cl W hA S' (pd3r_v _ _ _ _ _ n ((n/10:Nat):Int) ((n/10/4:Nat):Int) ((n/10%4:Nat):Int) ((1+n/10%4:Nat):Int) t1 s'.heap.objs.size s'.toks tk ty) rfl (Ab (BY S'.new (by decide) (ω4w hl) (ω4x hl hq hsz)) Aa) (ω4y hl hq) a h
theorem pk4(W:Ae w)(hA:Ar A 300)(S:Ak w ext st){n t1:Nat}(e:n%10=4)(h:PcR R st):codeAny (model pr2 w) A (.call (.ref 490) ⟨[.int (n:Nat) t1],[]⟩) R st:=by
 refine DM W hA S (pd4_v _ _ _ _ _ n ((n/10:Nat):Int) ((n/10/4:Nat):Int) ((n/10%4:Nat):Int) t1) rfl (pd4_h w (Ax w) ext st.heap.objs.size st.toks n ((n/10:Nat):Int) ((n/10/4:Nat):Int) ((n/10%4:Nat):Int) t1) (pd4_d w (Ax w) ext st.heap.objs.size st.toks n ((n/10:Nat):Int) ((n/10/4:Nat):Int) ((n/10%4:Nat):Int) t1) (pd4_l w (Ax w) ext st.heap.objs.size st.toks n ((n/10:Nat):Int) ((n/10/4:Nat):Int) ((n/10%4:Nat):Int) t1) (ζ4 (CL S.new (by decide)) (Be S.new (by decide) (by decide)) (Be S.new (by decide) (by decide)) (AC S.new (by decide) (Ay e))) (by decide) (by decide) (ω4z) fun s' tk ty a S' hl=>?_
 by_cases hz:ty.length=0
 ·have:ty=⟨#[]⟩:=Fe (List.eq_nil_of_length_eq_zero (by rw [←hz]; exact Array.length_toList))
  subst this
  exact Cl W hA S' (pd4e_v _ _ _ _ _ n ((n/10:Nat):Int) ((n/10/4:Nat):Int) ((n/10%4:Nat):Int) t1 s'.heap.objs.size s'.toks tk) rfl (Ab (DP S'.new (by decide)) Aa) (by decide) a h
 ·have hq:(ιj++ty:Str).length=2+ty.length:=CE ..
  have hsz:=sZ
  exact Cl W hA S' (pd4r_v _ _ _ _ _ n ((n/10:Nat):Int) ((n/10/4:Nat):Int) ((n/10%4:Nat):Int) t1 s'.heap.objs.size s'.toks tk ty) rfl (Ab (BY S'.new (by decide) (ω50 hz) (ω51 hl hq hsz)) Aa) (ω52 hl hq) a h
theorem pk8(W:Ae w)(hA:Ar A 300)(S:Ak w ext st){n t1:Nat}(e:n%10=8)(h:PcR R st):codeAny (model pr2 w) A (.call (.ref 490) ⟨[.int (n:Nat) t1],[]⟩) R st:=by
 refine DM W hA S (pd8_v _ _ _ _ _ n ((n/10:Nat):Int) ((n/10/3:Nat):Int) ((n/10%3:Nat):Int) t1) rfl (pd8_h w (Ax w) ext st.heap.objs.size st.toks n ((n/10:Nat):Int) ((n/10/3:Nat):Int) ((n/10%3:Nat):Int) t1) (pd8_d w (Ax w) ext st.heap.objs.size st.toks n ((n/10:Nat):Int) ((n/10/3:Nat):Int) ((n/10%3:Nat):Int) t1) (pd8_l w (Ax w) ext st.heap.objs.size st.toks n ((n/10:Nat):Int) ((n/10/3:Nat):Int) ((n/10%3:Nat):Int) t1) (ζ4 (CL S.new (by decide)) (Be S.new (by decide) (by decide)) (Be S.new (by decide) (by decide)) (AC S.new (by decide) (Ay e))) (by decide) (by decide) (ω53) fun s' tk ty a S' hl=>?_
 by_cases hz:ty.length=0
 ·have:ty=⟨#[]⟩:=Fe (List.eq_nil_of_length_eq_zero (by rw [←hz]; exact Array.length_toList))
  subst this
  exact Cl W hA S' (pd8e_v _ _ _ _ _ n ((n/10:Nat):Int) ((n/10/3:Nat):Int) ((n/10%3:Nat):Int) t1 s'.heap.objs.size s'.toks tk) rfl (Ab (DP S'.new (by decide)) Aa) (by decide) a h
 ·have hq:(⟨⟨[34]⟩⟩++ty:Str).length=1+ty.length:=CE ..
  have hsz:=sZ
  exact Cl W hA S' (pd8r_v _ _ _ _ _ n ((n/10:Nat):Int) ((n/10/3:Nat):Int) ((n/10%3:Nat):Int) t1 s'.heap.objs.size s'.toks tk ty) rfl (Ab (BY S'.new (by decide) (ω50 hz) (ω54 hl hq hsz)) Aa) (ω55 hl hq) a h
theorem pk5(W:Ae w)(hA:Ar A 300)(S:Ak w ext st){n t1:Nat}(e:n%10=5)(h:PcR R st):codeAny (model pr2 w) A (.call (.ref 490) ⟨[.int (n:Nat) t1],[]⟩) R st:=by
 have c:n/10%2=0∨n/10%2=1:=ω56
 rcases c with c | c
 ·refine DM W hA S (pe5_0_v _ _ _ _ _ n ((n/10:Nat):Int) ((n/10/18:Nat):Int) ((n/10/2:Nat):Int) ((n/10/2%9:Nat):Int) t1) rfl (p5_0_h w (Ax w) ext st.heap.objs.size st.toks n ((n/10:Nat):Int) ((n/10/18:Nat):Int) ((n/10/2:Nat):Int) ((n/10/2%9:Nat):Int) 0 0 t1 ⟨#[]⟩) (p5_0_d w (Ax w) ext st.heap.objs.size st.toks n ((n/10:Nat):Int) ((n/10/18:Nat):Int) ((n/10/2:Nat):Int) ((n/10/2%9:Nat):Int) 0 0 t1 ⟨#[]⟩) (p5_0_l w (Ax w) ext st.heap.objs.size st.toks n ((n/10:Nat):Int) ((n/10/18:Nat):Int) ((n/10/2:Nat):Int) ((n/10/2%9:Nat):Int) 0 0 t1 ⟨#[]⟩) (ζ6 (CL S.new (by decide)) (Be S.new (by decide) (by decide)) (Be S.new (by decide) (by decide)) (AC S.new (by decide) (Ay c)) (Be S.new (by decide) (by decide)) (AC S.new (by decide) (Ay e))) (by decide) (by decide) (ω57) fun s' tk ty a S' hl=>?_
  by_cases hz:ty.length=0
  ·have:ty=⟨#[]⟩:=Fe (List.eq_nil_of_length_eq_zero (by rw [←hz]; exact Array.length_toList))
   subst this
   exact Cl W hA S' (pe5_0e_v _ _ _ _ _ n ((n/10:Nat):Int) ((n/10/18:Nat):Int) ((n/10/2:Nat):Int) ((n/10/2%9:Nat):Int) t1 s'.heap.objs.size s'.toks tk) rfl (Ab (DP S'.new (by decide)) Aa) (by decide) a h
  ·have hq:(⟨⟨[92,117]⟩⟩++ty:Str).length=2+ty.length:=CE ..
   have hsz:=sZ
   exact Cl W hA S' (pe5_0r_v _ _ _ _ _ n ((n/10:Nat):Int) ((n/10/18:Nat):Int) ((n/10/2:Nat):Int) ((n/10/2%9:Nat):Int) t1 ty s'.heap.objs.size s'.toks tk) rfl (Ab (BY S'.new (by decide) (ω50 hz) (by show(⟨⟨[92,117]⟩⟩++ty:Str).length≤sizeLine; exact ω58 hl hq hsz)) Aa) (ω59 hl hq) a h
 ·refine DM W hA S (pe5_1_v _ _ _ _ _ n ((n/10:Nat):Int) ((n/10/18:Nat):Int) ((n/10/2:Nat):Int) ((n/10/2%9:Nat):Int) t1) rfl (p5_1_h w (Ax w) ext st.heap.objs.size st.toks n ((n/10:Nat):Int) ((n/10/18:Nat):Int) ((n/10/2:Nat):Int) ((n/10/2%9:Nat):Int) 0 0 t1 ⟨#[]⟩) (p5_1_d w (Ax w) ext st.heap.objs.size st.toks n ((n/10:Nat):Int) ((n/10/18:Nat):Int) ((n/10/2:Nat):Int) ((n/10/2%9:Nat):Int) 0 0 t1 ⟨#[]⟩) (p5_1_l w (Ax w) ext st.heap.objs.size st.toks n ((n/10:Nat):Int) ((n/10/18:Nat):Int) ((n/10/2:Nat):Int) ((n/10/2%9:Nat):Int) 0 0 t1 ⟨#[]⟩) (ζ6 (CL S.new (by decide)) (Be S.new (by decide) (by decide)) (Be S.new (by decide) (by decide)) (AC S.new (by decide) (Ay c)) (Be S.new (by decide) (by decide)) (AC S.new (by decide) (Ay e))) (by decide) (by decide) (ω57) fun s' tk ty a S' hl=>?_
  by_cases hz:ty.length=0
  ·have:ty=⟨#[]⟩:=Fe (List.eq_nil_of_length_eq_zero (by rw [←hz]; exact Array.length_toList))
   subst this
   exact Cl W hA S' (pe5_1e_v _ _ _ _ _ n ((n/10:Nat):Int) ((n/10/18:Nat):Int) ((n/10/2:Nat):Int) ((n/10/2%9:Nat):Int) t1 s'.heap.objs.size s'.toks tk) rfl (Ab (DP S'.new (by decide)) Aa) (by decide) a h
  ·have hq:(⟨⟨[92,85]⟩⟩++ty:Str).length=2+ty.length:=CE ..
   have hsz:=sZ
   exact Cl W hA S' (pe5_1r_v _ _ _ _ _ n ((n/10:Nat):Int) ((n/10/18:Nat):Int) ((n/10/2:Nat):Int) ((n/10/2%9:Nat):Int) t1 ty s'.heap.objs.size s'.toks tk) rfl (Ab (BY S'.new (by decide) (ω50 hz) (by show(⟨⟨[92,85]⟩⟩++ty:Str).length≤sizeLine; exact ω58 hl hq hsz)) Aa) (ω59 hl hq) a h
theorem pk6(W:Ae w)(hA:Ar A 300)(S:Ak w ext st){n t1:Nat}(e:n%10=6)(h:PcR R st):codeAny (model pr2 w) A (.call (.ref 490) ⟨[.int (n:Nat) t1],[]⟩) R st:=by
 have d:n/10/5%2=0∨n/10/5%2=1:=ω5a
 by_cases c:n/10%5=0
 ·rcases d with d | d
  ·exact BG W hA S (pe6_00_v _ _ _ _ _ n ((n/10:Nat):Int) ((n/10/5:Nat):Int) t1) rfl (ζ8 (DP S.new (by decide)) (Ji S.new) (AC S.new (by decide) (Ay d)) (Be S.new (by decide) (by decide)) (GC S.new (by decide)) (AC S.new (by decide) (Ay c)) (Be S.new (by decide) (by decide)) (AC S.new (by decide) (Ay e))) (by decide) h
  ·exact BG W hA S (pe6_01_v _ _ _ _ _ n ((n/10:Nat):Int) ((n/10/5:Nat):Int) t1) rfl (ζ8 (BY S.new (by decide) (by decide) (by decide)) (GC S.new rfl) (AC S.new (by decide) (Ay d)) (Be S.new (by decide) (by decide)) (GC S.new (by decide)) (AC S.new (by decide) (Ay c)) (Be S.new (by decide) (by decide)) (AC S.new (by decide) (Ay e))) (by decide) h
 ·have hl:=GU ⟨⟨[92]⟩⟩ (1+n/10%5)
  have hl':(GV ⟨⟨[92]⟩⟩ (1+n/10%5)).length=1+n/10%5:=by rw [hl]; exact Nat.mul_one _
  have hsz:=sZ
  have hq:(GV ⟨⟨[92]⟩⟩ (1+n/10%5)++⟨⟨[34]⟩⟩:Str).length=(GV ⟨⟨[92]⟩⟩ (1+n/10%5)).length+1:=CE ..
  rcases d with d | d
  ·exact BG W hA S (pe6_10_v _ _ _ _ _ n ((n/10:Nat):Int) ((n/10/5:Nat):Int) ((n/10%5:Nat):Int) ((1+n/10%5:Nat):Int) t1 (GV ⟨⟨[92]⟩⟩ (1+n/10%5))) rfl (ζ9 (DP S.new (ω5b hl')) (Ji S.new) (AC S.new (by decide) (Ay d)) (Be S.new (by decide) (by decide)) (Jh S.new (ω5c c) (ω5d)) (Bj (a:=1) S.new (ω5e) rfl) (CL S.new (by decide)) (Be S.new (by decide) (by decide)) (AC S.new (by decide) (Ay e))) (ω5f hl') h
  ·exact BG W hA S (pe6_11_v _ _ _ _ _ n ((n/10:Nat):Int) ((n/10/5:Nat):Int) ((n/10%5:Nat):Int) ((1+n/10%5:Nat):Int) t1 (GV ⟨⟨[92]⟩⟩ (1+n/10%5))) rfl (ζ9 (BY S.new (ω5b hl') (by decide) (ω5g hl' hsz hq)) (GC S.new rfl) (AC S.new (by decide) (Ay d)) (Be S.new (by decide) (by decide)) (Jh S.new (ω5c c) (ω5d)) (Bj (a:=1) S.new (ω5e) rfl) (CL S.new (by decide)) (Be S.new (by decide) (by decide)) (AC S.new (by decide) (Ay e))) (ω5h hl' hq) h
theorem Ge(W:Ae w)(hA:Ar A 300)(S:Ak w ext st){n t1:Nat}(h:PcR R st):codeAny (model pr2 w) A (.call (.ref 490) ⟨[.int (n:Nat) t1],[]⟩) R st:=by
 have e:n%10=0∨n%10=1∨n%10=2∨n%10=3∨n%10=4∨n%10=5∨n%10=6∨n%10=7∨n%10=8∨n%10=9:=ω5i
 rcases e with e | e | e | e | e | e | e | e | e | e
 ·exact pk0 W hA S e h
 ·exact pk1 W hA S e h
 ·exact pk2 W hA S e h
 ·exact pk3 W hA S e h
 ·exact pk4 W hA S e h
 ·exact pk5 W hA S e h
 ·exact pk6 W hA S e h
 ·exact pk7 W hA S e h
 ·exact pk8 W hA S e h
 ·exact pk9 W hA S e h
end
noncomputable abbrev JH(a b c:Value):Obj:=⟨.type "slice",none,.fields #[a,b,c],#[]⟩
noncomputable abbrev Bo(i j:Nat)(l sl:Addr)(xs:List Value)(e:Nat)(vl vu:Value)(ys:List Value):Sp:=⟨.builtin "list.__getitem__" ⟨[.ref l,.ref sl],[]⟩,{r:=fun n _=>.ok (.ret (.ref n)),reads:=[i,j],news:=fun _=>[lst ys 0]},[],[some (l,lst xs e),some (sl,JH vl vu .none)]⟩
noncomputable abbrev Cr(i:Nat)(l:Addr)(xs:List Value)(e:Nat)(k:Value)(v:Value):Sp:=⟨.builtin "list.__getitem__" ⟨[.ref l,k],[]⟩,{r:=Ba v,reads:=[i]},[],[some (l,lst xs e)]⟩
noncomputable abbrev CZ(i j:Nat)(l b:Addr)(xs:List Value)(e:Nat)(ys:List Value)(e':Nat):Sp:=⟨.builtin "list.__add__" ⟨[.ref l,.ref b],[]⟩,{r:=fun n _=>.ok (.ret (.ref n)),reads:=[i,j],news:=fun _=>[lst (xs++ys) 0]},[],[some (l,lst xs e),some (b,lst ys e')]⟩
section
variable{P:Par}{g:Bq}{U D:Nat}
theorem FJ{h:Heap}{l:Addr}{xs:List Value}{e:Nat}(q:h.get? l=some (lst xs e)):h.IsList l ⟨xs⟩:=⟨_,q,rfl,e,rfl⟩
theorem B3{i j:Nat}{l sl:Addr}{xs ys:List Value}{e:Nat}{vl vu:Value}{lo hi:Option Int}(hP:∀ b,P.n≤b→P.look b=none)(pl:IsPart vl lo)(pu:IsPart vu hi)(hy:(slicePick ⟨xs⟩ lo hi none)=⟨ys⟩)(hz:xs.length≤sizeLine):AK P g U D (Bo i j l sl xs e vl vu ys):=by
 refine Bu (us:=[]) (ps:=[(l,lst xs e),(sl,JH vl vu .none)]) rfl hP fun A s R _ _ _ _ _ h5 hR=>?_
 have ho:=h5 _ μ0
 have hos:=h5 _ μ1
 have hTs:s.TypeIs (.ref sl) "slice":=⟨_,hos,rfl⟩
 refine codeAny_builtin entry_list_getitem ?_
 rw [Around.under_plainId (by decide +kernel)]
 show wpAny _ _ (Builtin.List.listSubscript? (.ref sl) >>= _) _ _ s
 refine wpAny_bind ?_
 unfold Builtin.List.listSubscript?
 refine wpAny_bind (wpAny_specialOf hTs slice_no_index ?_)
 simp only [Option.isNone_none,if_true]
 refine ιp ?_
 show wpAny _ _ (typeOf (.ref sl) >>= _) _ _ s
 refine wpAny_bind (wpAny_typeOf hTs ?_)
 rw [if_neg (by decide)]
 rw [listSliceParts_eq]
 refine wpAny_bind (wpAny_bind (wpAny_field hos rfl (x:=.none) rfl (wpAny_bind (wpAny_listPart .none ?_))))
 rw [if_neg (show ¬ ((rawPart none == rawInt 0)=true) from Bool.false_ne_true)]
 refine wpAny_bind (wpAny_field hos rfl (x:=vl) rfl (wpAny_bind (wpAny_listPart pl ?_)))
 refine wpAny_bind (wpAny_field hos rfl (x:=vu) rfl (wpAny_bind (wpAny_listPart pu (ιp ?_))))
 refine wpAny_bind (m:=Builtin.List.listItems (.ref l)) ?_
 unfold Builtin.List.listItems
 refine wpAny_bind (wpAny_seqItems ho rfl (ιp ?_))
 refine wpAny_bind (wpAny_of_eq (sliceIndices_raw lo hi none xs.length (fun h=>nomatch h)) ?_)
 have:=slicePick_size_le ⟨xs⟩ lo hi none
 refine wpAny_bind (wpAny_newObj_type ?_ (ιT this hz))
 refine ιp ?_
 obtain⟨k1,k2,k3⟩:=BP (s:=s.heap) (l:=[lst ys 0]) (fun o ho=>by rw [ιS ho]; rfl)
 have hc:=hR {s with heap:=List.foldl Heap.push s.heap [lst ys 0]} ⟨rfl,rfl,k1,(fun b o e _=>k2 b o e),(fun p hp=>nomatch hp),k3⟩
 have e1:lst ys 0={cls:=.type "list",data:=.seq (slicePick ⟨xs⟩ lo hi none)}:=by rw [hy]
 rw [e1] at hc
 exact hc
theorem fits_nat{k:Nat}(h:k<1000000):Builtin.List.listFitsIndex (k:Int)=true:=by
 have h2:(k:Int)<2 ^ 63:=Int.lt_of_lt_of_le (Int.ofNat_lt.mpr h) (by decide)
 exact fitsIndex_of (Int.natCast_nonneg k) h2
theorem wp_lget{M:Model}{A:Around}{s:Shared}{l:Addr}{xs:List Value}{e:Nat}{z:Int}{t:Tok}{v:Value}{Q:PySem.Fin→Shared→Prop}(ho:s.heap.get? l=some (lst xs e))(hf:Builtin.List.listFitsIndex z=true)(h0:0≤z)(hv:(⟨xs⟩:Array Value)[z.toNat]? = some v)(h:Q (.done (.ret v)) s) :
  wpAny M A (Builtin.«list.__getitem__» ⟨[.ref l,.int z t],[]⟩) Q E s:=by
 show wpAny _ _ (Builtin.List.listSubscript? (.int z t) >>= _) _ _ s
 refine wpAny_bind (wpAny_listSubscript_int hf ?_)
 clear hf
 obtain⟨j,rfl⟩:=Int.eq_ofNat_of_zero_le h0
 have hx':(⟨xs⟩:Array Value)[j]? = some v:=hv
 show wpAny _ _ ((seqItemAt l j >>= fun r=>pure (r.map (j,·))) >>= _) _ _ s
 refine wpAny_bind (wpAny_bind (wpAny_seqItemAt ho rfl (ιp ?_)))
 rw [hx']
 first
  | exact wpAny_bind (ιp (ιp h))
  | exact ιp h
theorem meets_lget{l:Addr}{xs:List Value}{e:Nat}{z:Int}{t:Tok}{v:Value}(hf:Builtin.List.listFitsIndex z=true)(h0:0≤z)(hv:(⟨xs⟩:Array Value)[z.toNat]? = some v) :
  Meets (Builtin.«list.__getitem__» ⟨[.ref l,.int z t],[]⟩) (fun A R s=>s.heap.get? l=some (lst xs e)∧R (.ok (.ret v)) s):=
 .of_wp fun prog w A R s h=>wp_lget h.1 hf h0 hv ⟨_,rfl,h.2⟩
theorem DC{i:Nat}{l:Addr}{xs:List Value}{e k:Nat}{t:Tok}{v:Value}(hP:∀ b,P.n≤b→P.look b=none)(hv:xs[k]? = some v)(hk:k<1000000):AK P g U D (Cr i l xs e (.int (k:Nat) t) v):=by
 obtain⟨z,hz⟩:∃ z:Int,z=(k:Int):=⟨_,rfl⟩
 have hf:Builtin.List.listFitsIndex z=true:=hz▸fits_nat hk
 rw [←hz]
 have M:=meets_lget (l:=l) (e:=e) (t:=t) (z:=z) (xs:=xs) (v:=v) hf (by omega) (by subst hz; simpa using hv)
 clear hk hz hf
 exact BV (dk:=0) (ps:=[(l,lst xs e)]) hP fun A s R _ _ _ h4 hR=>AA entry_list_getitem (by decide +kernel) M ⟨h4 _ μ0,hR⟩
theorem GD{i j:Nat}{l b:Addr}{xs ys:List Value}{e e':Nat}(hP:∀ b,P.n≤b→P.look b=none)(hz:xs.length+ys.length≤sizeLine):AK P g U D (CZ i j l b xs e ys e'):=by
 refine Bu (us:=[]) (ps:=[(l,lst xs e),(b,lst ys e')]) rfl hP fun A s R _ _ _ _ _ h5 hR=>?_
 refine AA F.entry_list_add (by decide +kernel) (AutoSeq1.list___add___list_list_0 l ⟨xs⟩ e b ⟨ys⟩ e' hz) ⟨h5 _ μ0,h5 _ μ1,?_⟩
 obtain⟨k1,k2,k3⟩:=BP (s:=s.heap) (l:=[lst (xs++ys) 0]) (fun o ho=>by rw [ιS ho]; rfl)
 have hc:=hR {s with heap:=List.foldl Heap.push s.heap [lst (xs++ys) 0]} ⟨rfl,rfl,k1,(fun b o e _=>k2 b o e),(fun p hp=>nomatch hp),k3⟩
 have e1:lst (xs++ys) 0={cls:=.type "list",data:=.seq (⟨xs⟩++⟨ys⟩)}:=by simp
 rw [e1] at hc
 exact hc
end
noncomputable abbrev Fs(i:Nat)(l:Addr)(xs:List Value)(e:Nat):Sp:=⟨.builtin "len" ⟨[.ref l],[]⟩,{r:=fun _ k=>.ok (.ret (.int (xs.length:Nat) (k+1))),dk:=2,reads:=[i]},[],[some (l,lst xs e)]⟩
theorem Jk{P:Par}{g:Bq}{U D:Nat}{i:Nat}{l:Addr}{xs:List Value}{e:Nat}(hP:∀ b,P.n≤b→P.look b=none)(hx:xs.length<1000000):AK P g U D (Fs i l xs e):=
 BV (dk:=2) (ps:=[(l,lst xs e)]) hP fun A s R _ _ _ h4 hR=>by
  refine codeAny_builtin entry_len ?_
  rw [Around.under_plainId (by decide +kernel)]
  exact wpAny_mono (wpAny_len_body_list (Q:=fun r s'=>R (.ok (.ret r)) s') (FJ (h4 _ μ0)) (by show((xs.length:Nat):Int)<2 ^ 63; omega) hR)
   (fun fin s' h'=>by obtain⟨r,rfl,hq⟩:=h'; exact hq) fun _ _ e=>e
noncomputable def compIn(s:Option Stmt):Expr:=match s with
 | some (.Assign _ (.BoolOp _ (e::_) _) _)=>e
 | some (.Assign _ (.BinOp (.BinOp _ _ e _) _ _ _) _)=>e
 | _=>.Constant .none 0 default
noncomputable def scopeC(e:Expr):Scope:=match e with
 | .ListComp _ _ s _=>s
 | _=>default
noncomputable def CN(w:World)(i:Nat):Expr:=compIn (A0 w 523)[i]?
noncomputable def Dv(w:World)(i L cx cy cz d:Nat):Env:={scope:=scopeC (CN w i),locals:=d,globals:=3,cells:=[],qual:=(Ai w L cx cy cz).qual,code:=(Ai w L cx cy cz).code,frame:=some L,builtins:=(Ai w L cx cy cz).builtins}
noncomputable abbrev Ed(e:Expr)(it acc:Value)(env:Env):Sem PySem.Fin:=PySem.W.Fast.tw1180062409338748621 e 0 it acc env
section
variable(w:World)(f:Fl)(ext:Addr→Option Obj)(n t L cx cy cz sc:Nat)(k0:Nat)(xs ys:List Value)
def ta1:Res:=
 run (P4 w f ext n t 0) 36 (ιx 14 0x15040442202221) ([Bo 1 2 sc n xs 0 .none (.int 11 t) ys].map Sp.x) [(L,oFr [de w "script" k0 (.ref sc)] 1),(sc,lst xs 0)] 0 0 .tree
  (Az (Bp w 0 1) (Ai w L cx cy cz)) [] [] []
theorem ta1_v:RvC (ta1 w f ext n t L cx cy cz sc k0 xs ys) [0,1,3,4,5,6] (.call (.compStart (CN w 0) 0 (.ref (n+2)) (.ref (n+3)) (Dv w 0 L cx cy cz (n+4)))) 1 5 1 [some (L,oFr [de w "script" k0 (.ref sc)] 1),some (sc,lst xs 0),some (n+1,lst ys 0),some (n+2,oIt (n+1) 0),some (n+3,lst [] 0),some (n+4,AU [] 0)] [Bo 1 2 sc n xs 0 .none (.int 11 t) ys]:=by rcases f with⟨_ | _,_,_⟩ <;> kernel_rfl
end
section
variable(w:World)(f:Fl)(ext:Addr→Option Obj)(n t L cx cy cz it cl acc d j ec ea kn:Nat)(xs zs:List Value)(z z2:Int)(tz:Nat)(vn:Value)
noncomputable abbrev JQ:List Sp:=[Bc 2 acc zs ea (.int z2 (t+4)),sMd (.int z tz) (.int (10 ^ Int.toNat 12) (t+3)) z2,Cg 1 3 it cl xs ec j (.int z tz)]
def tb1:Res:=
 run (P4 w f ext n t 0) 38 (ιx 14 0x23020001112202) ((JQ t it cl acc j ec ea xs zs z z2 tz).reverse.map Sp.x) [(d,AU [] 0),(it,oIt cl j),(acc,lst zs ea),(cl,lst xs ec)] 0 0 .tree
  (Ed (CN w 0) (.ref it) (.ref acc) (Dv w 0 L cx cy cz d)) [] [] []
theorem tb1_v:RvD (tb1 w f ext n t L cx cy cz it cl acc d j ec ea xs zs z z2 tz) [0,1,2,3] (.again (.compLoop (CN w 0) 0 (.ref it) (.ref acc) (Dv w 0 L cx cy cz d))) 1 0 5 [some (d,AU [de w "n" (t+0) (.int z tz)] 1),some (it,oIt cl (j+1)),some (acc,lst (zs++[.int z2 (t+4)]) (ea+1)),some (cl,lst xs ec)] (JQ t it cl acc j ec ea xs zs z z2 tz):=by kernel_rfl
noncomputable abbrev JP:List Sp:=[Bc 2 acc zs ea (.int z2 (t+4)),sMd (.int z tz) (.int (10 ^ Int.toNat 12) (t+3)) z2,Cg 1 3 it cl xs ec j (.int z tz)]
def tb2:Res:=
 run (P4 w f ext n t 0) 38 (ιx 14 0x23020001112202) ((JP t it cl acc j ec ea xs zs z z2 tz).reverse.map Sp.x) [(d,AU [de w "n" kn vn] 1),(it,oIt cl j),(acc,lst zs ea),(cl,lst xs ec)] 0 0 .tree
  (Ed (CN w 0) (.ref it) (.ref acc) (Dv w 0 L cx cy cz d)) [] [] []
theorem tb2_v:RvD (tb2 w f ext n t L cx cy cz it cl acc d j ec ea kn xs zs z z2 tz vn) [0,1,2,3] (.again (.compLoop (CN w 0) 0 (.ref it) (.ref acc) (Dv w 0 L cx cy cz d))) 1 0 5 [some (d,AU [de w "n" kn (.int z tz)] 1),some (it,oIt cl (j+1)),some (acc,lst (zs++[.int z2 (t+4)]) (ea+1)),some (cl,lst xs ec)] (JP t it cl acc j ec ea xs zs z z2 tz):=by kernel_rfl
def tc0a:Res:=
 run (P4 w f ext n t 0) 17 [2,0,2,2,6] ([AZ 1 3 it cl xs ec j].map Sp.x) [(d,AU [] 0),(it,oIt cl j),(acc,lst zs ea),(cl,lst xs ec)] 0 0 .tree
  (Ed (CN w 0) (.ref it) (.ref acc) (Dv w 0 L cx cy cz d)) [] [] []
theorem tc0a_v:RvD (tc0a w f ext n t L cx cy cz it cl acc d j ec ea xs zs) [0,2] (.done (.ok .next)) 1 2 0 [some (d,AU [] 0),some (acc,lst zs ea)] [AZ 1 3 it cl xs ec j]:=by kernel_rfl
def tc0b:Res:=
 run (P4 w f ext n t 0) 17 [2,0,2,2,6] ([AZ 1 3 it cl xs ec j].map Sp.x) [(d,AU [de w "n" kn vn] 1),(it,oIt cl j),(acc,lst zs ea),(cl,lst xs ec)] 0 0 .tree
  (Ed (CN w 0) (.ref it) (.ref acc) (Dv w 0 L cx cy cz d)) [] [] []
theorem tc0b_v:RvD (tc0b w f ext n t L cx cy cz it cl acc d j ec ea kn xs zs vn) [0,2] (.done (.ok .next)) 1 2 0 [some (d,AU [de w "n" kn vn] 1),some (acc,lst zs ea)] [AZ 1 3 it cl xs ec j]:=by kernel_rfl
def tc2a:Res:=
 run (P4 w f ext n t 0) 17 [2,0,2,2,6] ([AZ 1 3 it cl xs ec j].map Sp.x) [(d,AU [] 0),(it,oIt cl j),(acc,lst zs ea),(cl,lst xs ec)] 0 0 .tree
  (Ed (CN w 2) (.ref it) (.ref acc) (Dv w 2 L cx cy cz d)) [] [] []
theorem tc2a_v:RvD (tc2a w f ext n t L cx cy cz it cl acc d j ec ea xs zs) [0,2] (.done (.ok .next)) 1 2 0 [some (d,AU [] 0),some (acc,lst zs ea)] [AZ 1 3 it cl xs ec j]:=by kernel_rfl
def tc2b:Res:=
 run (P4 w f ext n t 0) 17 [2,0,2,2,6] ([AZ 1 3 it cl xs ec j].map Sp.x) [(d,AU [de w "n" kn vn] 1),(it,oIt cl j),(acc,lst zs ea),(cl,lst xs ec)] 0 0 .tree
  (Ed (CN w 2) (.ref it) (.ref acc) (Dv w 2 L cx cy cz d)) [] [] []
theorem tc2b_v:RvD (tc2b w f ext n t L cx cy cz it cl acc d j ec ea kn xs zs vn) [0,2] (.done (.ok .next)) 1 2 0 [some (d,AU [de w "n" kn vn] 1),some (acc,lst zs ea)] [AZ 1 3 it cl xs ec j]:=by kernel_rfl
def td1:Res:=
 run (P4 w f ext n t 0) 29 [2,0,2,2,1,1,0,1,0,1] ([Cg 1 3 it cl xs ec j (.int z tz)].map Sp.x) [(d,AU [] 0),(it,oIt cl j),(acc,lst zs ea),(cl,lst xs ec)] 0 0 .tree
  (Ed (CN w 2) (.ref it) (.ref acc) (Dv w 2 L cx cy cz d)) [] [] []
theorem td1_v:RvC (td1 w f ext n t L cx cy cz it cl acc d j ec ea xs zs z tz) [0,1,2,3] (.call (.call (.ref 490) ⟨[.int z tz],[]⟩)) 1 0 1 [some (d,AU [de w "n" (t+0) (.int z tz)] 1),some (it,oIt cl (j+1)),some (acc,lst zs ea),some (cl,lst xs ec)] [Cg 1 3 it cl xs ec j (.int z tz)]:=by kernel_rfl
def td2:Res:=
 run (P4 w f ext n t 0) 29 [2,0,2,2,1,1,0,1,0,1] ([Cg 1 3 it cl xs ec j (.int z tz)].map Sp.x) [(d,AU [de w "n" kn vn] 1),(it,oIt cl j),(acc,lst zs ea),(cl,lst xs ec)] 0 0 .tree
  (Ed (CN w 2) (.ref it) (.ref acc) (Dv w 2 L cx cy cz d)) [] [] []
theorem td2_v:RvC (td2 w f ext n t L cx cy cz it cl acc d j ec ea kn xs zs z tz vn) [0,1,2,3] (.call (.call (.ref 490) ⟨[.int z tz],[]⟩)) 1 0 1 [some (d,AU [de w "n" kn (.int z tz)] 1),some (it,oIt cl (j+1)),some (acc,lst zs ea),some (cl,lst xs ec)] [Cg 1 3 it cl xs ec j (.int z tz)]:=by kernel_rfl
end
section
variable(w:World)(f:Fl)(ext:Addr→Option Obj)(n t L cx cy cz sc:Nat)(k0:Nat)(xs ys:List Value)(n2 t2 ea kn:Nat)(v1 vn:Value)(zs:List Value)
def ta2a:Res:=
 run (P4 w f ext n2 t2 0) 26 [2,3,3,2,1,1] ([Fs 2 (n+3) [] ea].map Sp.x) [(L,oFr [de w "script" k0 (.ref sc)] 1),(n+4,AU [] 0),(n+3,lst [] ea)] 0 0 .tree
  ((ta1 w f ext n t L cx cy cz sc k0 xs ys).kk (.ok .next)) [] [] []
theorem ta2a_v:RvD (ta2a w f ext n t L cx cy cz sc k0 xs ys n2 t2 ea) [0,3] (.done (.ok .next)) 1 1 4 [some (L,oFr [de w "script" k0 (.ref sc),de w "tape" (t2+3) (.ref n2)] 2),some (n2,lst [.int 0 (t2+2)] 0)] [Fs 2 (n+3) [] ea]:=by rcases f with⟨_ | _,_,_⟩ <;> kernel_rfl
def ta2b:Res:=
 run (P4 w f ext n2 t2 0) 27 [2,2,2,3,3,2,1,1] ([Fs 2 (n+3) (v1::zs) ea].map Sp.x) [(L,oFr [de w "script" k0 (.ref sc)] 1),(n+4,AU [de w "n" kn vn] 1),(n+3,lst (v1::zs) ea)] 0 0 .tree
  ((ta1 w f ext n t L cx cy cz sc k0 xs ys).kk (.ok .next)) [] [] []
theorem ta2b_v:RvD (ta2b w f ext n t L cx cy cz sc k0 xs ys n2 t2 ea kn v1 vn zs) [0,2] (.done (.ok .next)) 1 0 3 [some (L,oFr [de w "script" k0 (.ref sc),de w "tape" (t2+2) (.ref (n+3))] 2),some (n+3,lst (v1::zs) ea)] [Fs 2 (n+3) (v1::zs) ea]:=by rcases f with⟨_ | _,_,_⟩ <;> kernel_rfl
end
section
variable(w:World)(f:Fl)(ext:Addr→Option Obj)(n t L cx cy cz:Nat)(k:Nat→Nat)(v:Nat→Value)(tp ea hz tz:Nat)(zs ys:List Value)(oS:Str)(oT:Nat)(z4:Int)
def tg1:Res:=
 run (P4 w f ext n t 0) 29 [1,2,2,2,0,2,2,1,1] ([Cr 1 tp (.int (hz:Nat) tz::zs) ea (.int 0 (t+0)) (.int (hz:Nat) tz)].map Sp.x) [(L,oFr [de w "script" (k 0) (v 0),de w "tape" (k 1) (.ref tp)] 2),(tp,lst (.int (hz:Nat) tz::zs) ea)] 0 0 .tree
  (Az (Bp w 1 1) (Ai w L cx cy cz)) [] [] []
theorem tg1_v:RvD (tg1 w f ext n t L cx cy cz k v tp ea hz tz zs) [0,1] (.done (.ok .next)) 1 0 2 [some (L,oFr [de w "script" (k 0) (v 0),de w "tape" (k 1) (.ref tp),de w "head" (t+1) (.int (hz:Nat) tz)] 3),some (tp,lst (.int (hz:Nat) tz::zs) ea)] [Cr 1 tp (.int (hz:Nat) tz::zs) ea (.int 0 (t+0)) (.int (hz:Nat) tz)]:=by kernel_rfl
noncomputable abbrev JO:List Sp:=[Bo 1 5 tp (n+3) (.int (hz:Nat) tz::zs) ea (.int 1 (t+6)) .none ys,Cr 3 (n+1) [.str ⟨⟨[34]⟩⟩ (t+0),.str ⟨⟨[64]⟩⟩ (t+1),.str ιd (t+2),.str ιe (t+3)] 0 (.int z4 (t+5)) (.str oS oT),sMd (.int (↑hz) tz) (.int 4 (t+4)) z4]
def th1:Res:=
 run (P4 w f ext n t 0) 70 (ιx 28 0x1807077220222102404442010300) ((JO n t tp ea hz tz zs ys oS oT z4).reverse.map Sp.x) [(L,oFr [de w "script" (k 0) (v 0),de w "tape" (k 1) (.ref tp),de w "head" (k 2) (.int (hz:Nat) tz)] 3),(tp,lst (.int (hz:Nat) tz::zs) ea)] 0 0 .tree
  (Az (Bp w 2 1) (Ai w L cx cy cz)) [] [] []
theorem th1_v:RvC (th1 w f ext n t L cx cy cz k v tp ea hz tz zs ys oS oT z4) [0,4,6,7,8,9] (.call (.compStart (CN w 2) 0 (.ref (n+5)) (.ref (n+6)) (Dv w 2 L cx cy cz (n+7)))) 1 8 7 [some (L,oFr [de w "script" (k 0) (v 0),de w "tape" (k 1) (.ref tp),de w "head" (k 2) (.int (hz:Nat) tz)] 3),some (n+2,lst [.str oS oT] 0),some (n+4,lst ys 0),some (n+5,oIt (n+4) 0),some (n+6,lst [] 0),some (n+7,AU [] 0)] (JO n t tp ea hz tz zs ys oS oT z4):=by rcases f with⟨_ | _,_,_⟩ <;> kernel_rfl
end
section
variable(w:World)(f:Fl)(ext:Addr→Option Obj)(n t L cx cy cz:Nat)(k:Nat→Nat)(v:Nat→Value)(tp ea hz tz:Nat)(zs ys:List Value)(oS:Str)(oT:Nat)(z4:Int)(n2 t2 ec kn:Nat)(vn:Value)(ps:List Value)(eS:Str)(eT:Nat)(z5 z6:Int)
noncomputable abbrev IS:List Sp:=[CZ 4 7 n2 (n2+3) ([.str oS oT]++ps) 0 [.str eS eT] 0,Cr 6 (n2+2) [.str ⟨⟨[34]⟩⟩ (t2+0),.str ⟨⟨[34,97]⟩⟩ (t2+1),.str ⟨⟨[]⟩⟩ (t2+2),.str ⟨⟨[92]⟩⟩ (t2+3)] 0 (.int z6 (t2+7)) (.str eS eT),sMd (.int z5 (t2+5)) (.int 4 (t2+6)) z6,sFd (.int (↑hz) tz) (.int 4 (t2+4)) z5,CZ 3 2 (n+2) (n+6) [.str oS oT] 0 ps ec]
def th2a:Res:=
 run (P4 w f ext n2 t2 0) 75 (ιx 31 0x1125058502707772020103002404342) ((IS n hz tz oS oT n2 t2 ec ps eS eT z5 z6).reverse.map Sp.x) [(L,oFr [de w "script" (k 0) (v 0),de w "tape" (k 1) (.ref tp),de w "head" (k 2) (.int (hz:Nat) tz)] 3),(n+7,AU [] 0),(n+6,lst ps ec),(n+2,lst [.str oS oT] 0)] 0 0 .tree
  ((th1 w f ext n t L cx cy cz k v tp ea hz tz zs ys oS oT z4).kk (.ok .next)) [] [] []
theorem th2a_v:RvD (th2a w f ext n t L cx cy cz k v tp ea hz tz zs ys oS oT z4 n2 t2 ec ps eS eT z5 z6) [0,8] (.done (.ok .next)) 1 5 9 [some (L,oFr [de w "script" (k 0) (v 0),de w "tape" (k 1) (.ref tp),de w "head" (k 2) (.int (hz:Nat) tz),de w "pieces" (t2+8) (.ref (n2+4))] 4),some (n2+4,lst (([.str oS oT]++ps)++[.str eS eT]) 0)] (IS n hz tz oS oT n2 t2 ec ps eS eT z5 z6):=by rcases f with⟨_ | _,_,_⟩ <;> kernel_rfl
noncomputable abbrev IR:List Sp:=[CZ 4 7 n2 (n2+3) ([.str oS oT]++ps) 0 [.str eS eT] 0,Cr 6 (n2+2) [.str ⟨⟨[34]⟩⟩ (t2+0),.str ⟨⟨[34,97]⟩⟩ (t2+1),.str ⟨⟨[]⟩⟩ (t2+2),.str ⟨⟨[92]⟩⟩ (t2+3)] 0 (.int z6 (t2+7)) (.str eS eT),sMd (.int z5 (t2+5)) (.int 4 (t2+6)) z6,sFd (.int (↑hz) tz) (.int 4 (t2+4)) z5,CZ 3 2 (n+2) (n+6) [.str oS oT] 0 ps ec]
def th2b:Res:=
 run (P4 w f ext n2 t2 0) 79 (ιx 33 0x112505850270777202010300240434222) ((IR n hz tz oS oT n2 t2 ec ps eS eT z5 z6).reverse.map Sp.x) [(L,oFr [de w "script" (k 0) (v 0),de w "tape" (k 1) (.ref tp),de w "head" (k 2) (.int (hz:Nat) tz)] 3),(n+7,AU [de w "n" kn vn] 1),(n+6,lst ps ec),(n+2,lst [.str oS oT] 0)] 0 0 .tree
  ((th1 w f ext n t L cx cy cz k v tp ea hz tz zs ys oS oT z4).kk (.ok .next)) [] [] []
theorem th2b_v:RvD (th2b w f ext n t L cx cy cz k v tp ea hz tz zs ys oS oT z4 n2 t2 ec kn vn ps eS eT z5 z6) [0,8] (.done (.ok .next)) 1 5 9 [some (L,oFr [de w "script" (k 0) (v 0),de w "tape" (k 1) (.ref tp),de w "head" (k 2) (.int (hz:Nat) tz),de w "pieces" (t2+8) (.ref (n2+4))] 4),some (n2+4,lst (([.str oS oT]++ps)++[.str eS eT]) 0)] (IR n hz tz oS oT n2 t2 ec ps eS eT z5 z6):=by rcases f with⟨_ | _,_,_⟩ <;> kernel_rfl
end
section
variable(w:World)(f:Fl)(ext:Addr→Option Obj)(n t L cx cy cz it cl acc d j ec ea kn:Nat)(xs zs:List Value)(z:Int)(tz:Nat)(vn:Value)(n2 t2:Nat)(ps:Str)(pt:Nat)
def td1r:Res:=
 run (P4 w f ext n2 t2 0) 15 [0,1,2] ([Bc 0 acc zs ea (.str ps pt)].map Sp.x) [(acc,lst zs ea)] 0 0 .tree
  ((td1 w f ext n t L cx cy cz it cl acc d j ec ea xs zs z tz).kk (.ok (.ret (.str ps pt)))) [] [] []
theorem td1r_v:RvD (td1r w f ext n t L cx cy cz it cl acc d j ec ea xs zs z tz n2 t2 ps pt) [0] (.again (.compLoop (CN w 2) 0 (.ref it) (.ref acc) (Dv w 2 L cx cy cz d))) 1 0 0 [some (acc,lst (zs++[.str ps pt]) (ea+1))] [Bc 0 acc zs ea (.str ps pt)]:=by kernel_rfl
def td2r:Res:=
 run (P4 w f ext n2 t2 0) 15 [0,1,2] ([Bc 0 acc zs ea (.str ps pt)].map Sp.x) [(acc,lst zs ea)] 0 0 .tree
  ((td2 w f ext n t L cx cy cz it cl acc d j ec ea kn xs zs z tz vn).kk (.ok (.ret (.str ps pt)))) [] [] []
theorem td2r_v:RvD (td2r w f ext n t L cx cy cz it cl acc d j ec ea kn xs zs z tz vn n2 t2 ps pt) [0] (.again (.compLoop (CN w 2) 0 (.ref it) (.ref acc) (Dv w 2 L cx cy cz d))) 1 0 0 [some (acc,lst (zs++[.str ps pt]) (ea+1))] [Bc 0 acc zs ea (.str ps pt)]:=by kernel_rfl
end
noncomputable abbrev Cd(it:Addr)(i:Int)(old:Value):Obj:=⟨.type "enumerate",none,.fields #[.none,.bool false,.ref it,rawInt i,.none,old],#[]⟩
theorem wpP{M:Model}{A:Around}{a:Bool}{Q:Bool→Shared→Prop}{s:Shared}(h:∀ b,Q b s):wpAny M A (pure a) Q E s:=ιp (h a)
theorem meets_enum1L(l:Addr)(items:Array Value)(n:Nat)(u:Tok) :
  Meets (Builtin.«enumerate.__new__» ⟨[.type "enumerate",.ref l,.int 1 u],[]⟩) (fun _ R s=>s.heap.get? l=some {cls:=.type "list",dict:=none,data:=.seq items n,slots:=#[]}∧
   R (.ok (.ret (.ref (s.heap.push {cls:=.type "list_iterator",data:=.fields #[.ref l,.int 0 0]}).objs.size)))
    {s with heap:=(s.heap.push {cls:=.type "list_iterator",data:=.fields #[.ref l,.int 0 0]}).push {cls:=.type "enumerate",data:=.fields #[.none,.bool false,.ref s.heap.objs.size,rawInt 1,.none,.none]}}):=
 .of_wp fun prog w A R s h=>by
  obtain⟨hp,g,d,tk,os⟩:=s; obtain⟨hl,h⟩:=h
  have hsub:=sub_enumerate
  have hL:Heap.IsList (Shared.heap ⟨hp,g,d,tk,os⟩) l items:=⟨_,hl,rfl,n,rfl⟩
  wp_walk using AutoSeq1.wpAny_loadPart' hl
  refine wpAny_stack_any fun st=>wpP fun b=>?_
  cases b
  ·wp_walk using AutoSeq1.wpAny_loadPart' hl,wpAny_pyIter_list hL
   exact⟨_,rfl,h⟩
  ·wp_walk using AutoSeq1.wpAny_loadPart' hl,wpAny_pyIter_list hL
   exact⟨_,rfl,h⟩
theorem meets_enum1S(x:Str)(t u:Tok) :
  Meets (Builtin.«enumerate.__new__» ⟨[.type "enumerate",.str x t,.int 1 u],[]⟩) (fun _ R s=>
   R (.ok (.ret (.ref (s.heap.push {cls:=.type (strIterType x),data:=.fields #[.str x t,.int 0 0]}).objs.size)))
    {s with heap:=(s.heap.push {cls:=.type (strIterType x),data:=.fields #[.str x t,.int 0 0]}).push {cls:=.type "enumerate",data:=.fields #[.none,.bool false,.ref s.heap.objs.size,rawInt 1,.none,.none]}}):=
 .of_wp fun prog w A R s h=>by
  obtain⟨hp,g,d,tk,os⟩:=s
  have hsub:=sub_enumerate
  wp_walk
  refine wpAny_stack_any fun st=>wpP fun b=>?_
  cases b
  ·wp_walk using wpAny_pyIter_strU
   exact⟨_,rfl,h⟩
  ·wp_walk using wpAny_pyIter_strU
   exact⟨_,rfl,h⟩
noncomputable abbrev oSi(x:Str)(t:Nat)(i:Nat):Obj:=⟨.type (strIterType x),none,.fields #[.str x t,.int (i:Nat) 0],#[]⟩
noncomputable abbrev G0(i:Nat)(l:Addr)(xs:List Value)(e:Nat)(u:Nat):Sp:=⟨.builtin "enumerate.__new__" ⟨[.type "enumerate",.ref l,.int 1 u],[]⟩,{r:=fun n _=>.ok (.ret (.ref (n+1))),reads:=[i],news:=fun n=>[oIt l 0,Cd n 1 .none]},[],[some (l,lst xs e)]⟩
noncomputable abbrev Ew(x:Str)(t u:Nat):Sp:=⟨.builtin "enumerate.__new__" ⟨[.type "enumerate",.str x t,.int 1 u],[]⟩,{r:=fun n _=>.ok (.ret (.ref (n+1))),news:=fun n=>[oSi x t 0,Cd n 1 .none]},[],[]⟩
section
variable{P:Par}{g:Bq}{U D:Nat}
theorem o_enumL{i:Nat}{l:Addr}{xs:List Value}{e u:Nat}(hP:∀ b,P.n≤b→P.look b=none):AK P g U D (G0 i l xs e u):=by
 refine Bu (us:=[]) (ps:=[(l,lst xs e)]) rfl hP fun A s R _ _ _ _ _ h5 hR=>?_
 refine AA F.entry_enumerate_new (by decide +kernel) (meets_enum1L l ⟨xs⟩ e u) ⟨h5 _ μ0,?_⟩
 obtain⟨k1,k2,k3⟩:=BP (s:=s.heap) (l:=[oIt l 0,Cd s.heap.objs.size 1 .none]) (ζ2 rfl rfl)
 have hc:=hR {s with heap:=List.foldl Heap.push s.heap [oIt l 0,Cd s.heap.objs.size 1 .none]} ⟨rfl,rfl,k1,(fun b o e _=>k2 b o e),(fun p hp=>nomatch hp),k3⟩
 rw [Heap.size_push]
 exact hc
theorem Ir{x:Str}{t u:Nat}(hP:∀ b,P.n≤b→P.look b=none):AK P g U D (Ew x t u):=by
 refine Bu (us:=[]) (ps:=[]) rfl hP fun A s R _ _ _ _ _ h5 hR=>?_
 refine AA F.entry_enumerate_new (by decide +kernel) (meets_enum1S x t u) ?_
 obtain⟨k1,k2,k3⟩:=BP (s:=s.heap) (l:=[oSi x t 0,Cd s.heap.objs.size 1 .none]) (ζ2 rfl rfl)
 have hc:=hR {s with heap:=List.foldl Heap.push s.heap [oSi x t 0,Cd s.heap.objs.size 1 .none]} ⟨rfl,rfl,k1,(fun b o e _=>k2 b o e),(fun p hp=>nomatch hp),k3⟩
 rw [Heap.size_push]
 exact hc
end
theorem Draws.up{prog:Program}{w:World}{A:Around}{it:Addr}{fp:List Addr}{n:Nat}{P:Nat→Value→Prop}{St:Nat→Heap→Prop}(D:Draws prog w A it fp n P St) :
  Draws prog w A it fp (n+1) (fun i=>P (i-1)) (fun i h=>1≤i∧St (i-1) h) where
 live:=fun i h st=>D.live _ _ st.2
 frame:=fun i h h' st hk=>⟨st.1,D.frame _ _ _ st.2 hk⟩
 item:=fun i s Q E hi st hQ=>D.item (i-1) s Q E (by have:=st.1; omega) st.2 fun x h' tk hP hst hs=>hQ x h' tk hP ⟨by omega,by have:=st.1; rw [show i+1-1=i-1+1 by omega]; exact hst⟩ hs
 done:=fun s Q E st hE=>D.done s Q E (by simpa using st.2) hE
noncomputable def Hw(target:Expr)(it v:Value)(body orelse:List Stmt)(env:Env):Sem PySem.Fin:=
 PySem.W.R.bindR (PySem.W.Fast.tw17772580674575903948 target env v) fun _=>PySem.W.R.bindR (PySem.W.Fast.tw12563942051412417395 body env) fun f=>match f with
  | .next | .cont=>.pure (.again (.forLoop target it body orelse env))
  | .brk=>.pure (.done .next)
  | .ret v=>.pure (.done (.ret v))
theorem asgT_eq(target:Expr)(it v:Value)(body orelse:List Stmt)(env:Env):Hw target it v body orelse env=(assign target env v >>= fun _=>execs body env >>= fun f=>match f with
  | .next | .cont=>again (.forLoop target it body orelse env)
  | .brk=>pure (.done .next)
  | .ret v=>pure (.done (.ret v))):=by
 unfold Hw
 rw [←PySem.W.R.bindR_eq,←PySem.W.Fast.te12563942051412417395,←PySem.W.Fast.te17772580674575903948]
 rfl
section
variable{prog:Program}{w:World}{A:Around}{R:Result→Shared→Prop}{s:Shared}{env:Env}{it:Addr}{fp:List Addr}{n i:Nat}{P:Nat→Value→Prop}{St:Nat→Heap→Prop}{old:Value}{e:Addr}{elts:List Expr}{x1:Nat}{pos:Pos}{body orelse:List Stmt}
theorem for_item(D:∀ A:Around,A.handled=none→Draws prog w A it fp n P St)(hh:A.handled=none)(he:s.heap.get? e=some (Cd it ((i+1:Nat):Int) old))(hst:St i s.heap)(hlt:i<n)(hne:e≠it)(hef:e∉fp)
  (h:∀ x h' tk T,P i x→T=s.heap.objs.size→h'.get? e=some (Cd it ((i+1+1:Nat):Int) x)→St (i+1) h'→h'.get? T=some (AQ [.int ((i+1:Nat):Int) tk,x])→h'.objs.size=s.heap.objs.size+1→(∀ b o,b≠e→b≠it→s.heap.get? b=some o→h'.get? b=some o)→
   wpAny (model prog w) A (Hw (.Tuple elts x1 pos) (.ref e) (.ref T) body orelse env) (C9 (model prog w) A R) (notedBy (model prog w) A env fun e s'=>R (.error e) s') {s with heap:=h',toks:=tk+1}) :
  codeAny (model prog w) A (.forLoop (.Tuple elts x1 pos) (.ref e) body orelse env) R s:=by
 refine codeAny_of_tree ?_
 rw [Around.under_of_weight rfl]
 show wpAny _ _ ((forTurn (.Tuple elts x1 pos) (.ref e) body orelse env).onRaise (fun x=>do noteFrame x env; theTreesLotGoes x)) _ _ s
 refine wpAny_noted ?_
 simp only [forTurn]
 have hlE:=ιH he
 refine wpAny_bind (wpAny_standAt (wpAny_bind (wpAny_onRaise (wpAny_pyNext_enum_itemD (i:=i+1) (Draws.up (D _ hh)) he ⟨Nat.succ_pos i,hst⟩ (ω5j hlt) hne hef fun x h₁ tk hP ho hst₁ ht hz hk=>?_))))
 dsimp only
 refine wpAny_bind (wpAny_letOwnedTupleGo_enum ho fun h₂ he₂ hs₂=>?_)
 replace hs₂:Heap.SameBut e h₁ h₂:=hs₂
 have:=h x h₂ tk s.heap.objs.size hP rfl he₂ ?_ ?_ ?_ ?_
 ·rw [asgT_eq] at this
  exact wpAny_mono this (fun fin s' q=>by cases fin <;> exact q) fun _ _ q=>q
 ·exact(D A hh).frame _ _ _ hst₁.2 fun b hb o y=>hs₂.extBut b o (fun q=>hef (q▸hb)) y
 ·exact hs₂.extBut _ _ (Nat.ne_of_gt hlE) ht
 ·rw [hs₂.1,hz]
 ·exact fun b o h1 h2 y=>hs₂.extBut b o h1 (hk b o h1 h2 y)
theorem for_end(D:∀ A:Around,A.handled=none→Draws prog w A it fp n P St)(hh:A.handled=none)(he:s.heap.get? e=some (Cd it ((n+1:Nat):Int) old))(hst:St n s.heap)
  (h:∀ h',Heap.ExtBut it s.heap h'→R (.ok .next) {s with heap:=h'}):codeAny (model prog w) A (.forLoop (.Tuple elts x1 pos) (.ref e) body [] env) R s:=by
 refine codeAny_of_tree ?_
 rw [Around.under_of_weight rfl]
 show wpAny _ _ ((forTurn (.Tuple elts x1 pos) (.ref e) body [] env).onRaise (fun x=>do noteFrame x env; theTreesLotGoes x)) _ _ s
 refine wpAny_noted ?_
 simp only [forTurn]
 refine wpAny_bind (wpAny_standAt (wpAny_bind (wpAny_onRaise (wpAny_pyNext_enum_endD (Draws.up (D _ hh)) he ⟨Nat.succ_pos n,by simpa using hst⟩ fun h' hx=>?_))))
 exact ιp ⟨rfl,codeAny_block (wpAny_execs_nil (h h' hx))⟩
end
noncomputable def Ep:Expr→Bool
 | .ListComp _ (g::_) _ _=>g.is_async == 0
 | _=>false
theorem Gv{e:Expr}(h:Ep e=true):∃ elt t i f r sc pos,e=.ListComp elt (⟨t,i,f,0⟩::r) sc pos:=by
 cases e with
 | ListComp elt gens scope pos=>
  cases gens with
  | nil=>cases h
  | cons g rest=>
   obtain⟨t,i,f,a⟩:=g
   have:a=0:=eq_of_beq h
   subst this
   exact⟨_,_,_,_,_,_,_,rfl⟩
 | _=>cases h
section
variable{prog:Program}{w:World}{A:Around}{R:Result→Shared→Prop}{s:Shared}{env:Env}{e:Expr}{acc:Value}
theorem DW(hl:Ep e=true){it:Value}(h:wpAny (model prog w) A (Ed e it acc env) (C9 (model prog w) A R) (notedBy (model prog w) A env fun e s'=>R (.error e) s') s) :
  codeAny (model prog w) A (.compLoop e 0 it acc env) R s:=by
 obtain⟨elt,t,i,f,r,sc,pos,rfl⟩:=Gv hl
 refine codeAny_of_tree ?_
 rw [Around.under_of_weight rfl]
 show wpAny _ _ ((compTurn (.ListComp elt (⟨t,i,f,0⟩::r) sc pos) 0 it acc env).onRaise (fun x=>do noteFrame x env; theTreesLotGoes x)) _ _ s
 refine wpAny_noted ?_
 unfold Ed at h
 rw [←PySem.W.Fast.te1180062409338748621] at h
 exact wpAny_mono h (fun fin s' q=>by cases fin <;> exact q) fun _ _ q=>q
theorem FT(hl:Ep e=true){i l:Addr}{j:Nat}(hit:s.heap.IsListIter i l j)(h:codeAny (model prog w) A (.compLoop e 0 (.ref i) acc env) R s):codeAny (model prog w) A (.compStart e 0 (.ref i) acc env) R s:=by
 obtain⟨elt,t,i',f,r,sc,pos,rfl⟩:=Gv hl
 exact codeAny_compStart_list h (wpAny_pyIter_listiter hit h)
end
noncomputable def loF(w:World):II:=Ju (A0 w 523)[4]?
noncomputable def liF(w:World):II:=Ju (loF w).body[0]?
noncomputable def JB(h:Heap)(G:Prop):List (Option (Addr×Obj))→Prop
 | []=>G
 | none::l=>JB h G l
 | some (a,o)::l=>h.get? a=some o→JB h G l
theorem DY.go{h:Heap}{G:Prop}:∀ {l:List (Option (Addr×Obj))},DY h l→JB h G l→G
 | [],_,k=>k
 | none::l,H,k=>DY.go (l:=l) (fun p hp=>H p (.tail _ hp)) k
 | some (a,o)::l,H,k=>DY.go (l:=l) (fun p hp=>H p (.tail _ hp)) (k (H (a,o) (.head _)))
theorem nd4{a b c d:Nat}(h1:a≠b)(h2:a≠c)(h3:a≠d)(h4:b≠c)(h5:b≠d)(h6:c≠d):[a,b,c,d].Nodup:=by simp [h1,h2,h3,h4,h5,h6]
theorem m0{α:Type}{a:α}{l:List α}:a∈a::l:=.head _
theorem m1{α:Type}{a b:α}{l:List α}:a∈b::a::l:=.tail _ μ0
theorem m2{α:Type}{a b c:α}{l:List α}:a∈b::c::a::l:=.tail _ m1
theorem m3{α:Type}{a b c d:α}{l:List α}:a∈b::c::d::a::l:=.tail _ m2
theorem Fc{l:Led}{q:Addr×Obj}(h:q∈l):q.1∈l.map (·.1):=List.mem_map_of_mem (f:=(·.1)) h
noncomputable def J9(v:Value):Prop:=∃ (n tk:Nat),v=.int (n:Nat) tk
noncomputable def Fd(v:Value):Prop:=∃ (x:Str) (tk:Nat),v=.str x tk∧x.length≤12
noncomputable def DN(w:World)(h:Heap)(d:Addr):Bool→Prop
 | false=>h.get? d=some (AU [] 0)
 | true=>∃ kn vn,h.get? d=some (AU [de w "n" kn vn] 1)
section
variable{w:World}{ext:Addr→Option Obj}
theorem Jj{P:Par}{g:Bq}{U D:Nat}{z:Int}{t u:Nat}(hP:∀ b,P.n≤b→P.look b=none):AK P g U D (sMd (.int z t) (.int (10 ^ Int.toNat 12) u) ((z.fmod (10 ^ Int.toNat 12)).toNat:Nat)):=by
 have e:(((z.fmod (10 ^ Int.toNat 12)).toNat:Nat):Int)=z.fmod (10 ^ Int.toNat 12):=Int.toNat_of_nonneg (Int.fmod_nonneg_of_pos z (by decide))
 rw [e]
 exact Hg hP F.entry_int_mod (by decide +kernel) (AutoIntG6.int___mod___int_int_1 _ _ _ _ (by decide))
theorem comp0_loop(W:Ae w){L cx cy cz it cl acc d:Nat}(nd:[d,it,acc,cl].Nodup)(ap:∀ a∈[d,it,acc,cl],lkX w ext a=none){xs:List Value}{ec:Nat}(hx:∀ v∈xs,∃ z tz,v=.int z tz)(hz:xs.length≤100){A:Around}(hA:Ar A 60) :
  ∀ (m j:Nat) (b:Bool) (ea:Nat) (zs:List Value) (st:Shared),m+j=xs.length→zs.length=j→b=decide (0<j)→(∀ v∈zs,J9 v)→Ak w ext st→DN w st.heap d b→st.heap.get? it=some (oIt cl j)→st.heap.get? acc=some (lst zs ea)→st.heap.get? cl=some (lst xs ec)→
   (∀ s' ea' zs',Aft [d,it,acc,cl] st s'→zs'.length=xs.length→(∀ v∈zs',J9 v)→DN w s'.heap d (decide (0<xs.length))→s'.heap.get? acc=some (lst zs' ea')→R (.ok .next) s')→
   codeAny (model pr2 w) A (.compLoop (CN w 0) 0 (.ref it) (.ref acc) (Dv w 0 L cx cy cz d)) R st:=by
 have hok:Ep (CN w 0)=true:=by kernel_rfl
 intro m
 induction m with
 | zero=>
  intro j b ea zs st hj hl hb hv S hD hI hA' hC hR
  have hn:xs[j]? = none:=List.getElem?_eq_none (ω5k hj)
  have hjx:j=xs.length:=ω5l hj
  refine DW hok ?_
  cases b with
  | false=>
   refine uL W S hA rfl (tc0a_v _ _ _ _ _ L cx cy cz it cl acc d j ec ea xs zs) (Ab (Ch S.new (Nat.zero_le 1) hn) Aa) (ζ4 hD hI hA' hC) nd (fun q hq=>ap q.1 (Fc hq)) fun s1 I1 H1=>ιp ?_
   refine H1.go ?_
   intro a1 a2
   refine hR s1 ea zs I1.aft (ω5m hj hl) hv ?_ a2
   rw [←hjx,←hb]; exact a1
  | true=>
   obtain⟨kn,vn,hD⟩:=hD
   refine uL W S hA rfl (tc0b_v _ _ _ _ _ L cx cy cz it cl acc d j ec ea kn xs zs vn) (Ab (Ch S.new (Nat.zero_le 1) hn) Aa) (ζ4 hD hI hA' hC) nd (fun q hq=>ap q.1 (Fc hq)) fun s1 I1 H1=>ιp ?_
   refine H1.go ?_
   intro a1 a2
   refine hR s1 ea zs I1.aft (ω5m hj hl) hv ?_ a2
   rw [←hjx,←hb]; exact⟨kn,vn,a1⟩
 | succ m ih=>
  intro j b ea zs st hj hl hb hv S hD hI hA' hC hR
  have hlt:j<xs.length:=ω5n hj
  obtain⟨z,tz,ez⟩:=hx _ (List.getElem_mem hlt)
  have hg:xs[j]? = some (.int z tz):=by rw [List.getElem?_eq_getElem hlt,ez]
  have hsz:=sZ
  have nx:∀ {s1:Shared} {kn':Nat} {vn':Value} {tt:Nat},Aft [d,it,acc,cl] st s1→s1.heap.get? d=some (AU [de w "n" kn' vn'] 1)→s1.heap.get? it=some (oIt cl (j+1))→s1.heap.get? acc=some (lst (zs++[.int ((z.fmod (10 ^ Int.toNat 12)).toNat:Nat) tt]) (ea+1))→s1.heap.get? cl=some (lst xs ec)→
    codeAny (model pr2 w) A (.compLoop (CN w 0) 0 (.ref it) (.ref acc) (Dv w 0 L cx cy cz d)) R s1:=fun a h1 h2 h3 h4=>ih (j+1) true (ea+1) _ _ (ω5o hj) (by rw [List.length_append,hl]; rfl) (by simp)
   (fun v hv'=>by
    rcases ιM hv' with q | q
    ·exact hv v q
    ·exact⟨_,_,ιS q⟩) (S.aft a ap) ⟨_,_,h1⟩ h2 h3 h4 fun s' ea' zs' a'=>hR s' ea' zs' (a.trans a')
  refine DW hok ?_
  cases b with
  | false=>
   refine uA W S hA rfl (tb1_v _ _ _ _ _ L cx cy cz it cl acc d j ec ea xs zs z ((z.fmod (10 ^ Int.toNat 12)).toNat:Nat) tz) (ζ3 (AN S.new (Nat.zero_le 2) (ω5p hz hj hl hsz)) (Jj S.new) (DB S.new (Nat.zero_le 1) hg)) (ζ4 hD hI hA' hC) nd (fun q hq=>ap q.1 (Fc hq)) fun s1 I1 H1=>ιp ⟨rfl,?_⟩
   refine H1.go ?_
   intro a1 a2 a3 a4
   exact nx I1.aft a1 a2 a3 a4
  | true=>
   obtain⟨kn,vn,hD⟩:=hD
   refine uA W S hA rfl (tb2_v _ _ _ _ _ L cx cy cz it cl acc d j ec ea kn xs zs z ((z.fmod (10 ^ Int.toNat 12)).toNat:Nat) tz vn) (ζ3 (AN S.new (Nat.zero_le 2) (ω5p hz hj hl hsz)) (Jj S.new) (DB S.new (Nat.zero_le 1) hg)) (ζ4 hD hI hA' hC) nd (fun q hq=>ap q.1 (Fc hq)) fun s1 I1 H1=>ιp ⟨rfl,?_⟩
   refine H1.go ?_
   intro a1 a2 a3 a4
   exact nx I1.aft a1 a2 a3 a4
theorem nd4'{a b c d:Nat}(h:[a,b,c,d].Nodup):a≠b∧a≠c∧b≠c∧d≠c:=by
 replace h:=ω9i.1 h
 exact⟨h.1.1,h.1.2.1,h.2.1.1,Ne.symm h.2.2.1⟩
theorem comp1_loop(W:Ae w){L cx cy cz it cl acc d:Nat}(nd:[d,it,acc,cl].Nodup)(ap:∀ a∈[d,it,acc,cl],lkX w ext a=none){xs:List Value}{ec:Nat}(hx:∀ v∈xs,J9 v)(hz:xs.length≤100){A:Around}(hA:Ar A 300) :
  ∀ (m j:Nat) (b:Bool) (ea:Nat) (zs:List Value) (st:Shared),m+j=xs.length→zs.length=j→b=decide (0<j)→(∀ v∈zs,Fd v)→Ak w ext st→DN w st.heap d b→st.heap.get? it=some (oIt cl j)→st.heap.get? acc=some (lst zs ea)→st.heap.get? cl=some (lst xs ec)→
   (∀ s' ea' zs',Aft [d,it,acc,cl] st s'→zs'.length=xs.length→(∀ v∈zs',Fd v)→DN w s'.heap d (decide (0<xs.length))→s'.heap.get? acc=some (lst zs' ea')→R (.ok .next) s')→
   codeAny (model pr2 w) A (.compLoop (CN w 2) 0 (.ref it) (.ref acc) (Dv w 2 L cx cy cz d)) R st:=by
 have hok:Ep (CN w 2)=true:=by kernel_rfl
 have na:=nd4' nd
 intro m
 induction m with
 | zero=>
  intro j b ea zs st hj hl hb hv S hD hI hA' hC hR
  have hn:xs[j]? = none:=List.getElem?_eq_none (ω5k hj)
  have hjx:j=xs.length:=ω5l hj
  refine DW hok ?_
  cases b with
  | false=>
   refine uL W S hA rfl (tc2a_v _ _ _ _ _ L cx cy cz it cl acc d j ec ea xs zs) (Ab (Ch S.new (Nat.zero_le 1) hn) Aa) (ζ4 hD hI hA' hC) nd (fun q hq=>ap q.1 (Fc hq)) fun s1 I1 H1=>ιp ?_
   refine H1.go ?_
   intro a1 a2
   refine hR s1 ea zs I1.aft (ω5m hj hl) hv ?_ a2
   rw [←hjx,←hb]; exact a1
  | true=>
   obtain⟨kn,vn,hD⟩:=hD
   refine uL W S hA rfl (tc2b_v _ _ _ _ _ L cx cy cz it cl acc d j ec ea kn xs zs vn) (Ab (Ch S.new (Nat.zero_le 1) hn) Aa) (ζ4 hD hI hA' hC) nd (fun q hq=>ap q.1 (Fc hq)) fun s1 I1 H1=>ιp ?_
   refine H1.go ?_
   intro a1 a2
   refine hR s1 ea zs I1.aft (ω5m hj hl) hv ?_ a2
   rw [←hjx,←hb]; exact⟨kn,vn,a1⟩
 | succ m ih=>
  intro j b ea zs st hj hl hb hv S hD hI hA' hC hR
  have hlt:j<xs.length:=ω5n hj
  obtain⟨z,tz,ez⟩:=hx _ (List.getElem_mem hlt)
  have hg:xs[j]? = some (.int (z:Nat) tz):=by rw [List.getElem?_eq_getElem hlt,ez]
  have hsz:=sZ
  have nx:∀ {s1:Shared} {kn':Nat} {vn':Value} {tt:Nat} {ty:Str},Aft [d,it,acc,cl] st s1→ty.length≤12→s1.heap.get? d=some (AU [de w "n" kn' vn'] 1)→s1.heap.get? it=some (oIt cl (j+1))→s1.heap.get? acc=some (lst (zs++[.str ty tt]) (ea+1))→s1.heap.get? cl=some (lst xs ec)→
    codeAny (model pr2 w) A (.compLoop (CN w 2) 0 (.ref it) (.ref acc) (Dv w 2 L cx cy cz d)) R s1:=fun a hy h1 h2 h3 h4=>ih (j+1) true (ea+1) _ _ (ω5o hj) (by rw [List.length_append,hl]; rfl) (by simp)
   (fun v hv'=>by
    rcases ιM hv' with q | q
    ·exact hv v q
    ·exact⟨_,_,ιS q,hy⟩) (S.aft a ap) ⟨_,_,h1⟩ h2 h3 h4 fun s' ea' zs' a'=>hR s' ea' zs' (a.trans a')
  refine DW hok ?_
  cases b with
  | false=>
   refine uC W S hA (td1_v _ _ _ _ _ L cx cy cz it cl acc d j ec ea xs zs z tz) rfl (Ab (DB S.new (Nat.zero_le 1) hg) Aa) (ζ4 hD hI hA' hC) nd (fun q hq=>ap q.1 (Fc hq)) fun s1 I1 H1=>?_
   refine H1.go ?_
   intro a1 a2 a3 a4
   have S1:Ak w ext s1:=S.aft I1.aft ap
   refine Ge W hA S1 fun s2 tk ty a5 hty=>?_
   have S2:Ak w ext s2:=S1.aft a5 Aa
   have kp:∀ {a o},s1.heap.get? a=some o→s2.heap.get? a=some o:=fun e=>a5.keep _ _ e (fun q=>nomatch q)
   refine uA W S2 hA rfl (td1r_v _ _ _ _ _ L cx cy cz it cl acc d j ec ea xs zs z tz s2.heap.objs.size s2.toks ty tk) (Ab (AN S2.new (Nat.zero_le 0) (ω5p hz hj hl hsz)) Aa) (Ab (kp a3) Aa) (by simp) (Ab (ap _ m2) Aa) fun s3 I3 H3=>ιp ⟨rfl,?_⟩
   refine H3.go ?_
   intro a6
   have ks:∀ {a o},a≠acc→s1.heap.get? a=some o→s3.heap.get? a=some o:=fun n e=>I3.aft.keep _ _ (kp e) (fun q=>n (ιS q))
   exact nx (I1.aft.trans ((a5.mono Aa).trans (I3.aft.mono fun x q=>by rw [ιS q]; exact m2))) hty (ks na.2.1 a1) (ks na.2.2.1 a2) a6 (ks na.2.2.2 a4)
  | true=>
   obtain⟨kn,vn,hD⟩:=hD
   refine uC W S hA (td2_v _ _ _ _ _ L cx cy cz it cl acc d j ec ea kn xs zs z tz vn) rfl (Ab (DB S.new (Nat.zero_le 1) hg) Aa) (ζ4 hD hI hA' hC) nd (fun q hq=>ap q.1 (Fc hq)) fun s1 I1 H1=>?_
   refine H1.go ?_
   intro a1 a2 a3 a4
   have S1:Ak w ext s1:=S.aft I1.aft ap
   refine Ge W hA S1 fun s2 tk ty a5 hty=>?_
   have S2:Ak w ext s2:=S1.aft a5 Aa
   have kp:∀ {a o},s1.heap.get? a=some o→s2.heap.get? a=some o:=fun e=>a5.keep _ _ e (fun q=>nomatch q)
   refine uA W S2 hA rfl (td2r_v _ _ _ _ _ L cx cy cz it cl acc d j ec ea kn xs zs z tz vn s2.heap.objs.size s2.toks ty tk) (Ab (AN S2.new (Nat.zero_le 0) (ω5p hz hj hl hsz)) Aa) (Ab (kp a3) Aa) (by simp) (Ab (ap _ m2) Aa) fun s3 I3 H3=>ιp ⟨rfl,?_⟩
   refine H3.go ?_
   intro a6
   have ks:∀ {a o},a≠acc→s1.heap.get? a=some o→s3.heap.get? a=some o:=fun n e=>I3.aft.keep _ _ (kp e) (fun q=>n (ιS q))
   exact nx (I1.aft.trans ((a5.mono Aa).trans (I3.aft.mono fun x q=>by rw [ιS q]; exact m2))) hty (ks na.2.1 a1) (ks na.2.2.1 a2) a6 (ks na.2.2.2 a4)
end
section
variable(w:World)(f:Fl)(ext:Addr→Option Obj)(n t L cx cy cz:Nat)(k:Nat→Nat)(v:Nat→Value)(pc ch sp e T r tr c tc:Nat)(pS sg:Str)(pT sT es ec:Nat)(ps ss cs:List Value)
def tf1:Res:=
 run (P4 w f ext n t 0) 106 (ιx 59 0x1a0a0aaa0a0aa2000100111186656606066656606066656606066050555) ([G0 1 pc ps 0 (t+2)].map Sp.x) [(L,oFr [de w "script" (k 0) (v 0),de w "tape" (k 1) (v 1),de w "head" (k 2) (v 2),de w "pieces" (k 3) (.ref pc)] 4),(pc,lst ps 0)] 0 0 .tree
  (Az (Bp w 3 2) (Ai w L cx cy cz)) [] [] []
theorem tf1_v:RvC (tf1 w f ext n t L cx cy cz k v pc ps) [0,1,2,3,8,9] (.call (.forLoop (loF w).x (.ref (n+7)) (loF w).body [] (Ai w L cx cy cz))) 1 8 3 [some (L,oFr [de w "script" (k 0) (v 0),de w "tape" (k 1) (v 1),de w "head" (k 2) (v 2),de w "pieces" (k 3) (.ref pc),de w "spots" (t+0) (.ref (n+1)),de w "chars" (t+1) (.ref n)] 6),some (pc,lst ps 0),some (n,lst [] 0),some (n+1,lst [] 0),some (n+6,oIt pc 0),some (n+7,Cd (n+6) 1 .none)] [G0 1 pc ps 0 (t+2)]:=by rcases f with⟨_ | _,_,_⟩ <;> kernel_rfl
def to1:Res:=
 run (P4 w f ext n t 0) 101 (ιx 59 0x17070777070772000100111153323303033323303033323303033020222) ([Ew pS pT (t+2)].map Sp.x) [(L,oFr [de w "script" (k 0) (v 0),de w "tape" (k 1) (v 1),de w "head" (k 2) (v 2),de w "pieces" (k 3) (v 3),de w "spots" (k 5) (.ref sp),de w "chars" (k 4) (.ref ch)] 6),(T,AQ [.int (r:Nat) tr,.str pS pT])] 0 0 .tree
  (Hw (loF w).x (.ref e) (.ref T) (loF w).body [] (Ai w L cx cy cz)) [] [] []
theorem to1_v:RvC (to1 w f ext n t L cx cy cz k v ch sp e T r tr pS pT) [0,5,6] (.call (.forLoop (liF w).x (.ref (n+4)) (liF w).body [] (Ai w L cx cy cz))) 1 5 3 [some (L,oFr [de w "script" (k 0) (v 0),de w "tape" (k 1) (v 1),de w "head" (k 2) (v 2),de w "pieces" (k 3) (v 3),de w "spots" (k 5) (.ref sp),de w "chars" (k 4) (.ref ch),de w "row" (t+0) (.int (r:Nat) tr),de w "piece" (t+1) (.str pS pT)] 8),some (n+3,oSi pS pT 0),some (n+4,Cd (n+3) 1 .none)] [Ew pS pT (t+2)]:=by rcases f with⟨_ | _,_,_⟩ <;> kernel_rfl
def to2:Res:=
 run (P4 w f ext n t 0) 101 (ιx 59 0x17070777070772000100111153323303033323303033323303033020222) ([Ew pS pT (t+2)].map Sp.x) [(L,oFr [de w "script" (k 0) (v 0),de w "tape" (k 1) (v 1),de w "head" (k 2) (v 2),de w "pieces" (k 3) (v 3),de w "spots" (k 5) (.ref sp),de w "chars" (k 4) (.ref ch),de w "row" (k 6) (v 6),de w "piece" (k 7) (v 7),de w "column" (k 8) (v 8),de w "sign" (k 9) (v 9)] 10),(T,AQ [.int (r:Nat) tr,.str pS pT])] 0 0 .tree
  (Hw (loF w).x (.ref e) (.ref T) (loF w).body [] (Ai w L cx cy cz)) [] [] []
theorem to2_v:RvC (to2 w f ext n t L cx cy cz k v ch sp e T r tr pS pT) [0,5,6] (.call (.forLoop (liF w).x (.ref (n+4)) (liF w).body [] (Ai w L cx cy cz))) 1 5 3 [some (L,oFr [de w "script" (k 0) (v 0),de w "tape" (k 1) (v 1),de w "head" (k 2) (v 2),de w "pieces" (k 3) (v 3),de w "spots" (k 5) (.ref sp),de w "chars" (k 4) (.ref ch),de w "row" (k 6) (.int (r:Nat) tr),de w "piece" (k 7) (.str pS pT),de w "column" (k 8) (v 8),de w "sign" (k 9) (v 9)] 10),some (n+3,oSi pS pT 0),some (n+4,Cd (n+3) 1 .none)] [Ew pS pT (t+2)]:=by rcases f with⟨_ | _,_,_⟩ <;> kernel_rfl
def ti1:Res:=
 run (P4 w f ext n t 0) 525 (ιx 372 0x240ccc0d000d0d00d0000deeccc0d000d0d00d0000dee0eeeeee30000d0d000000000000000000000000000000000a0a000000a0000000000a0a00a0000abba0a000000a0000000000a0a00a0000abba0a000000a0000000000a0a00a0000abba0a000000a0000000000a0a00a0000abba0a000000a0000000000a0a00a0000abb0bbbbbbbbbbbb030000a0a00000000000000000000000000000000011010444412301133331111175525505055525505055525505055020222) ([Bc 2 sp ss es (.ref (n+3)),Bc 3 ch cs ec (.ref (n+8))].map Sp.x) [(L,oFr [de w "script" (k 0) (v 0),de w "tape" (k 1) (v 1),de w "head" (k 2) (v 2),de w "pieces" (k 3) (v 3),de w "spots" (k 5) (.ref sp),de w "chars" (k 4) (.ref ch),de w "row" (k 6) (.int (r:Nat) tr),de w "piece" (k 7) (v 7)] 8),(T,AQ [.int (c:Nat) tc,.str sg sT]),(sp,lst ss es),(ch,lst cs ec)] 0 0 .tree
  (Hw (liF w).x (.ref e) (.ref T) (liF w).body [] (Ai w L cx cy cz)) [] [] []
theorem ti1_v:RvD (ti1 w f ext n t L cx cy cz k v ch sp e T r tr c tc sg sT es ec ss cs) [0,2,3,7,9,11,12] (.again (.forLoop (liF w).x (.ref e) (liF w).body [] (Ai w L cx cy cz))) 1 10 22 [some (L,oFr [de w "script" (k 0) (v 0),de w "tape" (k 1) (v 1),de w "head" (k 2) (v 2),de w "pieces" (k 3) (v 3),de w "spots" (k 5) (.ref sp),de w "chars" (k 4) (.ref ch),de w "row" (k 6) (.int (r:Nat) tr),de w "piece" (k 7) (v 7),de w "column" (t+0) (.int (c:Nat) tc),de w "sign" (t+1) (.str sg sT)] 10),some (sp,lst (ss++[.ref (n+3)]) (es+1)),some (ch,lst (cs++[.ref (n+8)]) (ec+1)),some (n+3,AQ [.int (r:Nat) tr,.int (c:Nat) tc]),some (n+5,oL (n+4) (.int (c:Nat) tc) (.str "t.c" (t+2)) (.int 1 (t+3)) (.int (r:Nat) tr) .none),some (n+7,oDc w (t+19) (t+21) (.str sg sT) (n+5)),some (n+8,oC (n+7))] [Bc 3 ch cs ec (.ref (n+8)),Bc 2 sp ss es (.ref (n+3))]:=by rcases f with⟨_ | _,_,_⟩ <;> kernel_rfl
def ti2:Res:=
 run (P4 w f ext n t 0) 525 (ιx 372 0x240ccc0d000d0d00d0000deeccc0d000d0d00d0000dee0eeeeee30000d0d000000000000000000000000000000000a0a000000a0000000000a0a00a0000abba0a000000a0000000000a0a00a0000abba0a000000a0000000000a0a00a0000abba0a000000a0000000000a0a00a0000abba0a000000a0000000000a0a00a0000abb0bbbbbbbbbbbb030000a0a00000000000000000000000000000000011010444412301133331111175525505055525505055525505055020222) ([Bc 2 sp ss es (.ref (n+3)),Bc 3 ch cs ec (.ref (n+8))].map Sp.x) [(L,oFr [de w "script" (k 0) (v 0),de w "tape" (k 1) (v 1),de w "head" (k 2) (v 2),de w "pieces" (k 3) (v 3),de w "spots" (k 5) (.ref sp),de w "chars" (k 4) (.ref ch),de w "row" (k 6) (.int (r:Nat) tr),de w "piece" (k 7) (v 7),de w "column" (k 8) (v 8),de w "sign" (k 9) (v 9)] 10),(T,AQ [.int (c:Nat) tc,.str sg sT]),(sp,lst ss es),(ch,lst cs ec)] 0 0 .tree
  (Hw (liF w).x (.ref e) (.ref T) (liF w).body [] (Ai w L cx cy cz)) [] [] []
theorem ti2_v:RvD (ti2 w f ext n t L cx cy cz k v ch sp e T r tr c tc sg sT es ec ss cs) [0,2,3,7,9,11,12] (.again (.forLoop (liF w).x (.ref e) (liF w).body [] (Ai w L cx cy cz))) 1 10 22 [some (L,oFr [de w "script" (k 0) (v 0),de w "tape" (k 1) (v 1),de w "head" (k 2) (v 2),de w "pieces" (k 3) (v 3),de w "spots" (k 5) (.ref sp),de w "chars" (k 4) (.ref ch),de w "row" (k 6) (.int (r:Nat) tr),de w "piece" (k 7) (v 7),de w "column" (k 8) (.int (c:Nat) tc),de w "sign" (k 9) (.str sg sT)] 10),some (sp,lst (ss++[.ref (n+3)]) (es+1)),some (ch,lst (cs++[.ref (n+8)]) (ec+1)),some (n+3,AQ [.int (r:Nat) tr,.int (c:Nat) tc]),some (n+5,oL (n+4) (.int (c:Nat) tc) (.str "t.c" (t+2)) (.int 1 (t+3)) (.int (r:Nat) tr) .none),some (n+7,oDc w (t+19) (t+21) (.str sg sT) (n+5)),some (n+8,oC (n+7))] [Bc 3 ch cs ec (.ref (n+8)),Bc 2 sp ss es (.ref (n+3))]:=by rcases f with⟨_ | _,_,_⟩ <;> kernel_rfl
end
noncomputable abbrev no:Addr→Option Obj:=fun _=>none
theorem ap5{w:World}{a:Nat}(h:524≤a):lkX w no a=none:=by
 unfold lkX
 rw [Cj w a h]
theorem pick_upto(xs:List Value):slicePick ⟨xs⟩ none (some 11) none=⟨xs.take 11⟩:=by
 rw [kmk_pick_nat ⟨xs⟩ (a:=0) (b:=min 11 xs.length) (by
  show(_,_,_)=_
  refine Prod.ext rfl (Prod.ext ?_ rfl)
  show max 0 (min 11 ((xs.length:Nat):Int))=((min 11 xs.length:Nat):Int)
  exact ω5q)]
 show(⟨(xs.drop 0).take (min 11 xs.length-0)⟩:Array Value)=⟨xs.take 11⟩
 rw [List.drop_zero,Nat.sub_zero,←List.take_take,List.take_length]
theorem pick_from(v:Value)(xs:List Value):slicePick ⟨v::xs⟩ (some 1) none none=⟨xs⟩:=by
 rw [kmk_pick_nat ⟨v::xs⟩ (a:=1) (b:=xs.length+1) (by
  show(_,_,_)=_
  refine Prod.ext ?_ (Prod.ext ?_ rfl)
  ·show max 0 (min 1 (((v::xs).length:Nat):Int))=((1:Nat):Int)
   rw [List.length_cons]; exact ω5r
  ·show(((v::xs).length:Nat):Int)=((xs.length+1:Nat):Int)
   rw [List.length_cons])]
 show(⟨((v::xs).drop 1).take (xs.length+1-1)⟩:Array Value)=⟨xs⟩
 simp
noncomputable abbrev fr1(w:World)(k0:Nat)(v0:Value):Obj:=oFr [de w "script" k0 v0] 1
noncomputable abbrev fr2(w:World)(k0 k1:Nat)(v0:Value)(tp:Addr):Obj:=oFr [de w "script" k0 v0,de w "tape" k1 (.ref tp)] 2
section
variable{w:World}{A:Around}{st:Shared}{L cx cy cz sc k0:Nat}{Q:Flow→Shared→Prop}{E:Value→Shared→Prop}
theorem law_s0(W:Ae w)(hA:Ar A 300)(S:Ak w no st){xs:List Value}(h5:524≤L)(h5s:524≤sc)(h5n:524≤st.heap.objs.size)(ne:L≠sc)(hL:st.heap.get? L=some (fr1 w k0 (.ref sc)))(hs:st.heap.get? sc=some (lst xs 0))(hx:∀ v∈xs,∃ z tz,v=.int z tz)(hz:xs.length≤100)
  (h:∀ s' k1 tp ea zs,Aft [L,sc] st s'→s'.heap.get? sc=some (lst xs 0)→st.heap.objs.size≤tp→s'.heap.get? L=some (fr2 w k0 k1 (.ref sc) tp)→s'.heap.get? tp=some (lst zs ea)→0<zs.length→zs.length≤11→(∀ v∈zs,J9 v)→Q .next s') :
  wpAny (model pr2 w) A (execs (Bp w 0 1) (Ai w L cx cy cz)) Q E st:=by
 have lL:(L:Nat)<(st.heap.objs.size:Nat):=ιH hL
 have hok:Ep (CN w 0)=true:=by kernel_rfl
 refine Au ?_
 have hsz:=sZ
 refine uC W S hA (ta1_v _ _ _ _ _ L cx cy cz sc k0 xs (xs.take 11)) rfl (Ab (B3 S.new .none (.int 11 _) (pick_upto xs) (ω0c hz hsz)) Aa) (ζ2 hL hs) (by simp [ne]) (ζ2 (ap5 h5) (ap5 h5s)) fun s1 I1 H1=>?_
 refine H1.go ?_
 intro a1 a2 a3 a4 a5 a6
 have z1:s1.heap.objs.size=st.heap.objs.size+5:=I1.size
 have S1:Ak w no s1:=S.aft I1.aft (ζ2 (ap5 h5) (ap5 h5s))
 refine FT hok (l:=st.heap.objs.size+1) (j:=0) ⟨_,a4,rfl,rfl⟩ ?_
 have nd:[st.heap.objs.size+4,st.heap.objs.size+2,st.heap.objs.size+3,st.heap.objs.size+1].Nodup:=by
  refine nd4 ?_ ?_ ?_ ?_ ?_ ?_ <;> exact ω5s
 have ge:∀ x∈[st.heap.objs.size+4,st.heap.objs.size+2,st.heap.objs.size+3,st.heap.objs.size+1],st.heap.objs.size≤x:=Ab (ιA ..) (ζ3 (ιA ..) (ιA ..) (ιA ..))
 refine comp0_loop W nd (fun a ha=>ap5 (ιT h5n (ge a ha))) (fun v hv=>hx v (List.mem_of_mem_take hv)) (by rw [List.length_take]; exact ω5t) (hA.le (by decide:60≤300)) (xs.take 11).length 0 false 0 [] s1 rfl rfl rfl Aa S1 a6 a4 a5 a3 fun s2 ea zs A2 hl hv hD hacc=>?_
 have S2:Ak w no s2:=S1.aft A2 (fun a ha=>ap5 (ιT h5n (ge a ha)))
 have hL2:s2.heap.get? L=some (fr1 w k0 (.ref sc)):=A2.keep _ _ a1 fun m=>Nat.lt_irrefl _ (ιL lL (ge _ m))
 have n34:L≠st.heap.objs.size+4∧L≠st.heap.objs.size+3:=⟨fun q=>ω5u lL q,fun q=>ω5v lL q⟩
 have lS:(sc:Nat)<(st.heap.objs.size:Nat):=ιH hs
 have hS2:s2.heap.get? sc=some (lst xs 0):=A2.keep _ _ a2 fun m=>Nat.lt_irrefl _ (ιL lS (ge _ m))
 have hS3:∀ {s3:Shared},Aft [L,st.heap.objs.size+4,st.heap.objs.size+3] s2 s3→s3.heap.get? sc=some (lst xs 0):=fun a=>a.keep _ _ hS2 fun m=>by
  rcases ιC m with q | m
  ·exact ne q.symm
  rcases ιC m with q | m
  ·rw [q] at lS; exact Nat.lt_irrefl _ (ιL lS (ιA ..))
  ·rw [ιS m] at lS; exact Nat.lt_irrefl _ (ιL lS (ιA ..))
 have a12:Aft [L,sc,st.heap.objs.size+4,st.heap.objs.size+2,st.heap.objs.size+3,st.heap.objs.size+1] st s2:=(I1.aft.mono fun x q=>List.mem_append_left [st.heap.objs.size+4,st.heap.objs.size+2,st.heap.objs.size+3,st.heap.objs.size+1] q).trans (A2.mono fun x q=>List.mem_append_right [L,sc] q)
 have fin:∀ {s3:Shared},Aft [L,st.heap.objs.size+4,st.heap.objs.size+3] s2 s3→Aft [L,sc] st s3:=fun a=>(a12.trans (a.mono fun x q=>by
  rcases ιC q with q | q
  ·rw [q]; exact m0
  rcases ιC q with q | q
  ·rw [q]; exact m2
  ·rw [ιS q]; exact .tail _ (.tail _ m2))).drop fun x q=>by
   rcases ιM (show x∈[L,sc]++[st.heap.objs.size+4,st.heap.objs.size+2,st.heap.objs.size+3,st.heap.objs.size+1] from q) with q | q
   ·exact .inl q
   ·exact .inr (ge x q)
 have nd3:[L,st.heap.objs.size+4,st.heap.objs.size+3].Nodup:=by simp [n34.1,n34.2]
 have ap3:∀ p∈([L,st.heap.objs.size+4,st.heap.objs.size+3]:List Nat),lkX w no p=none:=Ab (ap5 h5) (ζ2 (ap5 (ιT h5n (ιA ..))) (ap5 (ιT h5n (ιA ..))))
 have hl':zs.length≤11:=by rw [hl,List.length_take]; exact ω5w
 have z2:st.heap.objs.size≤s2.heap.objs.size:=by have:=A2.size; exact ω5x z1 this
 cases zs with
 | nil=>
  have e0:decide (0<(xs.take 11).length)=false:=by rw [←hl]; rfl
  rw [e0] at hD
  refine uL W S2 hA rfl (ta2a_v _ _ _ _ _ L cx cy cz sc k0 xs (xs.take 11) s2.heap.objs.size s2.toks ea) (Ab (Jk S2.new (by decide)) Aa) (ζ3 hL2 hD hacc) nd3 (fun q hq=>ap3 q.1 (Fc hq)) fun s3 I3 H3=>ιp ?_
  refine H3.go ?_
  intro b1 b2
  exact h s3 _ s2.heap.objs.size 0 _ (fin I3.aft) (hS3 I3.aft) z2 b1 b2 (Nat.succ_pos 0) (show 1≤11 by decide) (Ab ⟨0,_,rfl⟩ Aa)
 | cons v1 zs=>
  have e0:decide (0<(xs.take 11).length)=true:=by rw [←hl]; exact decide_eq_true (Nat.succ_pos _)
  rw [e0] at hD
  obtain⟨kn,vn,hD⟩:=hD
  refine uL W S2 hA rfl (ta2b_v _ _ _ _ _ L cx cy cz sc k0 xs (xs.take 11) s2.heap.objs.size s2.toks ea kn v1 vn zs) (Ab (Jk S2.new (ω5y hl')) Aa) (ζ3 hL2 hD hacc) nd3 (fun q hq=>ap3 q.1 (Fc hq)) fun s3 I3 H3=>ιp ?_
  refine H3.go ?_
  intro b1 b2
  exact h s3 _ (st.heap.objs.size+3) ea _ (fin I3.aft) (hS3 I3.aft) (ιA ..) b1 b2 (Nat.succ_pos _) hl' hv
end
noncomputable def kz(l:List Nat)(i:Nat):Nat:=l.getD i 0
noncomputable def vz(l:List Value)(i:Nat):Value:=l.getD i .none
noncomputable abbrev fr3(w:World)(k0 k1 k2:Nat)(v0:Value)(tp hz tz:Nat):Obj:=oFr [de w "script" k0 v0,de w "tape" k1 (.ref tp),de w "head" k2 (.int (hz:Nat) tz)] 3
noncomputable abbrev fr4(w:World)(k0 k1 k2 k3:Nat)(v0:Value)(tp hz tz pc:Nat):Obj:=oFr [de w "script" k0 v0,de w "tape" k1 (.ref tp),de w "head" k2 (.int (hz:Nat) tz),de w "pieces" k3 (.ref pc)] 4
noncomputable def J7(x:Str):Prop:=x=⟨⟨[34]⟩⟩∨x=⟨⟨[64]⟩⟩∨x=ιd∨x=ιe
theorem opener_at(n t:Nat):∃ (oS:Str) (oT:Nat),([.str ⟨⟨[34]⟩⟩ (t+0),.str ⟨⟨[64]⟩⟩ (t+1),.str ιd (t+2),.str ιe (t+3)]:List Value)[n%4]? = some (.str oS oT)∧J7 oS:=by
 have c:n%4=0∨n%4=1∨n%4=2∨n%4=3:=ω5z
 rcases c with c | c | c | c <;> rw [c]
 ·exact⟨_,_,rfl,.inl rfl⟩
 ·exact⟨_,_,rfl,.inr (.inl rfl)⟩
 ·exact⟨_,_,rfl,.inr (.inr (.inl rfl))⟩
 ·exact⟨_,_,rfl,.inr (.inr (.inr rfl))⟩
theorem J7.len{x:Str}(h:J7 x):0<x.length∧x.length≤12:=by
 rcases h with rfl | rfl | rfl | rfl <;> exact⟨by decide,by decide⟩
theorem ending_at(n t:Nat):∃ (oS:Str) (oT:Nat),([.str ⟨⟨[34]⟩⟩ (t+0),.str ⟨⟨[34,97]⟩⟩ (t+1),.str ⟨⟨[]⟩⟩ (t+2),.str ⟨⟨[92]⟩⟩ (t+3)]:List Value)[n%4]? = some (.str oS oT)∧oS.length≤12:=by
 have c:n%4=0∨n%4=1∨n%4=2∨n%4=3:=ω5z
 rcases c with c | c | c | c <;> rw [c] <;> exact⟨_,_,rfl,by decide⟩
section
variable{w:World}{A:Around}{st:Shared}{L cx cy cz tp k0 k1 k2:Nat}{v0:Value}{Q:Flow→Shared→Prop}{E:Value→Shared→Prop}
theorem law_s1(W:Ae w)(hA:Ar A 300)(S:Ak w no st){hz tz ea:Nat}{zs:List Value}(h5:524≤L)(h5s:524≤tp)(ne:L≠tp)(hL:st.heap.get? L=some (fr2 w k0 k1 v0 tp))(hs:st.heap.get? tp=some (lst (.int (hz:Nat) tz::zs) ea))
  (h:∀ s' k2,Aft [L,tp] st s'→s'.heap.get? L=some (fr3 w k0 k1 k2 v0 tp hz tz)→s'.heap.get? tp=some (lst (.int (hz:Nat) tz::zs) ea)→Q .next s') :
  wpAny (model pr2 w) A (execs (Bp w 1 1) (Ai w L cx cy cz)) Q E st:=by
 refine Au ?_
 refine uL W S hA rfl (tg1_v _ _ _ _ _ L cx cy cz (kz [k0,k1]) (vz [v0]) tp ea hz tz zs) (Ab (DC (k:=0) S.new rfl (by decide)) Aa) (ζ2 hL hs) (by simp [ne]) (ζ2 (ap5 h5) (ap5 h5s)) fun s3 I3 H3=>ιp ?_
 refine H3.go ?_
 intro b1 b2
 exact h s3 _ I3.aft b1 b2
theorem law_s2(W:Ae w)(hA:Ar A 300)(S:Ak w no st){hz tz ea:Nat}{zs:List Value}(h5:524≤L)(h5s:524≤tp)(h5n:524≤st.heap.objs.size)(ne:L≠tp)(hL:st.heap.get? L=some (fr3 w k0 k1 k2 v0 tp hz tz))(hs:st.heap.get? tp=some (lst (.int (hz:Nat) tz::zs) ea))(hv:∀ v∈zs,J9 v)(hz2:zs.length≤10)
  (h:∀ s' k3 pc p1 ps,Aft [L,tp] st s'→st.heap.objs.size≤pc→s'.heap.get? L=some (fr4 w k0 k1 k2 k3 v0 tp hz tz pc)→s'.heap.get? pc=some (lst (p1::ps) 0)→(∃ (x:Str) (tk:Nat),p1=.str x tk∧J7 x)→(∀ v∈ps,Fd v)→ps.length≤11→0<ps.length→Q .next s') :
  wpAny (model pr2 w) A (execs (Bp w 2 1) (Ai w L cx cy cz)) Q E st:=by
 have lL:(L:Nat)<(st.heap.objs.size:Nat):=ιH hL
 have hok:Ep (CN w 2)=true:=by kernel_rfl
 have hsz:=sZ
 obtain⟨oS,oT,ho,o1⟩:=opener_at hz st.toks
 refine Au ?_
 refine uC W S hA (th1_v _ _ _ _ _ L cx cy cz (kz [k0,k1,k2]) (vz [v0]) tp ea hz tz zs zs oS oT ((hz%4:Nat):Int)) rfl (ζ3 (B3 S.new (.int 1 _) .none (pick_from _ _) (by rw [List.length_cons]; exact ω60 hz2 hsz)) (DC S.new ho (ω61)) (CL S.new (by decide))) (ζ2 hL hs) (by simp [ne]) (ζ2 (ap5 h5) (ap5 h5s)) fun s1 I1 H1=>?_
 refine H1.go ?_
 intro a1 a2 a3 a4 a5 a6
 have z1:s1.heap.objs.size=st.heap.objs.size+8:=I1.size
 have S1:Ak w no s1:=S.aft I1.aft (ζ2 (ap5 h5) (ap5 h5s))
 refine FT hok (l:=st.heap.objs.size+4) (j:=0) ⟨_,a4,rfl,rfl⟩ ?_
 have nd:[st.heap.objs.size+7,st.heap.objs.size+5,st.heap.objs.size+6,st.heap.objs.size+4].Nodup:=by
  refine nd4 ?_ ?_ ?_ ?_ ?_ ?_ <;> exact ω5s
 have ge:∀ x∈[st.heap.objs.size+7,st.heap.objs.size+5,st.heap.objs.size+6,st.heap.objs.size+4],st.heap.objs.size≤x:=Ab (ιA ..) (ζ3 (ιA ..) (ιA ..) (ιA ..))
 refine comp1_loop W nd (fun a ha=>ap5 (ιT h5n (ge a ha))) hv (ω62 hz2) hA zs.length 0 false 0 [] s1 rfl rfl rfl Aa S1 a6 a4 a5 a3 fun s2 ec ps A2 hl hv2 hD hacc=>?_
 have S2:Ak w no s2:=S1.aft A2 (fun a ha=>ap5 (ιT h5n (ge a ha)))
 have hL2:s2.heap.get? L=some (fr3 w k0 k1 k2 v0 tp hz tz):=A2.keep _ _ a1 fun m=>Nat.lt_irrefl _ (ιL lL (ge _ m))
 have hO2:s2.heap.get? (st.heap.objs.size+2)=some (lst [.str oS oT] 0):=A2.keep _ _ a2 (by simp)
 have n34:L≠st.heap.objs.size+7∧L≠st.heap.objs.size+6∧L≠st.heap.objs.size+2:=⟨fun q=>ω63 lL q,fun q=>ω64 lL q,fun q=>ω65 lL q⟩
 have a12:Aft [L,tp,st.heap.objs.size+7,st.heap.objs.size+5,st.heap.objs.size+6,st.heap.objs.size+4,st.heap.objs.size+2] st s2:=(I1.aft.mono fun x q=>List.mem_append_left [st.heap.objs.size+7,st.heap.objs.size+5,st.heap.objs.size+6,st.heap.objs.size+4,st.heap.objs.size+2] q).trans (A2.mono fun x q=>List.mem_append_right [L,tp] (List.mem_append_left [st.heap.objs.size+2] q))
 have fin:∀ {s3:Shared},Aft [L,st.heap.objs.size+7,st.heap.objs.size+6,st.heap.objs.size+2] s2 s3→Aft [L,tp] st s3:=fun a=>(a12.trans (a.mono fun x q=>by
  rcases ιC q with q | q
  ·rw [q]; exact m0
  rcases ιC q with q | q
  ·rw [q]; exact m2
  rcases ιC q with q | q
  ·rw [q]; exact .tail _ (.tail _ m2)
  ·rw [ιS q]; exact .tail _ (.tail _ (.tail _ m3)))).drop fun x q=>by
   rcases ιM (show x∈[L,tp]++[st.heap.objs.size+7,st.heap.objs.size+5,st.heap.objs.size+6,st.heap.objs.size+4,st.heap.objs.size+2] from q) with q | q
   ·exact .inl q
   ·rcases ιM (show x∈[st.heap.objs.size+7,st.heap.objs.size+5,st.heap.objs.size+6,st.heap.objs.size+4]++[st.heap.objs.size+2] from q) with q | q
    ·exact .inr (ge x q)
    ·rw [ιS q]; exact .inr (ιA ..)
 have nd3:[L,st.heap.objs.size+7,st.heap.objs.size+6,st.heap.objs.size+2].Nodup:=by simp [n34.1,n34.2.1,n34.2.2]
 have ap3:∀ p∈([L,st.heap.objs.size+7,st.heap.objs.size+6,st.heap.objs.size+2]:List Nat),lkX w no p=none:=Ab (ap5 h5) (ζ3 (ap5 (ιT h5n (ιA ..))) (ap5 (ιT h5n (ιA ..))) (ap5 (ιT h5n (ιA ..))))
 have z2:st.heap.objs.size≤s2.heap.objs.size:=by have:=A2.size; exact ω66 z1 this
 obtain⟨eS,eT,he,e1⟩:=ending_at (hz/4) s2.toks
 have fv:∀ v∈ps++[Value.str eS eT],Fd v:=fun v hv'=>by
  rcases ιM hv' with q | q
  ·exact hv2 v q
  ·exact⟨_,_,ιS q,e1⟩
 have fl:(ps++[Value.str eS eT]).length≤11:=by rw [List.length_append,hl]; show zs.length+1≤11; exact ω67 hz2
 have ob:∀ (Fi:PySem.Fin→Shared→Prop) (E':Value→Shared→Prop),∀ v∈[CZ 4 7 s2.heap.objs.size (s2.heap.objs.size+3) ([.str oS oT]++ps) 0 [.str eS eT] 0,Cr 6 (s2.heap.objs.size+2) [.str ⟨⟨[34]⟩⟩ (s2.toks+0),.str ⟨⟨[34,97]⟩⟩ (s2.toks+1),.str ⟨⟨[]⟩⟩ (s2.toks+2),.str ⟨⟨[92]⟩⟩ (s2.toks+3)] 0 (.int ((hz/4%4:Nat):Int) (s2.toks+7)) (.str eS eT),
   sMd (.int ((hz/4:Nat):Int) (s2.toks+5)) (.int 4 (s2.toks+6)) ((hz/4%4:Nat):Int),sFd (.int (hz:Nat) tz) (.int 4 (s2.toks+4)) ((hz/4:Nat):Int),CZ 3 2 (st.heap.objs.size+2) (st.heap.objs.size+6) [.str oS oT] 0 ps ec],
   AK (P4 w (Ax w) no s2.heap.objs.size s2.toks 0) (Ac pr2 w A Fi E') 30 30 v:=fun Fi E'=>
  Ab (GD S2.new (by rw [List.length_append]; show 1+ps.length+1≤sizeLine; exact ω68 hz2 hsz hl)) (ζ4 (DC S2.new he (ω69)) (CL S2.new (by decide)) (Be S2.new (by decide) (by decide)) (GD S2.new (by show 1+ps.length≤sizeLine; exact ω6a hz2 hsz hl)))
 cases hb:decide (0<zs.length) with
 | false=>
  rw [hb] at hD
  refine uL W S2 hA rfl (th2a_v _ _ _ _ _ L cx cy cz (kz [k0,k1,k2]) (vz [v0]) tp ea hz tz zs zs oS oT ((hz%4:Nat):Int) s2.heap.objs.size s2.toks ec ps eS eT ((hz/4:Nat):Int) ((hz/4%4:Nat):Int)) (ob _ _) (ζ4 hL2 hD hacc hO2) nd3 (fun q hq=>ap3 q.1 (Fc hq)) fun s3 I3 H3=>ιp ?_
  refine H3.go ?_
  intro b1 b2
  exact h s3 _ (s2.heap.objs.size+4) (.str oS oT) (ps++[Value.str eS eT]) (fin I3.aft) (ωv z2) b1 b2 ⟨oS,oT,rfl,o1⟩ fv fl (by simp)
 | true=>
  rw [hb] at hD
  obtain⟨kn,vn,hD⟩:=hD
  refine uL W S2 hA rfl (th2b_v _ _ _ _ _ L cx cy cz (kz [k0,k1,k2]) (vz [v0]) tp ea hz tz zs zs oS oT ((hz%4:Nat):Int) s2.heap.objs.size s2.toks ec kn vn ps eS eT ((hz/4:Nat):Int) ((hz/4%4:Nat):Int)) (ob _ _) (ζ4 hL2 hD hacc hO2) nd3 (fun q hq=>ap3 q.1 (Fc hq)) fun s3 I3 H3=>ιp ?_
  refine H3.go ?_
  intro b1 b2
  exact h s3 _ (s2.heap.objs.size+4) (.str oS oT) (ps++[Value.str eS eT]) (fin I3.aft) (ωv z2) b1 b2 ⟨oS,oT,rfl,o1⟩ fv fl (by simp)
end
structure SgR where
 ci:Nat
 di:Nat
 li:Nat
 k1:Nat
 k2:Nat
 k3:Nat
 dl:Nat
 sp:Nat
 cp:Nat
 ls:Nat→Value
noncomputable def isR(o:Obj):Bool:=match o.cls with
 | .ref _=>true
 | .type s=>s == "dict"||s == "tuple"
 | _=>false
structure SOk(w:World)(h:Heap)(r:SgR):Prop where
 low:524≤r.ci∧524≤r.di∧524≤r.li∧524≤r.sp
 hc:h.get? r.ci=some (oC r.di)
 hd:h.get? r.di=some (oDc w r.k1 r.k2 (.str ⟨⟨[r.cp]⟩⟩ r.k3) r.li)
 hl:h.get? r.li=some (oL r.dl (r.ls 0) (r.ls 1) (r.ls 2) (r.ls 3) (r.ls 4))
 hp:∃ R tr C tc:Nat,r.ls 3=.int (R:Nat) tr∧r.ls 0=.int (C:Nat) tc∧h.get? r.sp=some (AQ [.int (R:Nat) tr,.int (C:Nat) tc])
noncomputable def B7(h h':Heap):Prop:=∀ b o,h.get? b=some o→isR o=true→h'.get? b=some o
theorem B7.trans{a b c:Heap}(x:B7 a b)(y:B7 b c):B7 a c:=fun i o e q=>y i o (x i o e q) q
theorem SOk.keep{w:World}{h h':Heap}{r:SgR}(K:B7 h h')(S:SOk w h r):SOk w h' r:=by
 obtain⟨a,b,c,d,R,tr,C,tc,e1,e2,e3⟩:=S
 exact⟨a,K _ _ b rfl,K _ _ c rfl,K _ _ d rfl,R,tr,C,tc,e1,e2,K _ _ e3 rfl⟩
noncomputable def BJ(h:Heap)(a:Addr):Prop:=∀ o,h.get? a=some o→isR o=false
theorem BJ.of{h:Heap}{a:Addr}{o:Obj}(e:h.get? a=some o)(q:isR o=false):BJ h a:=fun o' e'=>by rw [e] at e'; cases e'; exact q
theorem Aft.keepR{D:List Addr}{s s':Shared}(a:Aft D s s')(h:∀ d∈D,BJ s.heap d):B7 s.heap s'.heap:=fun b o e q=>a.keep b o e fun m=>by rw [h b m o e] at q; cases q
theorem isR_iter(x:Str)(t i:Nat):isR (oSi x t i)=false:=by
 unfold isR
 dsimp only
 unfold strIterType
 split <;> rfl
noncomputable def sgs(rs:List SgR):List Value:=rs.map fun r=>.ref r.ci
noncomputable def sps(rs:List SgR):List Value:=rs.map fun r=>.ref r.sp
noncomputable def cps(rs:List SgR):List Nat:=rs.map (·.cp)
noncomputable def up2(k:Nat→Nat)(k8 k9:Nat):Nat→Nat
 | 8=>k8
 | 9=>k9
 | i=>k i
noncomputable def upv(v:Nat→Value)(v8 v9:Value):Nat→Value
 | 8=>v8
 | 9=>v9
 | i=>v i
noncomputable abbrev f8(w:World)(k:Nat→Nat)(v:Nat→Value)(ch sp rN tr:Nat):Obj:=oFr [de w "script" (k 0) (v 0),de w "tape" (k 1) (v 1),de w "head" (k 2) (v 2),de w "pieces" (k 3) (v 3),de w "spots" (k 5) (.ref sp),de w "chars" (k 4) (.ref ch),de w "row" (k 6) (.int (rN:Nat) tr),de w "piece" (k 7) (v 7)] 8
noncomputable abbrev f10(w:World)(k:Nat→Nat)(v:Nat→Value)(ch sp rN tr:Nat):Obj:=oFr [de w "script" (k 0) (v 0),de w "tape" (k 1) (v 1),de w "head" (k 2) (v 2),de w "pieces" (k 3) (v 3),de w "spots" (k 5) (.ref sp),de w "chars" (k 4) (.ref ch),de w "row" (k 6) (.int (rN:Nat) tr),de w "piece" (k 7) (v 7),de w "column" (k 8) (v 8),de w "sign" (k 9) (v 9)] 10
noncomputable def Hl:Expr→Bool
 | .Tuple ..=>true
 | _=>false
theorem Hk{t:Expr}(h:Hl t=true):∃ a b c,t=.Tuple a b c:=by
 cases t <;> first | exact⟨_,_,_,rfl⟩ | cases h
section
variable{prog:Program}{w:World}{A:Around}{R:Result→Shared→Prop}{s:Shared}{env:Env}{it:Addr}{fp:List Addr}{n i:Nat}{P:Nat→Value→Prop}{St:Nat→Heap→Prop}{old:Value}{e:Addr}{target:Expr}{body orelse:List Stmt}
theorem DU(ht:Hl target=true)(D:∀ A:Around,A.handled=none→Draws prog w A it fp n P St)(hh:A.handled=none)(he:s.heap.get? e=some (Cd it ((i+1:Nat):Int) old))(hst:St i s.heap)(hlt:i<n)(hne:e≠it)(hef:e∉fp)
  (h:∀ x s' T tk,P i x→Aft [e,it] s s'→T=s.heap.objs.size→s'.heap.get? e=some (Cd it ((i+1+1:Nat):Int) x)→St (i+1) s'.heap→s'.heap.get? T=some (AQ [.int ((i+1:Nat):Int) tk,x])→s'.heap.objs.size=s.heap.objs.size+1→
   wpAny (model prog w) A (Hw target (.ref e) (.ref T) body orelse env) (C9 (model prog w) A R) (notedBy (model prog w) A env fun e s'=>R (.error e) s') s') :
  codeAny (model prog w) A (.forLoop target (.ref e) body orelse env) R s:=by
 obtain⟨elts,x1,pos,rfl⟩:=Hk ht
 refine for_item D hh he hst hlt hne hef fun x h' tk T h1 h2 h3 h4 h5 h6 h7=>h x _ T tk h1 ⟨rfl,By.refl _,fun b o q m=>h7 b o (fun z=>m (by rw [z]; exact .head _)) (fun z=>m (by rw [z]; exact .tail _ μ0)) q,?_⟩ h2 h3 h4 h5 h6
 show s.heap.objs.size≤h'.objs.size
 exact ω20 h6
theorem Hq(ht:Hl target=true)(D:∀ A:Around,A.handled=none→Draws prog w A it fp n P St)(hh:A.handled=none)(he:s.heap.get? e=some (Cd it ((n+1:Nat):Int) old))(hst:St n s.heap)(h:∀ s',(∀ b o,s.heap.get? b=some o→b≠it→s'.heap.get? b=some o)→s'={s with heap:=s'.heap}→R (.ok .next) s') :
  codeAny (model prog w) A (.forLoop target (.ref e) body [] env) R s:=by
 obtain⟨elts,x1,pos,rfl⟩:=Hk ht
 exact for_end D hh he hst fun h' hx=>h _ (fun b o q m=>hx b o m q) rfl
end
structure Cb(D:List Addr)(s s':Shared):Prop where
 same:s'={s with heap:=s'.heap,toks:=s'.toks,gens:=s'.gens}
 gens:By s.gens s'.gens
 keep:∀ b o,s.heap.get? b=some o→b∉D→s'.heap.get? b=some o
theorem Aft.toK{D:List Addr}{s s':Shared}(a:Aft D s s'):Cb D s s':=⟨a.same,a.gens,a.keep⟩
theorem Cb.trans{D D':List Addr}{s s1 s':Shared}(a:Cb D s s1)(b:Cb D' s1 s')(h:∀ x∈D',x∈D∨s1.heap.objs.size≤x):Cb D s s' where
 same:=smT a.same b.same
 gens:=a.gens.trans b.gens
 keep:=fun x o e hx=>b.keep x o (a.keep x o e hx) fun m=>(h x m).elim hx fun q=>Nat.lt_irrefl _ (ιL (ιH (a.keep x o e hx)) q)
theorem Cb.start{D D':List Addr}{s s':Shared}(b:Cb D' s s')(h:∀ x∈D',x∈D∨s.heap.objs.size≤x):Cb D s s':=Cb.trans ⟨rfl,By.refl _,fun _ _ e _=>e⟩ b h
theorem Cb.keepR{D:List Addr}{s s':Shared}(a:Cb D s s')(h:∀ d∈D,BJ s.heap d):B7 s.heap s'.heap:=fun b o e q=>a.keep b o e fun m=>by rw [h b m o e] at q; cases q
theorem Ak.aftK{w:World}{ext:Addr→Option Obj}{s s':Shared}{D:List Addr}(S:Ak w ext s)(C:Cb D s s')(ap:∀ a∈D,lkX w ext a=none):Ak w ext s':=fun a o e=>C.keep a o (S a o e) fun h=>by
 rw [ap a h] at e; cases e
theorem FS{prog:Program}{w:World}(it:Addr)(x:Str)(t:Nat):∀ A:Around,A.handled=none→Draws prog w A it [it] x.cps.size (fun i v=>∃ c u,x.cps[i]? = some c∧v=.str ⟨#[c]⟩ u) (fun i h=>h.IsStrIter it (strIterType x) x t i):=fun A hh=>by
 cases ha:x.cps.all (· < 128) with
 | false=>
  have e:strIterType x = "str_iterator":=by unfold strIterType; rw [ha]; rfl
  rw [e]; exact Draws.strWide hh it x t
 | true=>
  have e:strIterType x = "str_ascii_iterator":=by unfold strIterType; rw [ha]; rfl
  rw [e]; exact Draws.strAscii hh it x t
section
variable{w:World}{L cx cy cz e it sp ch:Nat}
structure InR(w:World)(L e it sp ch rN tr:Nat)(k:Nat→Nat)(v3:Value)(rs:List SgR)(l:List Nat)(st s':Shared):Prop where
 aft:Cb [L,e,it,sp,ch] st s'
 keep:B7 st.heap s'.heap
 ex:∃ rs' es ec v,v 3=v3∧s'.heap.get? L=some (f10 w k v ch sp rN tr)∧s'.heap.get? sp=some (lst (sps rs') es)∧s'.heap.get? ch=some (lst (sgs rs') ec)∧(∀ r∈rs',SOk w s'.heap r)∧cps rs'=cps rs++l
theorem InR.trans{rN tr:Nat}{k:Nat→Nat}{v3:Value}{rs rs1:List SgR}{c:Nat}{l:List Nat}{st s1 s':Shared}(a:Cb [L,e,it,sp,ch] st s1)(K:B7 st.heap s1.heap)(hc:cps rs1=cps rs++[c])(x:InR w L e it sp ch rN tr k v3 rs1 l s1 s'):InR w L e it sp ch rN tr k v3 rs (c::l) st s':=by
 obtain⟨x1,x2,rs',es,ec,v,y1,y2,y3,y4,y5,y6⟩:=x
 exact⟨a.trans x1 (fun x q=>.inl q),K.trans x2,rs',es,ec,v,y1,y2,y3,y4,y5,by rw [y6,hc,List.append_assoc]; rfl⟩
theorem HF(w:World):Hl (liF w).x=true:=by kernel_rfl
theorem HD(w:World):Hl (loF w).x=true:=by kernel_rfl
theorem GS(rs:List SgR)(r:SgR):sgs (rs++[r])=sgs rs++[.ref r.ci]:=by simp [sgs]
theorem GR(rs:List SgR)(r:SgR):sps (rs++[r])=sps rs++[.ref r.sp]:=by simp [sps]
theorem Ht(rs:List SgR)(r:SgR):cps (rs++[r])=cps rs++[r.cp]:=by simp [cps]
theorem nd5{a b c d e:Nat}(h1:a≠b)(h2:a≠c)(h3:a≠d)(h4:a≠e)(h5:[b,c,d,e].Nodup):[a,b,c,d,e].Nodup:=List.nodup_cons.mpr ⟨by simp [h1,h2,h3,h4],h5⟩
theorem nd5'{a b c d e:Nat}(h:[a,b,c,d,e].Nodup):(a≠b∧a≠c∧a≠d∧a≠e)∧(b≠c∧b≠d∧b≠e)∧(c≠d∧c≠e)∧d≠e:=by
 simpa only [List.nodup_cons,List.mem_cons,List.not_mem_nil,or_false,not_or,ιN,and_true,not_false_eq_true] using h
theorem Iy{rN tr:Nat}{rs:List SgR}{c tc sT:Nat}{st s' s1:Shared}{D:List Addr}(h5:524≤s'.heap.objs.size)(hb:cps rs=cps rs)(hS:∀ r∈rs,SOk w st.heap r)(K:B7 st.heap s1.heap)
  (b4:s1.heap.get? (s'.heap.objs.size+3)=some (AQ [.int (rN:Nat) tr,.int (c:Nat) tc])) {cc t2 t3:Nat} (b5:s1.heap.get? (s'.heap.objs.size+5)=some (oL (s'.heap.objs.size+4) (.int (c:Nat) tc) (.str "t.c" t2) (.int 1 t3) (.int (rN:Nat) tr) .none))
  {ka kb:Nat} (b6:s1.heap.get? (s'.heap.objs.size+7)=some (oDc w ka kb (.str ⟨⟨[cc]⟩⟩ sT) (s'.heap.objs.size+5))) (b7:s1.heap.get? (s'.heap.objs.size+8)=some (oC (s'.heap.objs.size+7))) :
  ∃ r:SgR,r.ci=s'.heap.objs.size+8∧r.sp=s'.heap.objs.size+3∧r.cp=cc∧∀ q∈rs++[r],SOk w s1.heap q:=by
 refine⟨⟨s'.heap.objs.size+8,s'.heap.objs.size+7,s'.heap.objs.size+5,ka,kb,sT,s'.heap.objs.size+4,s'.heap.objs.size+3,cc,vz [.int (c:Nat) tc,.str "t.c" t2,.int 1 t3,.int (rN:Nat) tr,.none]⟩,rfl,rfl,rfl,fun q hq=>?_⟩
 rcases ιM hq with q' | q'
 ·exact(hS q q').keep K
 ·rw [ιS q']
  refine⟨⟨?_,?_,?_,?_⟩,b7,b6,b5,rN,tr,c,tc,rfl,rfl,b4⟩ <;> (dsimp only; exact ω26 h5)
theorem Go{h h':Heap}{it:Addr}{ty:String}{x:Str}{t i:Nat}(q:h.IsStrIter it ty x t i)(k:∀ o,h.get? it=some o→h'.get? it=some o):h'.IsStrIter it ty x t i:=by
 obtain⟨o,e,r⟩:=q
 exact⟨o,k o e,r⟩
theorem Cb.keepT{D D':List Addr}{s s1 s':Shared}{T:Addr}(a:Cb D s s1)(b:Cb D' s1 s')(hT:s.heap.objs.size≤T)(h:∀ x∈D',x∈D∨x=T):Cb D s s' where
 same:=smT a.same b.same
 gens:=a.gens.trans b.gens
 keep:=fun x o e hx=>b.keep x o (a.keep x o e hx) fun m=>(h x m).elim hx fun q=>Nat.lt_irrefl _ (ιL (ιH e) (q▸hT))
theorem EE{h:Heap}{it:Addr}{x:Str}{t i:Nat}(q:h.IsStrIter it (strIterType x) x t i):BJ h it:=fun o e=>by
 obtain⟨o',e',c,_⟩:=q
 rw [e] at e'; cases e'
 have:=isR_iter x 0 0
 unfold isR at this ⊢
 rw [c]; exact this
theorem FL(W:Ae w){x:Str}{xt rN tr:Nat}{k:Nat→Nat}{v3:Value}{A:Around}(hA:Ar A 100)(nd:[L,e,it,sp,ch].Nodup)(h5:∀ a∈[L,e,it,sp,ch],524≤a) :
  ∀ (m i:Nat) (st:Shared) (rs:List SgR) (es ec:Nat) (v:Nat→Value) (old:Value),m+i=x.cps.size→Ak w no st→v 3=v3→st.heap.get? L=some (f10 w k v ch sp rN tr)→st.heap.get? e=some (Cd it ((i+1:Nat):Int) old)→st.heap.IsStrIter it (strIterType x) x xt i→st.heap.get? sp=some (lst (sps rs) es)→st.heap.get? ch=some (lst (sgs rs) ec)→
   (∀ r∈rs,SOk w st.heap r)→rs.length+m≤1000→(∀ s',InR w L e it sp ch rN tr k v3 rs (x.cps.toList.drop i) st s'→R (.ok .next) s')→
   codeAny (model pr2 w) A (.forLoop (liF w).x (.ref e) (liF w).body [] (Ai w L cx cy cz)) R st:=by
 have nx:=nd5' nd
 intro m
 induction m with
 | zero=>
  intro i st rs es ec v old hm S hv hL he hi hsp hch hS hz hR
  have hi':i=x.cps.size:=ω5l hm
  subst hi'
  refine Hq (HF w) (FS it x xt) hA.handled he hi fun s' hk hs=>?_
  have nit:=EE hi
  have K:B7 st.heap s'.heap:=fun b o q r=>hk b o q fun z=>by subst z; rw [nit o q] at r; cases r
  refine hR s' ⟨⟨by rw [hs],by rw [hs]; exact By.refl _,fun b o q mm=>hk b o q fun z=>mm (by rw [z]; exact m2)⟩,K,rs,es,ec,v,hv,hk _ _ hL nx.1.2.1,hk _ _ hsp (Ne.symm nx.2.2.1.1),hk _ _ hch (Ne.symm nx.2.2.1.2),fun r hr=>(hS r hr).keep K,?_⟩
  rw [List.drop_eq_nil_of_le (by rw [Array.length_toList]; exact ιR _),List.append_nil]
 | succ m ih=>
  intro i st rs es ec v old hm S hv hL he hi hsp hch hS hz hR
  have hlt:i<x.cps.size:=ω5n hm
  have lL:(L:Nat)<(st.heap.objs.size:Nat):=ιH hL
  have le:(e:Nat)<(st.heap.objs.size:Nat):=ιH he
  have ls:(sp:Nat)<(st.heap.objs.size:Nat):=ιH hsp
  have lc:(ch:Nat)<(st.heap.objs.size:Nat):=ιH hch
  refine DU (HF w) (FS it x xt) hA.handled he hi hlt nx.2.1.1 (fun q=>nx.2.1.1 (ιS q)) fun y s' T tk hy A' hT he' hi2 hT' hz'=>?_
  obtain⟨c,u,hc,ey⟩:=hy
  subst ey
  have q5:=h5 L m0
  have S':Ak w no s':=S.aft A' (ζ2 (ap5 (h5 _ m1)) (ap5 (h5 _ m2)))
  have kp:∀ {a o},a≠e→a≠it→st.heap.get? a=some o→s'.heap.get? a=some o:=fun h1 h2 q=>A'.keep _ _ q (by simp [h1,h2])
  have hsz:=sZ
  have hT2:(T:Nat)=(st.heap.objs.size:Nat):=hT
  have nT:∀ {a:Nat},a<(st.heap.objs.size:Nat)→a≠(T:Nat):=fun h q=>ω6b hT h q
  have q5T:524≤(T:Nat):=ω6c lL hT q5
  have ln1:(sps rs).length=rs.length:=List.length_map ..
  have ln2:(sgs rs).length=rs.length:=List.length_map ..
  refine uA W S' hA rfl (ti2_v _ _ _ _ _ L cx cy cz k v ch sp e T rN tr (i+1) tk ⟨#[c]⟩ u es ec (sps rs) (sgs rs)) (ζ2 (AN S'.new (Nat.zero_le 3) (ω6d hz hsz ln2)) (AN S'.new (Nat.zero_le 2) (ω6d hz hsz ln1))) (ζ4 (kp nx.1.1 nx.1.2.1 hL) hT' (kp (Ne.symm nx.2.1.2.1) (Ne.symm nx.2.2.1.1) hsp) (kp (Ne.symm nx.2.1.2.2) (Ne.symm nx.2.2.1.2) hch)) (nd4 (nT lL) nx.1.2.2.1 nx.1.2.2.2 (Ne.symm (nT ls)) (Ne.symm (nT lc)) nx.2.2.2) (ζ4 (ap5 q5) (ap5 q5T) (ap5 (h5 _ m3)) (ap5 (h5 _ (.tail _ m3)))) fun s1 I1 H1=>ιp ⟨rfl,?_⟩
  refine H1.go ?_
  intro b1 b2 b3 b4 b5 b6 b7
  have a1:Aft [L,T,sp,ch] s' s1:=I1.aft
  have a2:Cb [L,e,it,sp,ch] st s1:=(A'.toK.start (D:=[L,e,it,sp,ch]) fun z q=>.inl (by
   rcases ιC q with q | q
   ·rw [q]; exact m1
   ·rw [ιS q]; exact m2)).keepT (T:=(T:Nat)) a1.toK (by rw [hT]; exact ιR _) fun z q=>by
   rcases ιC q with q | q
   ·rw [q]; exact .inl m0
   rcases ιC q with q | q
   ·exact .inr q
   rcases ιC q with q | q
   ·rw [q]; exact .inl m3
   ·rw [ιS q]; exact .inl (.tail _ m3)
  have K:B7 st.heap s1.heap:=a2.keepR (ζ5 (BJ.of hL rfl) (BJ.of he rfl) (EE hi) (BJ.of hsp rfl) (BJ.of hch rfl))
  obtain⟨r,r1,r2,r3,hS1⟩:=Iy (D:=[]) (show 524≤s'.heap.objs.size from ω6e hT hz' q5T) rfl hS K b4 b5 b6 b7
  refine ih (i+1) s1 (rs++[r]) (es+1) (ec+1) (upv v (.int ((i+1:Nat):Int) tk) (.str ⟨#[c]⟩ u)) (.str ⟨#[c]⟩ u) (ω5o hm) (S'.aft a1 (ζ4 (ap5 q5) (ap5 q5T) (ap5 (h5 _ m3)) (ap5 (h5 _ (.tail _ m3))))) hv b1
   (a1.keep _ _ he' (by
    have h1:e≠T:=nT le
    simp [Ne.symm nx.1.1,h1,nx.2.1.2.1,nx.2.1.2.2])) (Go hi2 fun o q=>a1.keep _ _ q ?_) (by rw [GR,r2]; exact b2) (by rw [GS,r1]; exact b3) hS1 (by rw [List.length_append]; show rs.length+1+m≤1000; exact ω4c hz) fun s2 X=>hR s2 ?_
  ·obtain⟨oi,hoi,_⟩:=hi
   have li:(it:Nat)<(st.heap.objs.size:Nat):=ιH hoi
   have h1:it≠T:=nT li
   simp [Ne.symm nx.1.2.1,h1,nx.2.2.1.1,nx.2.2.1.2]
  ·have hd:x.cps.toList.drop i=c::x.cps.toList.drop (i+1):=by
    obtain⟨h1,h2⟩:=Array.getElem?_eq_some_iff.mp hc
    rw [List.drop_eq_getElem_cons (by rw [Array.length_toList]; exact h1),Array.getElem_toList,h2]
   rw [hd]
   exact X.trans a2 K (by rw [Ht,r3])
end
section
variable(w:World)(f:Fl)(ext:Addr→Option Obj)(n t L cx cy cz:Nat)(k:Nat→Nat)(v:Nat→Value)(pc ch sp e T r tr:Nat)(pS:Str)(pT:Nat)(ps:List Value)(n2 t2:Nat)
def to1r:Res:=
 run (P4 w f ext n2 t2 0) 11 [] [] [] 0 0 .tree
  ((to1 w f ext n t L cx cy cz k v ch sp e T r tr pS pT).kk (.ok .next)) [] [] []
theorem to1r_v:RvD (to1r w f ext n t L cx cy cz k v ch sp e T r tr pS pT n2 t2) [] (.again (.forLoop (loF w).x (.ref e) (loF w).body [] (Ai w L cx cy cz))) 1 0 0 [] []:=by rcases f with⟨_ | _,_,_⟩ <;> kernel_rfl
def to2r:Res:=
 run (P4 w f ext n2 t2 0) 11 [] [] [] 0 0 .tree
  ((to2 w f ext n t L cx cy cz k v ch sp e T r tr pS pT).kk (.ok .next)) [] [] []
theorem to2r_v:RvD (to2r w f ext n t L cx cy cz k v ch sp e T r tr pS pT n2 t2) [] (.again (.forLoop (loF w).x (.ref e) (loF w).body [] (Ai w L cx cy cz))) 1 0 0 [] []:=by rcases f with⟨_ | _,_,_⟩ <;> kernel_rfl
def tf1r:Res:=
 run (P4 w f ext n2 t2 0) 11 [] [] [] 0 0 .tree
  ((tf1 w f ext n t L cx cy cz k v pc ps).kk (.ok .next)) [] [] []
theorem tf1r_v:RvD (tf1r w f ext n t L cx cy cz k v pc ps n2 t2) [] (.done (.ok .next)) 1 0 0 [] []:=by rcases f with⟨_ | _,_,_⟩ <;> kernel_rfl
end
section
variable{w:World}{L cx cy cz e it sp ch:Nat}
theorem inner_first(W:Ae w){x:Str}{xt rN tr:Nat}{k:Nat→Nat}{v3:Value}{A:Around}(hA:Ar A 100)(nd:[L,e,it,sp,ch].Nodup)(h5:∀ a∈[L,e,it,sp,ch],524≤a){st:Shared}{rs:List SgR}{es ec:Nat}{v:Nat→Value}{old:Value}(hlt:0<x.cps.size)(S:Ak w no st)(hv:v 3=v3)(hL:st.heap.get? L=some (f8 w k v ch sp rN tr))(he:st.heap.get? e=some (Cd it ((0+1:Nat):Int) old))(hi:st.heap.IsStrIter it (strIterType x) x xt 0)(hsp:st.heap.get? sp=some (lst (sps rs) es))(hch:st.heap.get? ch=some (lst (sgs rs) ec))
  (hS:∀ r∈rs,SOk w st.heap r) (hz:rs.length+x.cps.size≤1000) (hR:∀ s' a b,InR w L e it sp ch rN tr (up2 k a b) v3 rs x.cps.toList st s'→R (.ok .next) s') :
  codeAny (model pr2 w) A (.forLoop (liF w).x (.ref e) (liF w).body [] (Ai w L cx cy cz)) R st:=by
 have nx:=nd5' nd
 have lL:(L:Nat)<(st.heap.objs.size:Nat):=ιH hL
 have le:(e:Nat)<(st.heap.objs.size:Nat):=ιH he
 have ls:(sp:Nat)<(st.heap.objs.size:Nat):=ιH hsp
 have lc:(ch:Nat)<(st.heap.objs.size:Nat):=ιH hch
 refine DU (HF w) (FS it x xt) hA.handled he hi hlt nx.2.1.1 (fun q=>nx.2.1.1 (ιS q)) fun y s' T tk hy A' hT he' hi2 hT' hz'=>?_
 obtain⟨c,u,hc,ey⟩:=hy
 subst ey
 have q5:=h5 L m0
 have S':Ak w no s':=S.aft A' (ζ2 (ap5 (h5 _ m1)) (ap5 (h5 _ m2)))
 have kp:∀ {a o},a≠e→a≠it→st.heap.get? a=some o→s'.heap.get? a=some o:=fun h1 h2 q=>A'.keep _ _ q (by simp [h1,h2])
 have hsz:=sZ
 have hT2:(T:Nat)=(st.heap.objs.size:Nat):=hT
 have nT:∀ {a:Nat},a<(st.heap.objs.size:Nat)→a≠(T:Nat):=fun h q=>ω6b hT h q
 have q5T:524≤(T:Nat):=ω6c lL hT q5
 have ln1:(sps rs).length=rs.length:=List.length_map ..
 have ln2:(sgs rs).length=rs.length:=List.length_map ..
 refine uA W S' hA rfl (ti1_v _ _ _ _ _ L cx cy cz k v ch sp e T rN tr (0+1) tk ⟨#[c]⟩ u es ec (sps rs) (sgs rs)) (ζ2 (AN S'.new (Nat.zero_le 3) (ω6f hz hsz ln2)) (AN S'.new (Nat.zero_le 2) (ω6f hz hsz ln1))) (ζ4 (kp nx.1.1 nx.1.2.1 hL) hT' (kp (Ne.symm nx.2.1.2.1) (Ne.symm nx.2.2.1.1) hsp) (kp (Ne.symm nx.2.1.2.2) (Ne.symm nx.2.2.1.2) hch)) (nd4 (nT lL) nx.1.2.2.1 nx.1.2.2.2 (Ne.symm (nT ls)) (Ne.symm (nT lc)) nx.2.2.2) (ζ4 (ap5 q5) (ap5 q5T) (ap5 (h5 _ m3)) (ap5 (h5 _ (.tail _ m3)))) fun s1 I1 H1=>ιp ⟨rfl,?_⟩
 refine H1.go ?_
 intro b1 b2 b3 b4 b5 b6 b7
 have a1:Aft [L,T,sp,ch] s' s1:=I1.aft
 have a2:Cb [L,e,it,sp,ch] st s1:=(A'.toK.start (D:=[L,e,it,sp,ch]) fun z q=>.inl (by
  rcases ιC q with q | q
  ·rw [q]; exact m1
  ·rw [ιS q]; exact m2)).keepT (T:=(T:Nat)) a1.toK (by rw [hT]; exact ιR _) fun z q=>by
  rcases ιC q with q | q
  ·rw [q]; exact .inl m0
  rcases ιC q with q | q
  ·exact .inr q
  rcases ιC q with q | q
  ·rw [q]; exact .inl m3
  ·rw [ιS q]; exact .inl (.tail _ m3)
 have K:B7 st.heap s1.heap:=a2.keepR (ζ5 (BJ.of hL rfl) (BJ.of he rfl) (EE hi) (BJ.of hsp rfl) (BJ.of hch rfl))
 obtain⟨r,r1,r2,r3,hS1⟩:=Iy (D:=[]) (show 524≤s'.heap.objs.size from ω6e hT hz' q5T) rfl hS K b4 b5 b6 b7
 refine FL W (xt:=xt) (k:=up2 k s'.toks (s'.toks+1)) hA nd h5 (x.cps.size-1) (0+1) s1 (rs++[r]) (es+1) (ec+1) (upv v (.int ((0+1:Nat):Int) tk) (.str ⟨#[c]⟩ u)) (.str ⟨#[c]⟩ u) (by show x.cps.size-1+1=x.cps.size; exact ω6g hlt) (S'.aft a1 (ζ4 (ap5 q5) (ap5 q5T) (ap5 (h5 _ m3)) (ap5 (h5 _ (.tail _ m3))))) hv b1
  (a1.keep _ _ he' (by
   have h1:e≠T:=nT le
   simp [Ne.symm nx.1.1,h1,nx.2.1.2.1,nx.2.1.2.2])) (Go hi2 fun o q=>a1.keep _ _ q ?_) (by rw [GR,r2]; exact b2) (by rw [GS,r1]; exact b3) hS1 (by rw [List.length_append]; show rs.length+1+(x.cps.size-1)≤1000; exact ω6h hlt hz) fun s2 X=>hR s2 s'.toks (s'.toks+1) ?_
 ·obtain⟨oi,hoi,_⟩:=hi
  have li:(it:Nat)<(st.heap.objs.size:Nat):=ιH hoi
  have h1:it≠T:=nT li
  simp [Ne.symm nx.1.2.1,h1,nx.2.2.1.1,nx.2.2.1.2]
 ·have hd:x.cps.toList=c::x.cps.toList.drop (0+1):=by
   obtain⟨h1,h2⟩:=Array.getElem?_eq_some_iff.mp hc
   have h3:=List.drop_eq_getElem_cons (l:=x.cps.toList) (i:=0) (by rw [Array.length_toList]; exact h1)
   rw [Array.getElem_toList,h2] at h3; exact h3
  rw [hd]
  exact X.trans a2 K (by rw [Ht,r3])
theorem Cb.on{D D':List Addr}{s s1 s':Shared}(a:Cb D s s1)(b:Cb D' s1 s')(h:∀ x∈D',x∈D∨s.heap.objs.size≤x):Cb D s s' where
 same:=smT a.same b.same
 gens:=a.gens.trans b.gens
 keep:=fun x o e hx=>b.keep x o (a.keep x o e hx) fun m=>(h x m).elim hx fun q=>Nat.lt_irrefl _ (ιL (ιH e) q)
noncomputable def pcp:Value→List Nat
 | .str x _=>x.cps.toList
 | _=>[]
noncomputable def JC(v:Nat→Value)(v6 v7:Value):Nat→Value
 | 6=>v6
 | 7=>v7
 | i=>v i
noncomputable def Lh(k:Nat→Nat)(k6 k7:Nat):Nat→Nat
 | 6=>k6
 | 7=>k7
 | i=>k i
noncomputable abbrev KZ(w:World)(k:Nat→Nat)(v:Nat→Value)(ch sp:Nat):Obj:=oFr [de w "script" (k 0) (v 0),de w "tape" (k 1) (v 1),de w "head" (k 2) (v 2),de w "pieces" (k 3) (v 3),de w "spots" (k 5) (.ref sp),de w "chars" (k 4) (.ref ch),de w "row" (k 6) (v 6),de w "piece" (k 7) (v 7),de w "column" (k 8) (v 8),de w "sign" (k 9) (v 9)] 10
noncomputable abbrev f6g(w:World)(k:Nat→Nat)(v:Nat→Value)(ch sp:Nat):Obj:=oFr [de w "script" (k 0) (v 0),de w "tape" (k 1) (v 1),de w "head" (k 2) (v 2),de w "pieces" (k 3) (v 3),de w "spots" (k 5) (.ref sp),de w "chars" (k 4) (.ref ch)] 6
structure OuR(w:World)(L e it sp ch:Nat)(v3:Value)(rs:List SgR)(l:List Nat)(st s':Shared):Prop where
 aft:Cb [L,e,it,sp,ch] st s'
 ex:∃ rs' es ec k v,v 3=v3∧s'.heap.get? L=some (KZ w k v ch sp)∧s'.heap.get? sp=some (lst (sps rs') es)∧s'.heap.get? ch=some (lst (sgs rs') ec)∧(∀ r∈rs',SOk w s'.heap r)∧cps rs'=cps rs++l
theorem OuR.trans{v3:Value}{rs rs1:List SgR}{c l:List Nat}{st s1 s':Shared}(a:Cb [L,e,it,sp,ch] st s1)(hc:cps rs1=cps rs++c)(x:OuR w L e it sp ch v3 rs1 l s1 s'):OuR w L e it sp ch v3 rs (c++l) st s':=by
 obtain⟨x1,rs',es,ec,k,v,y1,y2,y3,y4,y5,y6⟩:=x
 exact⟨a.on x1 (fun x q=>.inl q),rs',es,ec,k,v,y1,y2,y3,y4,y5,by rw [y6,hc,List.append_assoc]⟩
theorem Gj{h:Heap}{it l i:Nat}(q:h.IsListIter it l i):BJ h it:=fun o e=>by
 obtain⟨o',e',c,_⟩:=q
 rw [e] at e'; cases e'
 unfold isR
 rw [c]; rfl
theorem HE(rs:List SgR):(cps rs).length=rs.length:=List.length_map ..
theorem outer_loop(W:Ae w){pc ea:Nat}{ps:List Value}{v3:Value}{A:Around}(hA:Ar A 200)(nd:[L,e,it,sp,ch].Nodup)(np:pc∉[L,e,it,sp,ch])(h5:∀ a∈[L,e,it,sp,ch],524≤a)(hps:∀ p∈ps,Fd p) :
  ∀ (m i:Nat) (st:Shared) (rs:List SgR) (es ec:Nat) (k:Nat→Nat) (v:Nat→Value) (old:Value),m+i=ps.length→Ak w no st→v 3=v3→st.heap.get? L=some (KZ w k v ch sp)→st.heap.get? e=some (Cd it ((i+1:Nat):Int) old)→st.heap.IsListIter it pc i→st.heap.get? pc=some (lst ps ea)→st.heap.get? sp=some (lst (sps rs) es)→st.heap.get? ch=some (lst (sgs rs) ec)→
   (∀ r∈rs,SOk w st.heap r)→rs.length+12*m≤900→(∀ s',OuR w L e it sp ch v3 rs ((ps.drop i).flatMap pcp) st s'→R (.ok .next) s')→
   codeAny (model pr2 w) A (.forLoop (loF w).x (.ref e) (loF w).body [] (Ai w L cx cy cz)) R st:=by
 have nx:=nd5' nd
 have npc:pc≠L∧pc≠e∧pc≠it∧pc≠sp∧pc≠ch:=by
  simpa only [List.mem_cons,List.not_mem_nil,or_false,not_or] using np
 intro m
 induction m with
 | zero=>
  intro i st rs es ec k v old hm S hv hL he hi hpc hsp hch hS hz hR
  have hi':i=ps.length:=ω5l hm
  subst hi'
  refine Hq (HD w) (fun A hh=>Draws.list hh it pc npc.2.2.1 ⟨ps⟩) hA.handled he ⟨hi,_,hpc,rfl,_,rfl⟩ fun s' hk hs=>?_
  have nit:=Gj hi
  have K:B7 st.heap s'.heap:=fun b o q r=>hk b o q fun z=>by subst z; rw [nit o q] at r; cases r
  refine hR s' ⟨⟨by rw [hs],by rw [hs]; exact By.refl _,fun b o q mm=>hk b o q fun z=>mm (by rw [z]; exact m2)⟩,rs,es,ec,k,v,hv,hk _ _ hL nx.1.2.1,hk _ _ hsp (Ne.symm nx.2.2.1.1),hk _ _ hch (Ne.symm nx.2.2.1.2),fun r hr=>(hS r hr).keep K,?_⟩
  rw [List.drop_eq_nil_of_le (ιR _)]
  exact(List.append_nil _).symm
 | succ m ih=>
  intro i st rs es ec k v old hm S hv hL he hi hpc hsp hch hS hz hR
  have hlt:i<ps.length:=ω5n hm
  have lL:(L:Nat)<(st.heap.objs.size:Nat):=ιH hL
  have le:(e:Nat)<(st.heap.objs.size:Nat):=ιH he
  have ls:(sp:Nat)<(st.heap.objs.size:Nat):=ιH hsp
  have lc:(ch:Nat)<(st.heap.objs.size:Nat):=ιH hch
  have lp:(pc:Nat)<(st.heap.objs.size:Nat):=ιH hpc
  have li:(it:Nat)<(st.heap.objs.size:Nat):=ιH hi.choose_spec.1
  refine DU (HD w) (fun A hh=>Draws.list hh it pc npc.2.2.1 ⟨ps⟩) hA.handled he ⟨hi,_,hpc,rfl,_,rfl⟩ (show i<(⟨ps⟩:Array Value).size from hlt) nx.2.1.1 (by simp [nx.2.1.1,Ne.symm npc.2.1]) fun y s' T tk hy A' hT he' hi2 hT' hz'=>?_
  obtain⟨x,u,ey,hx⟩:=hps y (List.mem_of_getElem? (l:=ps) (i:=i) (by simpa using hy))
  subst ey
  have q5:=h5 L m0
  have S':Ak w no s':=S.aft A' (ζ2 (ap5 (h5 _ m1)) (ap5 (h5 _ m2)))
  have kp:∀ {a o},a≠e→a≠it→st.heap.get? a=some o→s'.heap.get? a=some o:=fun h1 h2 q=>A'.keep _ _ q (by simp [h1,h2])
  have hT2:(T:Nat)=(st.heap.objs.size:Nat):=hT
  have nT:∀ {a:Nat},a<(st.heap.objs.size:Nat)→a≠(T:Nat):=fun h q=>ω6b hT h q
  have q5T:524≤(T:Nat):=ω6c lL hT q5
  refine uC W S' hA (to2_v _ _ _ _ _ L cx cy cz k v ch sp e T (i+1) tk x u) rfl (Ab (Ir S'.new) Aa) (ζ2 (kp nx.1.1 nx.1.2.1 hL) hT') (List.nodup_cons.mpr ⟨fun q=>nT lL (ιS q),List.nodup_cons.mpr ⟨(nomatch ·),ιN⟩⟩) (ζ2 (ap5 q5) (ap5 q5T)) fun s1 I1 H1=>?_
  refine H1.go ?_
  intro b1 b2 b3
  have a1:Aft [L,T] s' s1:=I1.aft
  have z1:s1.heap.objs.size=s'.heap.objs.size+5:=I1.size
  have S1:Ak w no s1:=S'.aft a1 (ζ2 (ap5 q5) (ap5 q5T))
  have kp1:∀ {a o},a≠L→a≠e→a≠it→st.heap.get? a=some o→s1.heap.get? a=some o:=fun h0 h1 h2 q=>a1.keep _ _ (kp h1 h2 q) (by
   have h3:=nT (ιH q)
   simp [h0,h3])
  have K1:B7 st.heap s1.heap:=((A'.toK.start (D:=[L,e,it,sp,ch]) fun z q=>.inl (by
   rcases ιC q with q | q
   ·rw [q]; exact m1
   ·rw [ιS q]; exact m2)).on a1.toK fun z q=>by
   rcases ιC q with q | q
   ·rw [q]; exact .inl m0
   ·rw [ιS q]; exact .inr (by rw [hT]; exact ιR _)).keepR (ζ5 (BJ.of hL rfl) (BJ.of he rfl) (Gj hi) (BJ.of hsp rfl) (BJ.of hch rfl))
  refine FL W (xt:=u) (k:=k) (rN:=i+1) (tr:=tk) (hA.le (by decide:100≤200)) (nd5 (ω6i lL hz') (ω6j lL hz') nx.1.2.2.1 nx.1.2.2.2 (nd4 (ω5s) (ω6k ls hz') (ω6k lc hz') (ω6l ls hz') (ω6l lc hz') nx.2.2.2)) (ζ5 q5 (ω6m hT hz' q5T) (ω6n hT hz' q5T) (h5 _ m3) (h5 _ (.tail _ m3))) x.cps.size 0 s1 rs es ec (JC v (.int ((i+1:Nat):Int) tk) (.str x u)) .none rfl S1 hv b1 b3 ⟨_,b2,rfl,rfl⟩ (kp1 (Ne.symm nx.1.2.2.1) (Ne.symm nx.2.1.2.1) (Ne.symm nx.2.2.1.1) hsp) (kp1 (Ne.symm nx.1.2.2.2) (Ne.symm nx.2.1.2.2) (Ne.symm nx.2.2.1.2) hch) (fun r hr=>(hS r hr).keep K1) (by have:x.cps.size≤12:=hx; exact ω6o hz this) fun s2 X=>?_
  obtain⟨x1,x2,rs',es',ec',v',y1,y2,y3,y4,y5,y6⟩:=X
  have S2:Ak w no s2:=S1.aftK x1 (ζ5 (ap5 q5) (ap5 (ω6m hT hz' q5T)) (ap5 (ω6n hT hz' q5T)) (ap5 (h5 _ m3)) (ap5 (h5 _ (.tail _ m3))))
  refine uA W S2 hA rfl (to2r_v _ _ _ _ _ L cx cy cz k v ch sp e T (i+1) tk x u s2.heap.objs.size s2.toks) Aa Aa ιN Aa fun s3 I3 H3=>ιp ⟨rfl,?_⟩
  have a3:Aft [] s2 s3:=I3.aft
  have k3:∀ {a o},s2.heap.get? a=some o→s3.heap.get? a=some o:=fun q=>a3.keep _ _ q (nomatch ·)
  have k23:∀ {a o},a<st.heap.objs.size→a≠L→a≠sp→a≠ch→s1.heap.get? a=some o→s3.heap.get? a=some o:=fun {a} {o} h0 h1 h2 h3 q=>k3 (x1.keep _ _ q (by
   have h4:a≠s'.heap.objs.size+4:=fun z=>ω6p hz' h0 z
   have h6:a≠s'.heap.objs.size+3:=fun z=>ω6q hz' h0 z
   simp [h1,h2,h3,h4,h6]))
  have a4:Cb [L,e,it,sp,ch] st s3:=(((A'.toK.start (D:=[L,e,it,sp,ch]) fun z q=>.inl (by
   rcases ιC q with q | q
   ·rw [q]; exact m1
   ·rw [ιS q]; exact m2)).on a1.toK fun z q=>by
   rcases ιC q with q | q
   ·rw [q]; exact .inl m0
   ·rw [ιS q]; exact .inr (by rw [hT]; exact ιR _)).on x1 (ζ5 (.inl m0) (.inr (ω6r hz')) (.inr (ω6s hz')) (.inl m3) (.inl (.tail _ m3)))).on a3.toK Aa
  have K3:B7 s2.heap s3.heap:=fun b o q _=>k3 q
  have lk:rs'.length=rs.length+x.cps.size:=by rw [←HE rs',y6,List.length_append,HE]; rfl
  have hx2:x.cps.size≤12:=hx
  have hz2:rs'.length+12*m≤900:=by rw [lk]; exact ω6t hz hx2
  refine ih (i+1) s3 rs' es' ec' k (JC v' (.int ((i+1:Nat):Int) tk) (v' 7)) (.str x u) (ω5o hm) (S2.aft a3 Aa) y1 (k3 y2) (k23 le (Ne.symm nx.1.1) nx.2.1.2.1 nx.2.1.2.2 (a1.keep _ _ he' (by
   have h1:e≠T:=nT le
   simp [Ne.symm nx.1.1,h1]))) ?_ (k23 lp npc.1 npc.2.2.2.1 npc.2.2.2.2 (kp1 npc.1 npc.2.1 npc.2.2.1 hpc)) (k3 y3) (k3 y4) (fun r hr=>(y5 r hr).keep K3) hz2 fun s4 X=>hR s4 ?_
  ·obtain⟨⟨o,ho,r⟩,_⟩:=hi2
   exact⟨o,k23 li (Ne.symm nx.1.2.1) nx.2.2.1.1 nx.2.2.1.2 (a1.keep _ _ ho (by
    have h1:it≠T:=nT li
    simp [Ne.symm nx.1.2.1,h1])),r⟩
  ·have hd:ps.drop i=.str x u::ps.drop (i+1):=by
    obtain⟨h1,h2⟩:=List.getElem?_eq_some_iff.mp (show ps[i]? = some (.str x u) by simpa using hy)
    rw [List.drop_eq_getElem_cons h1,h2]
   rw [hd]
   exact X.trans a4 y6
end
noncomputable def uk45(k:Nat→Nat)(k4 k5:Nat):Nat→Nat
 | 4=>k4
 | 5=>k5
 | i=>k i
theorem IF{a b:Nat}(h:a<b)(i:Nat):a≠b+i:=ω6u h
theorem MB{b i j:Nat}(h:i≠j):b+i≠b+j:=ω6v h
theorem nm2{α:Type}{a b c:α}(h1:a≠b)(h2:a≠c):a∉[b,c]:=by simp [h1,h2]
section
variable{w:World}{A:Around}{st:Shared}{L cx cy cz tp k0 k1 k2 k3:Nat}{v0:Value}{Q:Flow→Shared→Prop}{E:Value→Shared→Prop}
structure BuR(w:World)(L pc:Nat)(ps:List Value)(st s':Shared):Prop where
 aft:Cb [L,pc] st s'
 ex:∃ rs es ec k v sp ch,v 3=.ref pc∧524≤ch∧524≤sp∧sp≠ch∧L≠sp∧L≠ch∧pc≠sp∧pc≠ch∧st.heap.objs.size≤sp∧st.heap.objs.size≤ch∧s'.heap.get? L=some (KZ w k v ch sp)∧s'.heap.get? sp=some (lst (sps rs) es)∧s'.heap.get? ch=some (lst (sgs rs) ec)∧s'.heap.get? pc=some (lst ps 0)∧(∀ r∈rs,SOk w s'.heap r)∧cps rs=ps.flatMap pcp
theorem law_s34(W:Ae w)(hA:Ar A 300)(S:Ak w no st){hz tz pc:Nat}{p1:Value}{ps:List Value}(h5:524≤L)(h5p:524≤pc)(h5n:524≤st.heap.objs.size)(ne:L≠pc)(hL:st.heap.get? L=some (fr4 w k0 k1 k2 k3 v0 tp hz tz pc))(hp:st.heap.get? pc=some (lst (p1::ps) 0))
  (hp1:∃ (x:Str) (tk:Nat),p1=.str x tk∧0<x.length∧x.length≤12) (hps:∀ v∈ps,Fd v) (hz2:ps.length≤11)
  (h:∀ s',BuR w L pc (p1::ps) st s'→Q .next s') :
  wpAny (model pr2 w) A (execs (Bp w 3 2) (Ai w L cx cy cz)) Q E st:=by
 have lL:(L:Nat)<(st.heap.objs.size:Nat):=ιH hL
 have lp:(pc:Nat)<(st.heap.objs.size:Nat):=ιH hp
 have all:∀ v∈p1::ps,Fd v:=by
  obtain⟨x,tk,e1,_,e2⟩:=hp1
  exact Ab ⟨x,tk,e1,e2⟩ hps
 obtain⟨x,u,e1,hx0,hx⟩:=hp1
 subst e1
 refine Au ?_
 refine uC W S hA (tf1_v _ _ _ _ _ L cx cy cz (kz [k0,k1,k2,k3]) (vz [v0,.ref tp,.int (hz:Nat) tz]) pc (.str x u::ps)) rfl (Ab (o_enumL S.new) Aa) (ζ2 hL hp) (List.nodup_cons.mpr ⟨fun q=>ne (ιS q),List.nodup_cons.mpr ⟨(nomatch ·),ιN⟩⟩) (ζ2 (ap5 h5) (ap5 h5p)) fun s1 I1 H1=>?_
 refine H1.go ?_
 intro a1 a2 a3 a4 a5 a6
 have A1:Aft [L,pc] st s1:=I1.aft
 have z1:s1.heap.objs.size=st.heap.objs.size+8:=I1.size
 have S1:Ak w no s1:=S.aft A1 (ζ2 (ap5 h5) (ap5 h5p))
 generalize hk:uk45 (kz [k0,k1,k2,k3]) (st.toks+1) (st.toks+0)=k at *
 generalize hv:(fun i=>if i=3 then Value.ref pc else vz [v0,.ref tp,.int (hz:Nat) tz] i)=v at *
 have hv3:v 3=.ref pc:=by rw [←hv]; rfl
 have a1':s1.heap.get? L=some (f6g w k v (st.heap.objs.size) (st.heap.objs.size+1)):=by rw [←hk,←hv]; exact a1
 generalize hch:st.heap.objs.size=ch at *
 have hn:ch=(st.heap.objs.size:Nat):=hch.symm
 have npc:pc∉[L,ch+7,ch+6,ch+1,ch]:=by
  simp only [List.mem_cons,List.not_mem_nil,or_false,not_or]
  exact⟨Ne.symm ne,ω1k lp,ω1k lp,ω1k lp,ω2n lp⟩
 have nd:[L,ch+7,ch+6,ch+1,ch].Nodup:=nd5 (ω1k lL) (ω1k lL) (ω1k lL) (ω2n lL) (nd4 (ω5s) (ω5s) (ω6w) (ω5s) (ω6w) (ω6w))
 have h5':∀ a∈[L,ch+7,ch+6,ch+1,ch],524≤a:=Ab h5 (ζ4 (ω26 h5n) (ω26 h5n) (ω26 h5n) (h5n))
 refine DU (HD w) (fun A hh=>Draws.list hh (ch+6) pc (IF lp 6) ⟨.str x u::ps⟩) hA.handled (i:=0) a6 ⟨⟨_,a5,rfl,rfl⟩,_,a2,rfl,_,rfl⟩ (by show 0<ps.length+1; exact ω4b) (MB (by decide)) (nm2 (MB (by decide)) (Ne.symm (IF lp 7))) fun y s' T tk hy A' hT he' hi2 hT' hz'=>?_
 have ey:.str x u=y:=by simpa using hy
 subst ey
 have S':Ak w no s':=S1.aft A' (ζ2 (ap5 (ω26 h5n)) (ap5 (ω26 h5n)))
 have hT2:(T:Nat)=ch+8:=by rw [hT,z1]
 have hz3:(s'.heap.objs.size:Nat)=ch+9:=by rw [hz',z1]
 have q5T:524≤(T:Nat):=ω6x h5n z1 hT
 refine uC W S' hA (to1_v _ _ _ _ _ L cx cy cz k v ch (ch+1) (ch+7) T (0+1) tk x u) rfl (Ab (Ir S'.new) Aa) (ζ2 (A'.keep _ _ a1' (nm2 (IF lL 7) (IF lL 6))) hT') (List.nodup_cons.mpr ⟨fun q=>by have q:(L:Nat)=T:=ιS q; exact ω6y lL z1 hT q,List.nodup_cons.mpr ⟨(nomatch ·),ιN⟩⟩) (ζ2 (ap5 h5) (ap5 q5T)) fun s2 I2 H2=>?_
 refine H2.go ?_
 intro b1 b2 b3
 have A2:Aft [L,T] s' s2:=I2.aft
 have z2:s2.heap.objs.size=s'.heap.objs.size+5:=I2.size
 have S2:Ak w no s2:=S'.aft A2 (ζ2 (ap5 h5) (ap5 q5T))
 have kp2:∀ {a o},a<ch+8→a≠L→a≠ch+7→a≠ch+6→s1.heap.get? a=some o→s2.heap.get? a=some o:=fun {a} {o} h0 h1 h2 h3 q=>A2.keep _ _ (A'.keep _ _ q (by simp [h2,h3])) (by
  have h4:a≠T:=fun z=>ω6z z1 hT h0 z
  simp [h1,h4])
 refine inner_first W (xt:=u) (k:=Lh k s'.toks (s'.toks+1)) (rN:=0+1) (tr:=tk) (rs:=[]) (es:=0) (ec:=0) (v:=JC v (.int ((0+1:Nat):Int) tk) (.str x u)) (old:=.none) (hA.le (by decide:100≤300)) (nd5 (ω70 lL z1 hz') (ω71 lL z1 hz') (ω1k lL) (ω2n lL) (nd4 (ω5s) (ω72 z1 hz') (ω73 z1 hz') (ω74 z1 hz') (ω75 z1 hz') (ω6w))) (ζ5 h5 (ω76 h5n z1 hz') (ω77 h5n z1 hz') (ω26 h5n) (h5n)) hx0 S2 hv3 b1 b3 ⟨_,b2,rfl,rfl⟩ (kp2 (ω0q) (ω1f lL) (ω5s) (ω5s) a4) (kp2 (ω3j) (ω78 lL) (ω4g) (ω4g) a3) Aa (by have:x.cps.size≤12:=hx; show 0+x.cps.size≤1000; exact ω79 this) fun s3 ka kb X=>?_
 obtain⟨x1,x2,rs',es',ec',v',y1,y2,y3,y4,y5,y6⟩:=X
 have S3:Ak w no s3:=S2.aftK x1 (ζ5 (ap5 h5) (ap5 (ω76 h5n z1 hz')) (ap5 (ω77 h5n z1 hz')) (ap5 (ω26 h5n)) (ap5 (h5n)))
 refine uA W S3 hA rfl (to1r_v _ _ _ _ _ L cx cy cz k v ch (ch+1) (ch+7) T (0+1) tk x u s3.heap.objs.size s3.toks) Aa Aa ιN Aa fun s4 I4 H4=>ιp ⟨rfl,?_⟩
 have A4:Aft [] s3 s4:=I4.aft
 have k4:∀ {a o},s3.heap.get? a=some o→s4.heap.get? a=some o:=fun q=>A4.keep _ _ q (nomatch ·)
 have k34:∀ {a o},a<ch+8→a≠L→a≠ch+1→a≠ch→s2.heap.get? a=some o→s4.heap.get? a=some o:=fun {a} {o} h0 h1 h2 h3 q=>k4 (x1.keep _ _ q (by
  have h4:a≠s'.heap.objs.size+4:=fun z=>ω7a z1 hz' h0 z
  have h6:a≠s'.heap.objs.size+3:=fun z=>ω7b z1 hz' h0 z
  simp [h1,h2,h3,h4,h6]))
 have K4:B7 s3.heap s4.heap:=fun b o q _=>k4 q
 have B4:Cb [L,pc] st s4:=(((A1.toK.on A'.toK (ζ2 (.inr (ω7c hch)) (.inr (ω7c hch)))).on A2.toK (ζ2 (.inl m0) (.inr (ω7d hch z1 hT)))).on x1 (ζ5 (.inl m0) (.inr (ω7e hch z1 hz')) (.inr (ω7f hch z1 hz')) (.inr (ω7c hch)) (.inr (ω7g hch)))).on A4.toK Aa
 have lk:rs'.length=x.cps.size:=by rw [←HE rs',y6]; rfl
 have hx2:x.cps.size≤12:=hx
 refine outer_loop W (pc:=pc) (ps:=.str x u::ps) (v3:=.ref pc) (hA.le (by decide:200≤300)) nd npc h5' all ps.length 1 s4 rs' es' ec' (up2 (Lh k s'.toks (s'.toks+1)) ka kb) (JC v' (.int ((0+1:Nat):Int) tk) (v' 7)) (.str x u) (by show ps.length+1=ps.length+1; rfl) (S3.aft A4 Aa) y1 (k4 y2) (k34 (ω0q) (ω1f lL) (ω5s) (ω6w) (A2.keep _ _ he' (nm2 (Ne.symm (IF lL 7)) fun q=>by have q:(ch+7:Nat)=T:=q; exact ω7h z1 hT q))) ?_ (k34 (ω1o lp) (ω7i ne) (ω1k lp) (ω2n lp) (kp2 (ω1o lp) (ω7i ne) (ω1k lp) (ω1k lp) a2)) (k4 y3) (k4 y4) (fun r hr=>(y5 r hr).keep K4) (by rw [lk]; exact ω7j hz2 hx2) fun s5 X=>?_
 ·obtain⟨⟨o,ho,r⟩,_⟩:=hi2
  exact⟨o,k34 (ω0q) (ω1f lL) (ω5s) (ω6w) (A2.keep _ _ ho (nm2 (Ne.symm (IF lL 6)) fun q=>by have q:(ch+6:Nat)=T:=q; exact ω7k z1 hT q)),r⟩
 obtain⟨X1,rs5,es5,ec5,k5,v5,Y1,Y2,Y3,Y4,Y5,Y6⟩:=X
 have S5:Ak w no s5:=(S3.aft A4 Aa).aftK X1 (fun a ha=>ap5 (h5' a ha))
 refine uL W S5 hA rfl (tf1r_v w (Ax w) no ch st.toks L cx cy cz (kz [k0,k1,k2,k3]) (vz [v0,.ref tp,.int (hz:Nat) tz]) pc (.str x u::ps) s5.heap.objs.size s5.toks) Aa Aa ιN Aa fun s6 I6 H6=>ιp ?_
 have A6:Aft [] s5 s6:=I6.aft
 have k6:∀ {a o},s5.heap.get? a=some o→s6.heap.get? a=some o:=fun q=>A6.keep _ _ q (nomatch ·)
 refine h s6 ⟨(B4.on X1 (ζ5 (.inl m0) (.inr (ω7c hch)) (.inr (ω7c hch)) (.inr (ω7c hch)) (.inr (ω7g hch)))).on A6.toK Aa,rs5,es5,ec5,k5,v5,ch+1,ch,Y1,h5n,ω26 h5n,ω6w,ω1k lL,ω2n lL,ω1k lp,ω2n lp,ω7c hch,ω7g hch,k6 Y2,k6 Y3,k6 Y4,k6 (X1.keep _ _ (k34 (ω1o lp) (ω7i ne) (ω1k lp) (ω2n lp) (kp2 (ω1o lp) (ω7i ne) (ω1k lp) (ω1k lp) a2)) npc),fun r hr=>(Y5 r hr).keep fun b o q _=>k6 q,?_⟩
 rw [Y6,y6]
 rfl
end
noncomputable def rnT(w:World):Expr:=(Cz (A0 w 497)[1]?).1
noncomputable def rnB(w:World):List Stmt:=(Cz (A0 w 497)[1]?).2.1
noncomputable def clF(w:World):II:=Ju (A0 w 504)[0]?
noncomputable def wrF(w:World):II:=Ju (A0 w 511)[0]?
noncomputable def rdT(w:World):Expr:=(Cz (A0 w 518)[1]?).1
noncomputable def rdB(w:World):List Stmt:=(Cz (A0 w 518)[1]?).2.1
theorem build_split(w:World):(A0 w 523).take 5=Bp w 0 1++(Bp w 1 1++(Bp w 2 1++Bp w 3 2)):=by kernel_rfl
section
variable(w:World)(f:Fl)(ext:Addr→Option Obj)(n t L:Nat)(k:Nat→Nat)(a l c:Nat)(d d2 c2:Int)(t1 t2 t3 t4:Nat)(tx sg:Str)
def rnE:Res:=
 run (P2 w f ext n t 0) 36 [1,1,1,1,1,1,0,1,1,1] [] [] 0 0 .tree
  (ent w ext 497 [.str tx t1,.int (l:Nat) t2,.int (a:Nat) t3]) [] [] []
theorem rnE_v:RvN (rnE w f ext n t a l t1 t2 t3 tx) [0] (.call (.whileLoop (rnT w) (rnB w) [] (Af w 497 n))) 0 1 5 [some (n,oFr [de w "text" t (.str tx t1),de w "least" (t+1) (.int (l:Nat) t2),de w "at" (t+2) (.int (a:Nat) t3),de w "count" (t+4) (.int 0 (t+3))] 4)] []:=by kernel_rfl
noncomputable abbrev Kb:List Sp:=[Am "int.__gt__" ⟨[.int d (t+0),.int (l:Nat) t2],[]⟩ (.bool false),sSb (.int (a:Nat) t3) (.int (c:Nat) t4) d]
def rn1:Res:=
 run (P4 w f ext n t 0) 24 [1,1,0,2,1,0,2] ((Kb t a l c d t2 t3 t4).reverse.map Sp.x) [(L,oFr [de w "text" (k 0) (.str tx t1),de w "least" (k 1) (.int (l:Nat) t2),de w "at" (k 2) (.int (a:Nat) t3),de w "count" (k 3) (.int (c:Nat) t4)] 4)] 0 0 .tree
  (CI (rnT w) (rnB w) [] (Af w 497 L)) [] [] []
theorem Ka:RvD (rn1 w f ext n t L k a l c d t1 t2 t3 t4 tx) [0] (.done (.ok .next)) 1 0 1 [some (L,oFr [de w "text" (k 0) (.str tx t1),de w "least" (k 1) (.int (l:Nat) t2),de w "at" (k 2) (.int (a:Nat) t3),de w "count" (k 3) (.int (c:Nat) t4)] 4)] (Kb t a l c d t2 t3 t4):=by rcases f with⟨_ | _,_,_⟩ <;> kernel_rfl
noncomputable abbrev JZ:List Sp:=[Am "str.__eq__" ⟨[.str sg (t+4),.str ⟨⟨[92]⟩⟩ (t+5)],[]⟩ (.bool false),spStr "str.__getitem__" ⟨[.str tx t1,.int d2 (t+3)],[]⟩ sg,sSb (.int d (t+1)) (.int 1 (t+2)) d2,sSb (.int (a:Nat) t3) (.int (c:Nat) t4) d,Am "int.__gt__" ⟨[.int d (t+0),.int (l:Nat) t2],[]⟩ (.bool true),sSb (.int (a:Nat) t3) (.int (c:Nat) t4) d]
def rn2:Res:=
 run (P4 w f ext n t 0) 45 (ιx 18 0x202020201112012011) ((JZ t a l c d d2 t1 t2 t3 t4 tx sg).reverse.map Sp.x) [(L,oFr [de w "text" (k 0) (.str tx t1),de w "least" (k 1) (.int (l:Nat) t2),de w "at" (k 2) (.int (a:Nat) t3),de w "count" (k 3) (.int (c:Nat) t4)] 4)] 0 0 .tree
  (CI (rnT w) (rnB w) [] (Af w 497 L)) [] [] []
theorem rn2_v:RvD (rn2 w f ext n t L k a l c d d2 t1 t2 t3 t4 tx sg) [0] (.done (.ok .next)) 1 0 6 [some (L,oFr [de w "text" (k 0) (.str tx t1),de w "least" (k 1) (.int (l:Nat) t2),de w "at" (k 2) (.int (a:Nat) t3),de w "count" (k 3) (.int (c:Nat) t4)] 4)] (JZ t a l c d d2 t1 t2 t3 t4 tx sg):=by rcases f with⟨_ | _,_,_⟩ <;> kernel_rfl
noncomputable abbrev JY:List Sp:=[sAd (.int (c:Nat) t4) (.int 1 (t+6)) c2,Am "str.__eq__" ⟨[.str sg (t+4),.str ⟨⟨[92]⟩⟩ (t+5)],[]⟩ (.bool true),spStr "str.__getitem__" ⟨[.str tx t1,.int d2 (t+3)],[]⟩ sg,sSb (.int d (t+1)) (.int 1 (t+2)) d2,sSb (.int (a:Nat) t3) (.int (c:Nat) t4) d,Am "int.__gt__" ⟨[.int d (t+0),.int (l:Nat) t2],[]⟩ (.bool true),sSb (.int (a:Nat) t3) (.int (c:Nat) t4) d]
def rn3:Res:=
 run (P4 w f ext n t 0) 58 (ιx 23 0x11201202020201112012011) ((JY t a l c d d2 c2 t1 t2 t3 t4 tx sg).reverse.map Sp.x) [(L,oFr [de w "text" (k 0) (.str tx t1),de w "least" (k 1) (.int (l:Nat) t2),de w "at" (k 2) (.int (a:Nat) t3),de w "count" (k 3) (.int (c:Nat) t4)] 4)] 0 0 .tree
  (CI (rnT w) (rnB w) [] (Af w 497 L)) [] [] []
theorem rn3_v:RvD (rn3 w f ext n t L k a l c d d2 c2 t1 t2 t3 t4 tx sg) [0] (.again (.whileLoop (rnT w) (rnB w) [] (Af w 497 L))) 1 0 9 [some (L,oFr [de w "text" (k 0) (.str tx t1),de w "least" (k 1) (.int (l:Nat) t2),de w "at" (k 2) (.int (a:Nat) t3),de w "count" (k 3) (.int c2 (t+7))] 4)] (JY t a l c d d2 c2 t1 t2 t3 t4 tx sg):=by rcases f with⟨_ | _,_,_⟩ <;> kernel_rfl
end
section
variable(w:World)(f:Fl)(ext:Addr→Option Obj)(n t:Nat)(k:Nat→Nat)(a l c:Nat)(t1 t2 t3 t4:Nat)(tx:Str)(n2 u2:Nat)
def rnR:Res:=
 run (P2 w f ext n2 u2 0) 14 [1] [] [(n,oFr [de w "text" (k 0) (.str tx t1),de w "least" (k 1) (.int (l:Nat) t2),de w "at" (k 2) (.int (a:Nat) t3),de w "count" (k 3) (.int (c:Nat) t4)] 4)] 0 0 ((rnE w f ext n t a l t1 t2 t3 tx).ko)
  ((rnE w f ext n t a l t1 t2 t3 tx).kk (.ok .next)) [] [] []
theorem rnR_v:RvD (rnR w f ext n t k a l c t1 t2 t3 t4 tx n2 u2) [] (.done (.ok (.ret (.int (c:Nat) t4)))) 0 0 0 [] []:=by kernel_rfl
theorem rnE_h:AE none (rnE w f ext n t a l t1 t2 t3 tx).ko=none:=by kernel_rfl
theorem rnE_d:Nat.ble (AX (rnE w f ext n t a l t1 t2 t3 tx).ko) 20=true:=by kernel_rfl
theorem rnE_l:Nat.ble (Cn (rnE w f ext n t a l t1 t2 t3 tx).ko) 20=true:=by kernel_rfl
end
theorem HR{A A1:Around}{ko:Ko}{d d':Nat}(hA:Ar A d)(q1:Nat.ble (AX ko) 20=true)(q2:Nat.ble (Cn ko) 20=true)(hd:A1.depth≤max A.depth A.depth+AX ko)(hu:A1.units≤max (A.units+1) A.units+10*Cn ko)(hh:A1.handled=none)(h:d'+30≤d):Ar A1 d':=⟨hh,by
  have:=hA.depth
  have:=Nat.le_of_ble_eq_true q1
  omega,by
  have:=hA.units
  have:=Nat.le_of_ble_eq_true q2
  omega⟩
noncomputable def CA(x:Str)(l:Nat):Nat→Nat
 | 0=>0
 | a+1=>if l≤a&&x.cps.getD a 0 == 92 then CA x l a+1 else 0
section
variable{P:Par}{g:Bq}{U D:Nat}
theorem ER{a b t u:Nat}{v:Int}(hP:∀ b,P.n≤b→P.look b=none)(h:((a:Nat):Int)-((b:Nat):Int)=v):AK P g U D (sSb (.int (a:Nat) t) (.int (b:Nat) u) v):=
 Hg hP F.entry_int_sub (by decide +kernel) (by rw [←h]; exact AutoIntG9.int___sub___int_int_0 _ _ _ _)
theorem JG{a b:Int}{t u:Nat}{v:Bool}(hP:∀ b,P.n≤b→P.look b=none)(h:decide (a>b)=v):AK P g U D (Am "int.__gt__" ⟨[.int a t,.int b u],[]⟩ (.bool v)):=
 E0 hP F.entry_int_gt (by decide +kernel) (by rw [←h]; exact AutoIntG4.int___gt___int_int_0 _ _ _ _)
end
section
variable{w:World}{ext:Addr→Option Obj}
noncomputable abbrev JF(w:World)(k:Nat→Nat)(x:Str)(l a:Nat)(c:Int)(t1 t2 t3 t4:Nat):Obj:=oFr [de w "text" (k 0) (.str x t1),de w "least" (k 1) (.int (l:Nat) t2),de w "at" (k 2) (.int (a:Nat) t3),de w "count" (k 3) (.int c t4)] 4
theorem rn_loop(W:Ae w){L l a t1 t2 t3:Nat}{k:Nat→Nat}{x:Str}(ha:a≤x.length)(hx:x.length<1000)(apL:lkX w ext L=none){A:Around}(hA:Ar A 100) :
  ∀ (m c t4:Nat) (st:Shared),c+m=a→Ak w ext st→st.heap.get? L=some (JF w k x l a (c:Nat) t1 t2 t3 t4)→
   (∀ s' t4',Aft [L] st s'→s'.heap.get? L=some (JF w k x l a ((c+CA x l m:Nat):Int) t1 t2 t3 t4')→R (.ok .next) s')→
   codeAny (model pr2 w) A (.whileLoop (rnT w) (rnB w) [] (Af w 497 L)) R st:=by
 intro m
 induction m with
 | zero=>
  intro c t4 st hm S hL hR
  refine Ee ?_
  obtain⟨hroom,hfr⟩:=CT (test:=rnT w) (body:=rnB w) (orelse:=[]) (env:=Af w 497 L) (hA.le (show 99+1≤100 by decide))
  refine uL W S hroom rfl (Ka _ _ _ _ _ L k a l c ((0:Nat):Int) t1 t2 t3 t4 x) (ζ2 (JG S.new (by simp)) (ER S.new (ω7l hm))) (Ab hL Aa) (List.nodup_cons.mpr ⟨(nomatch ·),ιN⟩) (Ab apL Aa) fun s1 I1 H1=>ιp (hR s1 t4 I1.aft (H1 _ μ0))
 | succ m ih=>
  intro c t4 st hm S hL hR
  refine Ee ?_
  obtain⟨hroom,hfr⟩:=CT (test:=rnT w) (body:=rnB w) (orelse:=[]) (env:=Af w 497 L) (hA.le (show 99+1≤100 by decide))
  have I0:=Inv.MH S (reads:=[]) (pre:=[(L,JF w k x l a (c:Nat) t1 t2 t3 t4)]) Aa ιN (Ab hL Aa) (List.nodup_cons.mpr ⟨(nomatch ·),ιN⟩) (Ab apL Aa)
  by_cases hl:l≤m
  ·cases hb:x.cps.getD m 0 == 92 with
   | true=>
    refine AR (g:=Ac pr2 w _ _ _) (Ao (t:=st.toks) (ro:=0) W S hroom (by decide)) rfl (rn3_v _ _ _ _ _ L k a l c ((m+1:Nat):Int) (m:Nat) ((c+1:Nat):Int) t1 t2 t3 t4 x ⟨#[x.cps.getD m 0]⟩)
     (ζ7 (Bj (a:=c) (b:=1) S.new (ω7m ha hx hm) rfl) (Dh S.new (by rw [←hb]; simp)) (BS S.new (ω7n ha hm) (ω47 hx)) (ER (a:=m+1) (b:=1) S.new (ω7o)) (ER S.new (ω7p hm)) (JG S.new (by simp; exact ω7q hl)) (ER S.new (ω7p hm))) I0 fun s1 I1 H1=>?_
    have A1:Aft [L] st s1:=I1.aft
    refine ιp ⟨rfl,ih (c+1) _ s1 (ω3h hm) (S.aft A1 (Ab apL Aa)) (H1 _ μ0) fun s2 t4' A2 hL2=>hR s2 t4' (A1.trans A2) ?_⟩
    rw [hL2,CA,if_pos (by rw [hb]; simp [hl])]
    rw [show c+1+CA x l m=c+(CA x l m+1) from ωc]
   | false=>
    refine Al (g:=Ac pr2 w _ _ _) (Ao (t:=st.toks) (ro:=0) W S hroom (by decide)) rfl (rn2_v _ _ _ _ _ L k a l c ((m+1:Nat):Int) (m:Nat) t1 t2 t3 t4 x ⟨#[x.cps.getD m 0]⟩)
     (ζ6 (Dh S.new (by rw [←hb]; simp)) (BS S.new (ω7n ha hm) (ω47 hx)) (ER (a:=m+1) (b:=1) S.new (ω7o)) (ER S.new (ω7p hm)) (JG S.new (by simp; exact ω7q hl)) (ER S.new (ω7p hm))) I0 fun s1 I1 H1=>ιp (hR s1 t4 I1.aft ?_)
    rw [CA,if_neg (by rw [hb]; simp)]
    exact H1 _ μ0
  ·refine Al (g:=Ac pr2 w _ _ _) (Ao (t:=st.toks) (ro:=0) W S hroom (by decide)) rfl (Ka _ _ _ _ _ L k a l c ((m+1:Nat):Int) t1 t2 t3 t4 x)
    (ζ2 (JG S.new (by simp; exact ω7r hl)) (ER S.new (ω7p hm))) I0 fun s1 I1 H1=>ιp (hR s1 t4 I1.aft ?_)
   rw [CA,if_neg (by simp [hl])]
   exact H1 _ μ0
theorem Jc(W:Ae w){A:Around}{st:Shared}(hA:Ar A 140)(S:Ak w ext st){x:Str}{l a t1 t2 t3:Nat}(ha:a≤x.length)(hx:x.length<1000)
  (hR:∀ s' tk,Aft [] st s'→R (.ok (.ret (.int ((CA x l a:Nat):Int) tk))) s'):codeAny (model pr2 w) A (.call (.ref 497) ⟨[.str x t1,.int (l:Nat) t2,.int (a:Nat) t3],[]⟩) R st:=by
 have I0:=Inv.MH S (reads:=[]) (pre:=[]) Aa ιN Aa (by simp) Aa
 refine Bv S (BA w ext 497 (by rfl)) (by have:=hA.depth; exact ω03 this) ?_
 refine CJ (g:=Av pr2 w A R) (BC W S hA (by decide)) rfl (rnE_v _ _ _ _ _ a l t1 t2 t3 x) (rnE_h w (Ax w) ext st.heap.objs.size st.toks a l t1 t2 t3 x)
  Aa I0 fun A1 s1 hd1 hu1 hh1 hf1 I1 H1=>?_
 have hA1:Ar A1 110:=HR hA (rnE_d ..) (rnE_l ..) hd1 hu1 (hh1.trans hA.handled) (by decide)
 have St1:Ak w ext s1:=S.aft I1.aft (fun a ha=>nomatch ha)
 have apL:lkX w ext st.heap.objs.size=none:=S.new _ (ιR _)
 let k:Nat→Nat:=fun i=>match i with | 0=>st.toks | 1=>st.toks+1 | 2=>st.toks+2 | _=>st.toks+4
 refine rn_loop W (k:=k) (L:=st.heap.objs.size) ha hx apL (hA1.le (by decide)) a 0 (st.toks+3) s1 (Nat.zero_add _) St1 (H1 _ μ0) fun s2 t4 A2 hL2=>?_
 have St2:Ak w ext s2:=St1.aft A2 (Ab apL Aa)
 rw [Nat.zero_add] at hL2
 refine Aw (g:=Av pr2 w A R) (BC W St2 hA (by decide)) rfl (rnR_v _ _ _ _ _ k a l (CA x l a) t1 t2 t3 t4 x s2.heap.objs.size s2.toks) (vs:=[]) Aa
  (Inv.MH St2 (reads:=[]) (pre:=[(st.heap.objs.size,JF w k x l a ((CA x l a:Nat):Int) t1 t2 t3 t4)]) Aa ιN (Ab hL2 Aa) (by simp) (Ab apL Aa)) fun s3 I3 H3=>hR s3 _ ?_
 exact((I1.aft.mono Aa).trans (A2.trans I3.aft)).drop fun y hy=>.inr (by rw [ιS hy]; exact ιR _)
end
noncomputable abbrev Ll(a b:Int)(t u v:Nat):Obj:=⟨.type "range",none,.fields #[.int a t,.int b u,.int 1 v],#[]⟩
noncomputable abbrev Dy(j:Nat)(r:Addr)(a b c:Int)(t u v:Nat):Sp:=⟨.builtin "range.__iter__" ⟨[.ref r],[]⟩,{r:=fun n _=>.ok (.ret (.ref n)),news:=fun _=>[oRi a c],reads:=[j]},[],[some (r,Ll a b t u v)]⟩
section
variable{P:Par}{g:Bq}{U D:Nat}{id:String}{args:Args}{B:Builtin}
theorem Hf{j:Nat}{r:Addr}{a b c:Int}{t u v:Nat}(hP:∀ b,P.n≤b→P.look b=none)(h0:0≤a)(hab:a≤b)(h1:b<1000000)(hc:b-a=c):AK P g U D (Dy j r a b c t u v):=by
 refine Bu (us:=[]) (ps:=[(r,Ll a b t u v)]) rfl hP fun A s R _ _ _ _ _ h5 hR=>?_
 have hsm:Builtin.Range.small a b 1=true:=small_one (by omega) (by omega) (by omega) (by omega)
 have hsz:Builtin.Range.rangeSize a b 1=c:=by
  rw [rangeSize_one]
  split <;> omega
 refine AA (F.entry_range_iter) (by decide +kernel) (AutoRange.range___iter___range_1 r a b 1 t u v (by have hq:=hsm; unfold Builtin.Range.small at hq; rw [hq]; simp)) ⟨h5 _ μ0,?_⟩
 unfold Builtin.Range.small at hsm
 rw [if_pos hsm,hsz]
 obtain⟨k1,k2,k3⟩:=BP (s:=s.heap) (l:=[oRi a c]) (fun o ho=>by rw [ιS ho]; rfl)
 refine hR _ ⟨rfl,rfl,?_,?_,(fun p hp=>nomatch hp),?_⟩
 ·exact k1
 ·exact fun b o e _=>k2 b o e
 ·exact k3
end
section
variable(w:World)(f:Fl)(ext:Addr→Option Obj)(n t L it:Nat)(k:Nat→Nat)(l:Nat)(x left:Int)(t1 t2:Nat)(tx sg:Str)(va:Value)
def clE:Res:=
 run (P2 w f ext n t 0) 62 (ιx 30 0x132202220202200002010010001111) ([Cc tx t1,Dy 1 (n+1) (l:Nat) (tx.length:Nat) left t2 (t+3) (t+4)].map Sp.x) [] 0 0 .tree
  (ent w ext 504 [.str tx t1,.int (l:Nat) t2]) [] [] []
theorem clE_v:RvN (clE w f ext n t l left t1 t2 tx) [0,2] (.call (.forLoop (clF w).x (.ref (n+2)) (clF w).body [] (Af w 504 n))) 0 3 5 [some (n,oFr [de w "text" t (.str tx t1),de w "least" (t+1) (.int (l:Nat) t2)] 2),some (n+2,oRi (l:Nat) left)] [Dy 1 (n+1) (l:Nat) (tx.length:Nat) left t2 (t+3) (t+4),Cc tx t1]:=by rcases f with⟨_ | _,_,_⟩ <;> kernel_rfl
def cl0a:Res:=
 run (P4 w f ext n t 0) 17 [2,0,2,2,4] ([Cf 1 it x left].map Sp.x) [(L,oFr [de w "text" (k 0) (.str tx t1),de w "least" (k 1) (.int (l:Nat) t2)] 2),(it,oRi x left)] 0 0 .tree
  (Dj (clF w).x (.ref it) (clF w).body [] (Af w 504 L)) [] [] []
theorem cl0a_v:RvD (cl0a w f ext n t L it k l x left t1 t2 tx) [0,1] (.again (.block [] (Af w 504 L))) 1 2 0 [some (L,oFr [de w "text" (k 0) (.str tx t1),de w "least" (k 1) (.int (l:Nat) t2)] 2),some (it,oRi x left)] [Cf 1 it x left]:=by kernel_rfl
noncomputable abbrev J6:List Sp:=[Am "str.__eq__" ⟨[.str sg (t+2),.str (Str.ofString "\"") (t+3)],[]⟩ (.bool false),spStr "str.__getitem__" ⟨[.str tx t1,.int x (t+0)],[]⟩ sg,Bt 1 it x left]
def cl1a:Res:=
 run (P4 w f ext n t 0) 36 (ιx 12 0x202011112202) ((J6 t it x left t1 tx sg).reverse.map Sp.x) [(L,oFr [de w "text" (k 0) (.str tx t1),de w "least" (k 1) (.int (l:Nat) t2)] 2),(it,oRi x left)] 0 0 .tree
  (Dj (clF w).x (.ref it) (clF w).body [] (Af w 504 L)) [] [] []
theorem cl1a_v:RvD (cl1a w f ext n t L it k l x left t1 t2 tx sg) [0,1] (.again (.forLoop (clF w).x (.ref it) (clF w).body [] (Af w 504 L))) 1 0 4 [some (L,oFr [de w "text" (k 0) (.str tx t1),de w "least" (k 1) (.int (l:Nat) t2),de w "at" (t+1) (.int x (t+0))] 3),some (it,oRi (x+1) (left-1))] (J6 t it x left t1 tx sg):=by rcases f with⟨_ | _,_,_⟩ <;> kernel_rfl
noncomputable abbrev J3:List Sp:=[Am "str.__eq__" ⟨[.str sg (t+2),.str (Str.ofString "\"") (t+3)],[]⟩ (.bool true),spStr "str.__getitem__" ⟨[.str tx t1,.int x (t+0)],[]⟩ sg,Bt 1 it x left]
def J4:Res:=
 run (P4 w f ext n t 0) 46 (ιx 18 0x101110202011112202) ((J3 t it x left t1 tx sg).reverse.map Sp.x) [(L,oFr [de w "text" (k 0) (.str tx t1),de w "least" (k 1) (.int (l:Nat) t2)] 2),(it,oRi x left)] 0 0 .tree
  (Dj (clF w).x (.ref it) (clF w).body [] (Af w 504 L)) [] [] []
theorem cl2a_v:RvC (J4 w f ext n t L it k l x left t1 t2 tx sg) [0,1] (.call (.call (.ref 497) ⟨[.str tx t1,.int (l:Nat) t2,.int x (t+0)],[]⟩)) 1 0 4 [some (L,oFr [de w "text" (k 0) (.str tx t1),de w "least" (k 1) (.int (l:Nat) t2),de w "at" (t+1) (.int x (t+0))] 3),some (it,oRi (x+1) (left-1))] (J3 t it x left t1 tx sg):=by rcases f with⟨_ | _,_,_⟩ <;> kernel_rfl
def cl0b:Res:=
 run (P4 w f ext n t 0) 17 [2,0,2,2,4] ([Cf 1 it x left].map Sp.x) [(L,oFr [de w "text" (k 0) (.str tx t1),de w "least" (k 1) (.int (l:Nat) t2),de w "at" (k 2) va] 3),(it,oRi x left)] 0 0 .tree
  (Dj (clF w).x (.ref it) (clF w).body [] (Af w 504 L)) [] [] []
theorem cl0b_v:RvD (cl0b w f ext n t L it k l x left t1 t2 tx va) [0,1] (.again (.block [] (Af w 504 L))) 1 2 0 [some (L,oFr [de w "text" (k 0) (.str tx t1),de w "least" (k 1) (.int (l:Nat) t2),de w "at" (k 2) va] 3),some (it,oRi x left)] [Cf 1 it x left]:=by kernel_rfl
noncomputable abbrev J5:List Sp:=[Am "str.__eq__" ⟨[.str sg (t+2),.str (Str.ofString "\"") (t+3)],[]⟩ (.bool false),spStr "str.__getitem__" ⟨[.str tx t1,.int x (t+0)],[]⟩ sg,Bt 1 it x left]
def cl1b:Res:=
 run (P4 w f ext n t 0) 36 (ιx 12 0x202011112202) ((J5 t it x left t1 tx sg).reverse.map Sp.x) [(L,oFr [de w "text" (k 0) (.str tx t1),de w "least" (k 1) (.int (l:Nat) t2),de w "at" (k 2) va] 3),(it,oRi x left)] 0 0 .tree
  (Dj (clF w).x (.ref it) (clF w).body [] (Af w 504 L)) [] [] []
theorem cl1b_v:RvD (cl1b w f ext n t L it k l x left t1 t2 tx sg va) [0,1] (.again (.forLoop (clF w).x (.ref it) (clF w).body [] (Af w 504 L))) 1 0 4 [some (L,oFr [de w "text" (k 0) (.str tx t1),de w "least" (k 1) (.int (l:Nat) t2),de w "at" (k 2) (.int x (t+0))] 3),some (it,oRi (x+1) (left-1))] (J5 t it x left t1 tx sg):=by rcases f with⟨_ | _,_,_⟩ <;> kernel_rfl
noncomputable abbrev J2:List Sp:=[Am "str.__eq__" ⟨[.str sg (t+2),.str (Str.ofString "\"") (t+3)],[]⟩ (.bool true),spStr "str.__getitem__" ⟨[.str tx t1,.int x (t+0)],[]⟩ sg,Bt 1 it x left]
def M9:Res:=
 run (P4 w f ext n t 0) 46 (ιx 18 0x101110202011112202) ((J2 t it x left t1 tx sg).reverse.map Sp.x) [(L,oFr [de w "text" (k 0) (.str tx t1),de w "least" (k 1) (.int (l:Nat) t2),de w "at" (k 2) va] 3),(it,oRi x left)] 0 0 .tree
  (Dj (clF w).x (.ref it) (clF w).body [] (Af w 504 L)) [] [] []
theorem cl2b_v:RvC (M9 w f ext n t L it k l x left t1 t2 tx sg va) [0,1] (.call (.call (.ref 497) ⟨[.str tx t1,.int (l:Nat) t2,.int x (t+0)],[]⟩)) 1 0 4 [some (L,oFr [de w "text" (k 0) (.str tx t1),de w "least" (k 1) (.int (l:Nat) t2),de w "at" (k 2) (.int x (t+0))] 3),some (it,oRi (x+1) (left-1))] (J2 t it x left t1 tx sg):=by rcases f with⟨_ | _,_,_⟩ <;> kernel_rfl
theorem clE_h:AE none (clE w f ext n t l left t1 t2 tx).ko=none:=by rcases f with⟨_ | _,_,_⟩ <;> kernel_rfl
theorem clE_d:Nat.ble (AX (clE w f ext n t l left t1 t2 tx).ko) 20=true:=by rcases f with⟨_ | _,_,_⟩ <;> kernel_rfl
theorem clE_l:Nat.ble (Cn (clE w f ext n t l left t1 t2 tx).ko) 20=true:=by rcases f with⟨_ | _,_,_⟩ <;> kernel_rfl
theorem cl2_kk:(J4 w f ext n t L it k l x left t1 t2 tx sg).kk=(M9 w f ext n t L it k l x left t1 t2 tx sg va).kk:=by rcases f with⟨_ | _,_,_⟩ <;> kernel_rfl
end
section
variable(w:World)(f:Fl)(ext:Addr→Option Obj)(n t L it:Nat)(k:Nat→Nat)(l:Nat)(x left:Int)(t1 t2:Nat)(tx sg:Str)(va:Value)(n2 u2 rr t5 t6:Nat)(kz:Nat→Nat)
def cl3:Res:=
 run (P4 w f ext n2 u2 0) 25 [0,2,0,0,1] ([sMd (.int (↑rr) t5) (.int 2 (u2+0)) 0].map Sp.x) [(L,oFr [de w "text" (kz 0) (.str tx t1),de w "least" (kz 1) (.int (l:Nat) t2),de w "at" (kz 2) (.int x t6)] 3)] 0 0 .tree
  ((J4 w f ext n t L it k l x left t1 t2 tx sg).kk (.ok (.ret (.int (rr:Nat) t5)))) [] [] []
theorem cl3_v:RvD (cl3 w f ext n t L it k l x left t1 t2 tx sg n2 u2 rr t5 t6 kz) [0] (.done (.ok (.ret (.int x t6)))) 1 0 3 [some (L,oFr [de w "text" (kz 0) (.str tx t1),de w "least" (kz 1) (.int (l:Nat) t2),de w "at" (kz 2) (.int x t6)] 3)] [sMd (.int (↑rr) t5) (.int 2 (u2+0)) 0]:=by rcases f with⟨_ | _,_,_⟩ <;> kernel_rfl
def cl4:Res:=
 run (P4 w f ext n2 u2 0) 22 [0,2,0,0] ([sMd (.int (↑rr) t5) (.int 2 (u2+0)) 1].map Sp.x) [(L,oFr [de w "text" (kz 0) (.str tx t1),de w "least" (kz 1) (.int (l:Nat) t2),de w "at" (kz 2) (.int x t6)] 3)] 0 0 .tree
  ((J4 w f ext n t L it k l x left t1 t2 tx sg).kk (.ok (.ret (.int (rr:Nat) t5)))) [] [] []
theorem cl4_v:RvD (cl4 w f ext n t L it k l x left t1 t2 tx sg n2 u2 rr t5 t6 kz) [0] (.again (.forLoop (clF w).x (.ref it) (clF w).body [] (Af w 504 L))) 1 0 3 [some (L,oFr [de w "text" (kz 0) (.str tx t1),de w "least" (kz 1) (.int (l:Nat) t2),de w "at" (kz 2) (.int x t6)] 3)] [sMd (.int (↑rr) t5) (.int 2 (u2+0)) 1]:=by rcases f with⟨_ | _,_,_⟩ <;> kernel_rfl
def clRa:Res:=
 run (P2 w f ext n2 u2 0) 21 [0,0,1,0,2] ([Cc tx t1].map Sp.x) [(n,oFr [de w "text" (kz 0) (.str tx t1),de w "least" (kz 1) (.int (l:Nat) t2)] 2)] 0 0 ((clE w f ext n t l left t1 t2 tx).ko)
  ((clE w f ext n t l left t1 t2 tx).kk (.ok .next)) [] [] []
theorem clRa_v:RvD (clRa w f ext n t l left t1 t2 tx n2 u2 kz) [0] (.done (.ok (.ret (.int (tx.length:Nat) (u2+1))))) 0 0 2 [some (n,oFr [de w "text" (kz 0) (.str tx t1),de w "least" (kz 1) (.int (l:Nat) t2)] 2)] [Cc tx t1]:=by rcases f with⟨_ | _,_,_⟩ <;> kernel_rfl
def clRb:Res:=
 run (P2 w f ext n2 u2 0) 21 [0,0,1,0,2] ([Cc tx t1].map Sp.x) [(n,oFr [de w "text" (kz 0) (.str tx t1),de w "least" (kz 1) (.int (l:Nat) t2),de w "at" (kz 2) va] 3)] 0 0 ((clE w f ext n t l left t1 t2 tx).ko)
  ((clE w f ext n t l left t1 t2 tx).kk (.ok .next)) [] [] []
theorem clRb_v:RvD (clRb w f ext n t l left t1 t2 tx va n2 u2 kz) [0] (.done (.ok (.ret (.int (tx.length:Nat) (u2+1))))) 0 0 2 [some (n,oFr [de w "text" (kz 0) (.str tx t1),de w "least" (kz 1) (.int (l:Nat) t2),de w "at" (kz 2) va] 3)] [Cc tx t1]:=by rcases f with⟨_ | _,_,_⟩ <;> kernel_rfl
def clQ:Res:=
 run (P2 w f ext n2 u2 0) 11 [] [] [] 0 0 ((clE w f ext n t l left t1 t2 tx).ko)
  ((clE w f ext n t l left t1 t2 tx).kk (.ok (.ret va))) [] [] []
theorem clQ_v:RvD (clQ w f ext n t l left t1 t2 tx va n2 u2) [] (.done (.ok (.ret va))) 0 0 0 [] []:=by rcases f with⟨_ | _,_,_⟩ <;> kernel_rfl
end
noncomputable def BN(x:Str)(l a:Nat):Bool:=x.cps.getD a 0 == 34&&CA x l a%2 == 0
noncomputable def AM(x:Str)(l:Nat):Nat:=(Bg (BN x l) (x.length-l) l).getD x.length
theorem nd2{α:Type}{a b:α}(h:a≠b):[a,b].Nodup:=by simp [h]
section
variable{w:World}{ext:Addr→Option Obj}
noncomputable abbrev clA(w:World)(k:Nat→Nat)(x:Str)(l t1 t2:Nat):Obj:=oFr [de w "text" (k 0) (.str x t1),de w "least" (k 1) (.int (l:Nat) t2)] 2
noncomputable abbrev clB(w:World)(k:Nat→Nat)(x:Str)(l t1 t2:Nat)(v:Value):Obj:=oFr [de w "text" (k 0) (.str x t1),de w "least" (k 1) (.int (l:Nat) t2),de w "at" (k 2) v] 3
noncomputable def k2(k:Nat→Nat)(a:Nat):Nat→Nat
 | 2=>a
 | i=>k i
noncomputable abbrev clW(w:World)(it L:Nat):Code:=.forLoop (clF w).x (.ref it) (clF w).body [] (Af w 504 L)
theorem cl_loop(W:Ae w){L it l t1 t2:Nat}{x:Str}(hx:x.length<1000)(ne:L≠it)(apL:lkX w ext L=none)(apI:lkX w ext it=none){A:Around}(hA:Ar A 150) :
  ∀ (m i:Nat) (k:Nat→Nat) (st:Shared),i+m=x.length→Ak w ext st→(st.heap.get? L=some (clA w k x l t1 t2)∨∃ v,st.heap.get? L=some (clB w k x l t1 t2 v))→st.heap.get? it=some (oRi (i:Nat) (m:Nat))→
   (∀ s' a tk,Bg (BN x l) m i=some a→Aft [L,it] st s'→R (.ok (.ret (.int (a:Nat) tk))) s')→
   (∀ s' k',Bg (BN x l) m i=none→Aft [L,it] st s'→(s'.heap.get? L=some (clA w k' x l t1 t2)∨∃ v,s'.heap.get? L=some (clB w k' x l t1 t2 v))→R (.ok .next) s')→
   codeAny (model pr2 w) A (clW w it L) R st:=by
 intro m
 induction m with
 | zero=>
  intro i k st hm S hL hI hS hN
  refine Cp ?_
  obtain⟨hroom,hfr⟩:=BU (target:=(clF w).x) (it:=.ref it) (body:=(clF w).body) (orelse:=[]) (env:=Af w 504 L) (hA.le (show 149+1≤150 by decide))
  rcases hL with hL | ⟨v,hL⟩
  ·refine uA W S hroom rfl (cl0a_v _ _ _ _ _ L it k l (i:Nat) (0:Nat) t1 t2 x) (Ab (ED S.new (by decide)) Aa) (ζ2 hL hI) (nd2 ne) (ζ2 apL apI) fun s1 I1 H1=>?_
   exact ιp ⟨rfl,codeAny_block (wpAny_execs_nil (hN s1 k rfl I1.aft (.inl (H1 _ m0))))⟩
  ·refine uA W S hroom rfl (cl0b_v _ _ _ _ _ L it k l (i:Nat) (0:Nat) t1 t2 x v) (Ab (ED S.new (by decide)) Aa) (ζ2 hL hI) (nd2 ne) (ζ2 apL apI) fun s1 I1 H1=>?_
   exact ιp ⟨rfl,codeAny_block (wpAny_execs_nil (hN s1 k rfl I1.aft (.inr ⟨v,H1 _ m0⟩)))⟩
 | succ m ih=>
  intro i k st hm S hL hI hS hN
  refine Cp ?_
  obtain⟨hroom,hfr⟩:=BU (target:=(clF w).x) (it:=.ref it) (body:=(clF w).body) (orelse:=[]) (env:=Af w 504 L) (hA.le (show 149+1≤150 by decide))
  have en:((m+1:Nat):Int)-1=(m:Nat):=ω4a
  have again:∀ (s1:Shared) (k':Nat→Nat) (v:Value),BN x l i=false→Aft [L,it] st s1→s1.heap.get? L=some (clB w k' x l t1 t2 v)→s1.heap.get? it=some (oRi ((i:Nat)+1) (((m+1:Nat):Int)-1))→codeAny (model pr2 w) A (clW w it L) R s1:=fun s1 k' v hb a1 h1 h2=>by
   have ef:Bg (BN x l) (m+1) i=Bg (BN x l) m (i+1):=by rw [Bg,hb]; rfl
   rw [en] at h2
   exact ih (i+1) k' s1 (ω3h hm) (S.aft a1 (ζ2 apL apI)) (.inr ⟨v,h1⟩) h2 (fun s' a tk h a2=>hS s' a tk (ef.trans h) (a1.trans a2)) fun s' k'' h a2=>hN s' k'' (ef.trans h) (a1.trans a2)
  cases hb:x.cps.getD i 0 == 34 with
  | false=>
   have hc:BN x l i=false:=by unfold BN; rw [hb]; rfl
   have ob:∀ (Fi:PySem.Fin→Shared→Prop) (E':Value→Shared→Prop),∀ v∈[Am "str.__eq__" ⟨[.str ⟨#[x.cps.getD i 0]⟩ (st.toks+2),.str (Str.ofString "\"") (st.toks+3)],[]⟩ (.bool false),spStr "str.__getitem__" ⟨[.str x t1,.int (i:Nat) (st.toks+0)],[]⟩ ⟨#[x.cps.getD i 0]⟩,Bt 1 it (i:Nat) ((m+1:Nat):Int)],AK (P4 w (Ax w) ext st.heap.objs.size st.toks 0) (Ac pr2 w (A.under (clW w it L)) Fi E') 30 30 v:=fun Fi E'=>
    Ab (Dh S.new (by rw [←hb,show(Str.ofString "\"").cps=#[34] from by kernel_rfl]; simp)) (ζ2 (BS S.new (ω7s hm) (ω47 hx)) (DQ S.new (Nat.zero_le 1) (ω49)))
   rcases hL with hL | ⟨v,hL⟩
   ·refine uA W S hroom rfl (cl1a_v _ _ _ _ _ L it k l (i:Nat) ((m+1:Nat):Int) t1 t2 x ⟨#[x.cps.getD i 0]⟩) (ob _ _) (ζ2 hL hI) (nd2 ne) (ζ2 apL apI) fun s1 I1 H1=>?_
    exact ιp ⟨rfl,again s1 (k2 k (st.toks+1)) _ hc I1.aft (H1 _ m0) (H1 _ m1)⟩
   ·refine uA W S hroom rfl (cl1b_v _ _ _ _ _ L it k l (i:Nat) ((m+1:Nat):Int) t1 t2 x ⟨#[x.cps.getD i 0]⟩ v) (ob _ _) (ζ2 hL hI) (nd2 ne) (ζ2 apL apI) fun s1 I1 H1=>?_
    exact ιp ⟨rfl,again s1 k _ hc I1.aft (H1 _ m0) (H1 _ m1)⟩
  | true=>
   have ob:∀ (Fi:PySem.Fin→Shared→Prop) (E':Value→Shared→Prop),∀ v∈[Am "str.__eq__" ⟨[.str ⟨#[x.cps.getD i 0]⟩ (st.toks+2),.str (Str.ofString "\"") (st.toks+3)],[]⟩ (.bool true),spStr "str.__getitem__" ⟨[.str x t1,.int (i:Nat) (st.toks+0)],[]⟩ ⟨#[x.cps.getD i 0]⟩,Bt 1 it (i:Nat) ((m+1:Nat):Int)],AK (P4 w (Ax w) ext st.heap.objs.size st.toks 0) (Ac pr2 w (A.under (clW w it L)) Fi E') 30 30 v:=fun Fi E'=>
    Ab (Dh S.new (by rw [←hb,show(Str.ofString "\"").cps=#[34] from by kernel_rfl]; simp)) (ζ2 (BS S.new (ω7s hm) (ω47 hx)) (DQ S.new (Nat.zero_le 1) (ω49)))
   have rest:∀ (va:Value) (s1:Shared) (k':Nat→Nat),Aft [L,it] st s1→s1.heap.get? L=some (clB w k' x l t1 t2 (.int (i:Nat) (st.toks+0)))→s1.heap.get? it=some (oRi ((i:Nat)+1) (((m+1:Nat):Int)-1))→
     codeAny (model pr2 w) (A.under (clW w it L)) (.call (.ref 497) ⟨[.str x t1,.int (l:Nat) t2,.int (i:Nat) (st.toks+0)],[]⟩) (fun r s''=>wpAny (model pr2 w) (A.under (clW w it L)) ((J4 w (Ax w) ext st.heap.objs.size st.toks L it k l (i:Nat) ((m+1:Nat):Int) t1 t2 x ⟨#[x.cps.getD i 0]⟩).kk r) (C9 (model pr2 w) A R) (notedBy (model pr2 w) (A.under (clW w it L)) (Af w 504 L) fun e s'=>R (.error e) s') s'') s1:=fun va s1 k' a1 h1 h2=>by
    refine Jc W (hroom.le (by decide)) (S.aft a1 (ζ2 apL apI)) (ω7t hm) hx fun s2 tk a2=>?_
    have S2:Ak w ext s2:=(S.aft a1 (ζ2 apL apI)).aft a2 Aa
    have h1':=a2.keep _ _ h1 (nomatch ·)
    have h2':=a2.keep _ _ h2 (nomatch ·)
    have I0:=Inv.MH S2 (reads:=[]) (pre:=[(L,clB w k' x l t1 t2 (.int (i:Nat) (st.toks+0)))]) Aa ιN (Ab h1' Aa) (List.nodup_cons.mpr ⟨(nomatch ·),ιN⟩) (Ab apL Aa)
    cases hp:CA x l i%2 == 0 with
    | true=>
     have e0:CA x l i%2=0:=by simpa using hp
     refine Al (g:=Ac pr2 w _ _ _) (Ao (t:=s2.toks) (ro:=0) W S2 hroom (by decide)) rfl (cl3_v _ _ _ _ _ L it k l (i:Nat) ((m+1:Nat):Int) t1 t2 x ⟨#[x.cps.getD i 0]⟩ s2.heap.objs.size s2.toks (CA x l i) tk (st.toks+0) k')
      (Ab (AC S2.new (by decide) (by rw [e0]; rfl)) Aa) I0 fun s3 I3 H3=>ιp (hS s3 i _ ?_ ((a1.trans (a2.mono Aa)).trans (I3.aft.mono fun y hy=>by rw [ιS hy]; exact m0)))
     rw [Bg,if_pos (by unfold BN; rw [hb,hp]; rfl)]
    | false=>
     have e0:CA x l i%2=1:=(Nat.mod_two_eq_zero_or_one _).resolve_left (by simpa using hp)
     refine AR (g:=Ac pr2 w _ _ _) (Ao (t:=s2.toks) (ro:=0) W S2 hroom (by decide)) rfl (cl4_v _ _ _ _ _ L it k l (i:Nat) ((m+1:Nat):Int) t1 t2 x ⟨#[x.cps.getD i 0]⟩ s2.heap.objs.size s2.toks (CA x l i) tk (st.toks+0) k')
      (Ab (AC S2.new (by decide) (by rw [e0]; rfl)) Aa) I0 fun s3 I3 H3=>ιp ⟨rfl,again s3 k' _ (by unfold BN; rw [hb,hp]; rfl) ((a1.trans (a2.mono Aa)).trans (I3.aft.mono fun y hy=>by rw [ιS hy]; exact m0)) (H3 _ m0) (I3.aft.keep _ _ h2' fun q=>ne (ιS q).symm)⟩
   rcases hL with hL | ⟨v,hL⟩
   ·refine uC W S hroom (cl2a_v _ _ _ _ _ L it k l (i:Nat) ((m+1:Nat):Int) t1 t2 x ⟨#[x.cps.getD i 0]⟩) rfl (ob _ _) (ζ2 hL hI) (nd2 ne) (ζ2 apL apI) fun s1 I1 H1=>?_
    exact rest .none s1 (k2 k (st.toks+1)) I1.aft (H1 _ m0) (H1 _ m1)
   ·refine uC W S hroom (cl2b_v _ _ _ _ _ L it k l (i:Nat) ((m+1:Nat):Int) t1 t2 x ⟨#[x.cps.getD i 0]⟩ v) rfl (ob _ _) (ζ2 hL hI) (nd2 ne) (ζ2 apL apI) fun s1 I1 H1=>?_
    rw [←cl2_kk]
    exact rest v s1 k I1.aft (H1 _ m0) (H1 _ m1)
theorem J1(W:Ae w){A:Around}{st:Shared}(hA:Ar A 180)(S:Ak w ext st){x:Str}{l t1 t2:Nat}(hl:l≤x.length)(hx:x.length<1000)
  (hR:∀ s' tk,Aft [] st s'→R (.ok (.ret (.int ((AM x l:Nat):Int) tk))) s'):codeAny (model pr2 w) A (.call (.ref 504) ⟨[.str x t1,.int (l:Nat) t2],[]⟩) R st:=by
 have I0:=Inv.MH S (reads:=[]) (pre:=[]) Aa ιN Aa (by simp) Aa
 refine Bv S (BA w ext 504 (by rfl)) (by have:=hA.depth; exact ω03 this) ?_
 refine CJ (g:=Av pr2 w A R) (BC W S hA (by decide)) rfl (clE_v _ _ _ _ _ l ((x.length-l:Nat):Int) t1 t2 x) (clE_h w (Ax w) ext st.heap.objs.size st.toks l ((x.length-l:Nat):Int) t1 t2 x)
  (ζ2 (Hf S.new (ω43) (ω7u hl) (ω7v hx) (ω7w hl)) (E1 S.new (ω47 hx))) I0 fun A1 s1 hd1 hu1 hh1 hf1 I1 H1=>?_
 have hA1:Ar A1 150:=HR hA (clE_d ..) (clE_l ..) hd1 hu1 (hh1.trans hA.handled) (by decide)
 have St1:Ak w ext s1:=S.aft I1.aft (fun a ha=>nomatch ha)
 have apL:lkX w ext st.heap.objs.size=none:=S.new _ (ιR _)
 have apI:lkX w ext (st.heap.objs.size+2)=none:=S.new _ (ιA ..)
 let k:Nat→Nat:=fun i=>match i with | 0=>st.toks | 1=>st.toks+1 | _=>0
 have fin:∀ {s2 s3:Shared},Aft [st.heap.objs.size,st.heap.objs.size+2] s1 s2→Aft [st.heap.objs.size] s2 s3→Aft [] st s3:=fun a b=>((I1.aft.mono Aa).trans (a.trans (b.mono fun y hy=>by rw [ιS hy]; exact m0))).drop fun y hy=>by
  rcases ιC hy with q | q
  ·exact .inr (by rw [q]; exact ιR _)
  ·exact .inr (by rw [ιS q]; exact ιA ..)
 refine cl_loop W (x:=x) (L:=st.heap.objs.size) (it:=st.heap.objs.size+2) hx (ω4g) apL apI hA1 (x.length-l) l k s1 (ω0 hl) St1 (.inl (H1 _ m0)) (H1 _ m1) (fun s2 a tk hf a2=>?_) fun s2 k' hf a2 hF=>?_
 ·have St2:Ak w ext s2:=St1.aft a2 (ζ2 apL apI)
  refine Aw (g:=Av pr2 w A R) (BC W St2 hA (by decide)) rfl (clQ_v _ _ _ _ _ l ((x.length-l:Nat):Int) t1 t2 x (.int (a:Nat) tk) s2.heap.objs.size s2.toks) (vs:=[]) Aa
   (Inv.MH St2 (reads:=[]) (pre:=[]) Aa ιN Aa (by simp) Aa) fun s3 I3 H3=>?_
  have:=hR s3 tk (fin a2 (I3.aft.mono Aa))
  rw [show AM x l=a by unfold AM; rw [hf]; rfl] at this
  exact this
 ·have St2:Ak w ext s2:=St1.aft a2 (ζ2 apL apI)
  have ec:AM x l=x.length:=by unfold AM; rw [hf]; rfl
  rcases hF with hF | ⟨v,hF⟩
  ·refine Aw (g:=Av pr2 w A R) (BC W St2 hA (by decide)) rfl (clRa_v _ _ _ _ _ l ((x.length-l:Nat):Int) t1 t2 x s2.heap.objs.size s2.toks k') (Ab (E1 St2.new (ω47 hx)) Aa)
    (Inv.MH St2 (reads:=[]) (pre:=[(st.heap.objs.size,clA w k' x l t1 t2)]) Aa ιN (Ab hF Aa) (by simp) (Ab apL Aa)) fun s3 I3 H3=>?_
   have:=hR s3 (s2.toks+1) (fin a2 I3.aft)
   rw [ec] at this
   exact this
  ·refine Aw (g:=Av pr2 w A R) (BC W St2 hA (by decide)) rfl (clRb_v _ _ _ _ _ l ((x.length-l:Nat):Int) t1 t2 x v s2.heap.objs.size s2.toks k') (Ab (E1 St2.new (ω47 hx)) Aa)
    (Inv.MH St2 (reads:=[]) (pre:=[(st.heap.objs.size,clB w k' x l t1 t2 v)]) Aa ιN (Ab hF Aa) (by simp) (Ab apL Aa)) fun s3 I3 H3=>?_
   have:=hR s3 (s2.toks+1) (fin a2 I3.aft)
   rw [ec] at this
   exact this
end
noncomputable def AW(x:Str)(a b:Nat):Str:=⟨((x.cps.toList.drop a).take (b-a)).toArray⟩
theorem picked_map(l:List Nat)(a:Nat):∀ m,((List.range m).map fun k=>a+k).filterMap (l[·]?)=(l.drop a).take m:=by
 intro m
 induction m with
 | zero=>rfl
 | succ m ih=>
  rw [List.range_succ,List.map_append,List.filterMap_append,ih]
  by_cases h:a+m<l.length
  ·rw [List.take_add_one]
   simp [h]
  ·rw [List.take_of_length_le (by rw [List.length_drop]; exact ω7x h),List.take_of_length_le (by rw [List.length_drop]; exact ω7y h)]
   simp; exact ω7z h
theorem slice_sub{a b N:Nat}(ha:a≤N):Builtin.Str.strSliceIndices (some (a:Int)) (some (b:Int)) 1 N=(List.range (min b N-a)).map fun k=>a+k:=by
 unfold Builtin.Str.strSliceIndices sliceRange
 simp only [show(1:Int)>0 by decide,if_true]
 rw [if_neg (show ¬ ((a:Int)<0) from ω42),if_neg (show ¬ ((b:Int)<0) from ω42)]
 have e1:max 0 (min (a:Int) (N:Int))=(a:Nat):=ω80 ha
 have e2:max 0 (min (b:Int) (N:Int))=(min b N:Nat):=ω81
 rw [e1,e2]
 have e3:(if ((a:Nat):Int)<((min b N:Nat):Int) then(((min b N:Nat):Int)-((a:Nat):Int)+1-1)/1 else 0).toNat=min b N-a:=by
  split <;> (try rw [Int.ediv_one]) <;> omega
 rw [e3]
 refine List.map_congr_left fun k _=>?_
 exact ω83
theorem sub_all{x:Str}{a b:Nat}(ha:a≤x.length)(h:min b x.length-a=x.length):AW x a b=x:=by
 unfold AW
 have hl:x.cps.toList.length=x.length:=Array.length_toList
 have:(x.cps.toList.drop a).take (b-a)=x.cps.toList:=by
  rcases Nat.eq_zero_or_pos x.length with e | e
  ·have:x.cps.toList=[]:=List.eq_nil_of_length_eq_zero (by rw [hl]; exact e)
   rw [this]; simp
  ·have e1:a=0:=ω84 h e
   subst e1
   rw [List.drop_zero,List.take_of_length_le (ω85 hl h)]
 rw [this]
noncomputable abbrev CK(i:Nat)(sl:Addr)(x:Str)(t:Nat)(a b:Nat)(u v:Nat)(y:Str)(whole:Bool):Sp:=⟨.builtin "str.__getitem__" ⟨[.str x t,.ref sl],[]⟩,{r:=fun _ k=>.ok (.ret (.str y (cond whole t k))),reads:=[i],dk:=cond whole 0 1},[],[some (sl,JH (.int (a:Nat) u) (.int (b:Nat) v) .none)]⟩
section
variable{P:Par}{g:Bq}{U D:Nat}
theorem Ea{i:Nat}{sl:Addr}{x y:Str}{t a b u v:Nat}{whole:Bool}(hP:∀ b,P.n≤b→P.look b=none)(ha:a≤x.length)(hz:x.length≤1000)(hw:decide (min b x.length-a=x.length)=whole)(hy:AW x a b=y):AK P g U D (CK i sl x t a b u v y whole):=by
 refine Bu (us:=[]) (ps:=[(sl,JH (.int (a:Nat) u) (.int (b:Nat) v) .none)]) rfl hP fun A s R _ _ _ _ _ h5 hR=>?_
 refine AA F.entry_str_getitem (by decide +kernel) (meets_str_getitem_slice x t sl (some ((a:Int),u)) (some ((b:Int),v)) none rfl) ⟨⟨_,h5 _ μ0,rfl,rfl⟩,?_⟩
 have hsz:=sZ
 unfold sliceMade slicePicked
 simp only [Option.map_some,Option.map_none,Option.getD_none]
 rw [slice_sub ha]
 have ec:((1:Int) == 1&&((List.range (min b x.length-a)).map fun k=>a+k).length == x.length)=whole:=by
  rw [←hw,List.length_map,List.length_range]
  by_cases q:min b x.length-a=x.length <;> simp [q]
 rw [ec]
 cases whole with
 | true=>
  rw [if_pos rfl]
  rw [sub_all ha (of_decide_eq_true hw)] at hy
  subst hy
  exact hR _ ⟨rfl,rfl,rfl,(fun b o e _=>e),(fun p hp=>nomatch hp),(fun p hp=>nomatch hp)⟩
 | false=>
  rw [if_neg (by decide)]
  have ep:(((List.range (min b x.length-a)).map fun k=>a+k).filterMap (x.cps[·]?)).toArray=y.cps:=by
   rw [←hy]
   have:=picked_map x.cps.toList a (min b x.length-a)
   simp only [Array.getElem?_toList] at this
   rw [this]
   unfold AW
   have hl:x.cps.toList.length=x.length:=Array.length_toList
   congr 1
   by_cases q:b≤x.length
   ·rw [Nat.min_eq_left q]
   ·rw [Nat.min_eq_right (ω86 q),List.take_of_length_le (by rw [List.length_drop,hl]; exact ιR _),List.take_of_length_le (by rw [List.length_drop,hl]; exact ω87 q)]
  rw [ep]
  refine⟨?_,hR _ ⟨rfl,rfl,rfl,(fun b o e _=>e),(fun p hp=>nomatch hp),(fun p hp=>nomatch hp)⟩⟩
  rw [←hy]
  show((x.cps.toList.drop a).take (b-a)).toArray.size≤sizeLine
  have hl:x.cps.toList.length=x.length:=Array.length_toList
  rw [List.size_toArray,List.length_take,List.length_drop,hl]
  exact ω88 hz hsz
end
section
variable(w:World)(f:Fl)(ext:Addr→Option Obj)(n t L it:Nat)(k:Nat→Nat)(l cl xn:Nat)(left:Int)(t1 t2 t3:Nat)(tx sg sb:Str)(va:Value)
def wrE:Res:=
 run (P2 w f ext n t 0) 59 (ιx 28 0x1322022202022000011000111111) ([Dy 1 (n+1) (l:Nat) (cl:Nat) left t2 t3 (t+3)].map Sp.x) [] 0 0 .tree
  (ent w ext 511 [.str tx t1,.int (l:Nat) t2,.int (cl:Nat) t3]) [] [] []
theorem wrE_v:RvN (wrE w f ext n t l cl left t1 t2 t3 tx) [0,2] (.call (.forLoop (wrF w).x (.ref (n+2)) (wrF w).body [] (Af w 511 n))) 0 3 4 [some (n,oFr [de w "text" t (.str tx t1),de w "least" (t+1) (.int (l:Nat) t2),de w "close" (t+2) (.int (cl:Nat) t3)] 3),some (n+2,oRi (l:Nat) left)] [Dy 1 (n+1) (l:Nat) (cl:Nat) left t2 t3 (t+3)]:=by rcases f with⟨_ | _,_,_⟩ <;> kernel_rfl
def wr0a:Res:=
 run (P4 w f ext n t 0) 17 [2,0,2,2,4] ([Cf 1 it (xn:Nat) left].map Sp.x) [(L,oFr [de w "text" (k 0) (.str tx t1),de w "least" (k 1) (.int (l:Nat) t2),de w "close" (k 2) (.int (cl:Nat) t3)] 3),(it,oRi (xn:Nat) left)] 0 0 .tree
  (Dj (wrF w).x (.ref it) (wrF w).body [] (Af w 511 L)) [] [] []
theorem wr0a_v:RvD (wr0a w f ext n t L it k l cl xn left t1 t2 t3 tx) [0,1] (.again (.block [] (Af w 511 L))) 1 2 0 [some (L,oFr [de w "text" (k 0) (.str tx t1),de w "least" (k 1) (.int (l:Nat) t2),de w "close" (k 2) (.int (cl:Nat) t3)] 3),some (it,oRi (xn:Nat) left)] [Cf 1 it (xn:Nat) left]:=by kernel_rfl
noncomputable abbrev IQ:List Sp:=[Am "str.__eq__" ⟨[.str sg (t+2),.str (Str.ofString "\\") (t+3)],[]⟩ (.bool false),spStr "str.__getitem__" ⟨[.str tx t1,.int (↑xn) (t+0)],[]⟩ sg,Bt 1 it (xn:Nat) left]
def wr1a:Res:=
 run (P4 w f ext n t 0) 36 (ιx 12 0x202011112202) ((IQ t it xn left t1 tx sg).reverse.map Sp.x) [(L,oFr [de w "text" (k 0) (.str tx t1),de w "least" (k 1) (.int (l:Nat) t2),de w "close" (k 2) (.int (cl:Nat) t3)] 3),(it,oRi (xn:Nat) left)] 0 0 .tree
  (Dj (wrF w).x (.ref it) (wrF w).body [] (Af w 511 L)) [] [] []
theorem wr1a_v:RvD (wr1a w f ext n t L it k l cl xn left t1 t2 t3 tx sg) [0,1] (.again (.forLoop (wrF w).x (.ref it) (wrF w).body [] (Af w 511 L))) 1 0 4 [some (L,oFr [de w "text" (k 0) (.str tx t1),de w "least" (k 1) (.int (l:Nat) t2),de w "close" (k 2) (.int (cl:Nat) t3),de w "at" (t+1) (.int (xn:Nat) (t+0))] 4),some (it,oRi ((xn:Nat)+1) (left-1))] (IQ t it xn left t1 tx sg):=by rcases f with⟨_ | _,_,_⟩ <;> kernel_rfl
noncomputable abbrev IO:List Sp:=[Am "str.__contains__" ⟨[.str (ιc) 819,.str sb (bif false then t1 else t+8)],[]⟩ (.bool true),CK 2 n tx t1 (xn+1) (xn+2) (t+5) (t+7) sb false,sAd (.int (↑xn) (t+0)) (.int 2 (t+6)) ((xn+2:Nat):Int),sAd (.int (↑xn) (t+0)) (.int 1 (t+4)) ((xn+1:Nat):Int),Am "str.__eq__" ⟨[.str sg (t+2),.str (Str.ofString "\\") (t+3)],[]⟩ (.bool true),spStr "str.__getitem__" ⟨[.str tx t1,.int (↑xn) (t+0)],[]⟩ sg,Bt 1 it (xn:Nat) left]
def wr2a:Res:=
 run (P4 w f ext n t 0) 59 (ιx 24 0x200202012011202011112202) ((IO n t it xn left t1 tx sg sb).reverse.map Sp.x) [(L,oFr [de w "text" (k 0) (.str tx t1),de w "least" (k 1) (.int (l:Nat) t2),de w "close" (k 2) (.int (cl:Nat) t3)] 3),(it,oRi (xn:Nat) left)] 0 0 .tree
  (Dj (wrF w).x (.ref it) (wrF w).body [] (Af w 511 L)) [] [] []
theorem wr2a_v:RvD (wr2a w f ext n t L it k l cl xn left t1 t2 t3 tx sg sb) [0,1] (.again (.forLoop (wrF w).x (.ref it) (wrF w).body [] (Af w 511 L))) 1 1 9 [some (L,oFr [de w "text" (k 0) (.str tx t1),de w "least" (k 1) (.int (l:Nat) t2),de w "close" (k 2) (.int (cl:Nat) t3),de w "at" (t+1) (.int (xn:Nat) (t+0))] 4),some (it,oRi ((xn:Nat)+1) (left-1))] (IO n t it xn left t1 tx sg sb):=by rcases f with⟨_ | _,_,_⟩ <;> kernel_rfl
noncomputable abbrev IL:List Sp:=[Am "str.__contains__" ⟨[.str (ιc) 819,.str sb (bif false then t1 else t+8)],[]⟩ (.bool false),CK 2 n tx t1 (xn+1) (xn+2) (t+5) (t+7) sb false,sAd (.int (↑xn) (t+0)) (.int 2 (t+6)) ((xn+2:Nat):Int),sAd (.int (↑xn) (t+0)) (.int 1 (t+4)) ((xn+1:Nat):Int),Am "str.__eq__" ⟨[.str sg (t+2),.str (Str.ofString "\\") (t+3)],[]⟩ (.bool true),spStr "str.__getitem__" ⟨[.str tx t1,.int (↑xn) (t+0)],[]⟩ sg,Bt 1 it (xn:Nat) left]
def IM:Res:=
 run (P4 w f ext n t 0) 69 (ιx 30 0x101110200202012011202011112202) ((IL n t it xn left t1 tx sg sb).reverse.map Sp.x) [(L,oFr [de w "text" (k 0) (.str tx t1),de w "least" (k 1) (.int (l:Nat) t2),de w "close" (k 2) (.int (cl:Nat) t3)] 3),(it,oRi (xn:Nat) left)] 0 0 .tree
  (Dj (wrF w).x (.ref it) (wrF w).body [] (Af w 511 L)) [] [] []
theorem wr3a_v:RvC (IM w f ext n t L it k l cl xn left t1 t2 t3 tx sg sb) [0,1] (.call (.call (.ref 497) ⟨[.str tx t1,.int (l:Nat) t2,.int (xn:Nat) (t+0)],[]⟩)) 1 1 9 [some (L,oFr [de w "text" (k 0) (.str tx t1),de w "least" (k 1) (.int (l:Nat) t2),de w "close" (k 2) (.int (cl:Nat) t3),de w "at" (t+1) (.int (xn:Nat) (t+0))] 4),some (it,oRi ((xn:Nat)+1) (left-1))] (IL n t it xn left t1 tx sg sb):=by rcases f with⟨_ | _,_,_⟩ <;> kernel_rfl
def wr0b:Res:=
 run (P4 w f ext n t 0) 17 [2,0,2,2,4] ([Cf 1 it (xn:Nat) left].map Sp.x) [(L,oFr [de w "text" (k 0) (.str tx t1),de w "least" (k 1) (.int (l:Nat) t2),de w "close" (k 2) (.int (cl:Nat) t3),de w "at" (k 3) va] 4),(it,oRi (xn:Nat) left)] 0 0 .tree
  (Dj (wrF w).x (.ref it) (wrF w).body [] (Af w 511 L)) [] [] []
theorem wr0b_v:RvD (wr0b w f ext n t L it k l cl xn left t1 t2 t3 tx va) [0,1] (.again (.block [] (Af w 511 L))) 1 2 0 [some (L,oFr [de w "text" (k 0) (.str tx t1),de w "least" (k 1) (.int (l:Nat) t2),de w "close" (k 2) (.int (cl:Nat) t3),de w "at" (k 3) va] 4),some (it,oRi (xn:Nat) left)] [Cf 1 it (xn:Nat) left]:=by kernel_rfl
noncomputable abbrev IP:List Sp:=[Am "str.__eq__" ⟨[.str sg (t+2),.str (Str.ofString "\\") (t+3)],[]⟩ (.bool false),spStr "str.__getitem__" ⟨[.str tx t1,.int (↑xn) (t+0)],[]⟩ sg,Bt 1 it (xn:Nat) left]
def wr1b:Res:=
 run (P4 w f ext n t 0) 36 (ιx 12 0x202011112202) ((IP t it xn left t1 tx sg).reverse.map Sp.x) [(L,oFr [de w "text" (k 0) (.str tx t1),de w "least" (k 1) (.int (l:Nat) t2),de w "close" (k 2) (.int (cl:Nat) t3),de w "at" (k 3) va] 4),(it,oRi (xn:Nat) left)] 0 0 .tree
  (Dj (wrF w).x (.ref it) (wrF w).body [] (Af w 511 L)) [] [] []
theorem wr1b_v:RvD (wr1b w f ext n t L it k l cl xn left t1 t2 t3 tx sg va) [0,1] (.again (.forLoop (wrF w).x (.ref it) (wrF w).body [] (Af w 511 L))) 1 0 4 [some (L,oFr [de w "text" (k 0) (.str tx t1),de w "least" (k 1) (.int (l:Nat) t2),de w "close" (k 2) (.int (cl:Nat) t3),de w "at" (k 3) (.int (xn:Nat) (t+0))] 4),some (it,oRi ((xn:Nat)+1) (left-1))] (IP t it xn left t1 tx sg):=by rcases f with⟨_ | _,_,_⟩ <;> kernel_rfl
noncomputable abbrev IN:List Sp:=[Am "str.__contains__" ⟨[.str (ιc) 819,.str sb (bif false then t1 else t+8)],[]⟩ (.bool true),CK 2 n tx t1 (xn+1) (xn+2) (t+5) (t+7) sb false,sAd (.int (↑xn) (t+0)) (.int 2 (t+6)) ((xn+2:Nat):Int),sAd (.int (↑xn) (t+0)) (.int 1 (t+4)) ((xn+1:Nat):Int),Am "str.__eq__" ⟨[.str sg (t+2),.str (Str.ofString "\\") (t+3)],[]⟩ (.bool true),spStr "str.__getitem__" ⟨[.str tx t1,.int (↑xn) (t+0)],[]⟩ sg,Bt 1 it (xn:Nat) left]
def wr2b:Res:=
 run (P4 w f ext n t 0) 59 (ιx 24 0x200202012011202011112202) ((IN n t it xn left t1 tx sg sb).reverse.map Sp.x) [(L,oFr [de w "text" (k 0) (.str tx t1),de w "least" (k 1) (.int (l:Nat) t2),de w "close" (k 2) (.int (cl:Nat) t3),de w "at" (k 3) va] 4),(it,oRi (xn:Nat) left)] 0 0 .tree
  (Dj (wrF w).x (.ref it) (wrF w).body [] (Af w 511 L)) [] [] []
theorem wr2b_v:RvD (wr2b w f ext n t L it k l cl xn left t1 t2 t3 tx sg sb va) [0,1] (.again (.forLoop (wrF w).x (.ref it) (wrF w).body [] (Af w 511 L))) 1 1 9 [some (L,oFr [de w "text" (k 0) (.str tx t1),de w "least" (k 1) (.int (l:Nat) t2),de w "close" (k 2) (.int (cl:Nat) t3),de w "at" (k 3) (.int (xn:Nat) (t+0))] 4),some (it,oRi ((xn:Nat)+1) (left-1))] (IN n t it xn left t1 tx sg sb):=by rcases f with⟨_ | _,_,_⟩ <;> kernel_rfl
noncomputable abbrev IK:List Sp:=[Am "str.__contains__" ⟨[.str (ιc) 819,.str sb (bif false then t1 else t+8)],[]⟩ (.bool false),CK 2 n tx t1 (xn+1) (xn+2) (t+5) (t+7) sb false,sAd (.int (↑xn) (t+0)) (.int 2 (t+6)) ((xn+2:Nat):Int),sAd (.int (↑xn) (t+0)) (.int 1 (t+4)) ((xn+1:Nat):Int),Am "str.__eq__" ⟨[.str sg (t+2),.str (Str.ofString "\\") (t+3)],[]⟩ (.bool true),spStr "str.__getitem__" ⟨[.str tx t1,.int (↑xn) (t+0)],[]⟩ sg,Bt 1 it (xn:Nat) left]
def Lf:Res:=
 run (P4 w f ext n t 0) 69 (ιx 30 0x101110200202012011202011112202) ((IK n t it xn left t1 tx sg sb).reverse.map Sp.x) [(L,oFr [de w "text" (k 0) (.str tx t1),de w "least" (k 1) (.int (l:Nat) t2),de w "close" (k 2) (.int (cl:Nat) t3),de w "at" (k 3) va] 4),(it,oRi (xn:Nat) left)] 0 0 .tree
  (Dj (wrF w).x (.ref it) (wrF w).body [] (Af w 511 L)) [] [] []
theorem wr3b_v:RvC (Lf w f ext n t L it k l cl xn left t1 t2 t3 tx sg sb va) [0,1] (.call (.call (.ref 497) ⟨[.str tx t1,.int (l:Nat) t2,.int (xn:Nat) (t+0)],[]⟩)) 1 1 9 [some (L,oFr [de w "text" (k 0) (.str tx t1),de w "least" (k 1) (.int (l:Nat) t2),de w "close" (k 2) (.int (cl:Nat) t3),de w "at" (k 3) (.int (xn:Nat) (t+0))] 4),some (it,oRi ((xn:Nat)+1) (left-1))] (IK n t it xn left t1 tx sg sb):=by rcases f with⟨_ | _,_,_⟩ <;> kernel_rfl
theorem wrE_h:AE none (wrE w f ext n t l cl left t1 t2 t3 tx).ko=none:=by rcases f with⟨_ | _,_,_⟩ <;> kernel_rfl
theorem wrE_d:Nat.ble (AX (wrE w f ext n t l cl left t1 t2 t3 tx).ko) 20=true:=by rcases f with⟨_ | _,_,_⟩ <;> kernel_rfl
theorem wrE_l:Nat.ble (Cn (wrE w f ext n t l cl left t1 t2 t3 tx).ko) 20=true:=by rcases f with⟨_ | _,_,_⟩ <;> kernel_rfl
theorem wr3_kk:(IM w f ext n t L it k l cl xn left t1 t2 t3 tx sg sb).kk=(Lf w f ext n t L it k l cl xn left t1 t2 t3 tx sg sb va).kk:=by rcases f with⟨_ | _,_,_⟩ <;> kernel_rfl
end
section
variable(w:World)(f:Fl)(ext:Addr→Option Obj)(n t L it:Nat)(k:Nat→Nat)(l cl xn:Nat)(left:Int)(t1 t2 t3:Nat)(tx sg sb:Str)(va:Value)(n2 u2 rr t5 t6:Nat)(kz:Nat→Nat)
noncomputable abbrev JN:List Sp:=[sAd (.int (↑xn) t6) (.int 1 (u2+3)) ((xn+1:Nat):Int),sMd (.int (↑rr) t5) (.int 2 (u2+0)) 0]
def wr4:Res:=
 run (P4 w f ext n2 u2 0) 31 [0,2,0,0,1,0,2] ((JN xn u2 rr t5 t6).reverse.map Sp.x) [(L,oFr [de w "text" (kz 0) (.str tx t1),de w "least" (kz 1) (.int (l:Nat) t2),de w "close" (kz 2) (.int (cl:Nat) t3),de w "at" (kz 3) (.int (xn:Nat) t6)] 4)] 0 0 .tree
  ((IM w f ext n t L it k l cl xn left t1 t2 t3 tx sg sb).kk (.ok (.ret (.int (rr:Nat) t5)))) [] [] []
theorem wr4_v:RvD (wr4 w f ext n t L it k l cl xn left t1 t2 t3 tx sg sb n2 u2 rr t5 t6 kz) [0,1] (.done (.ok (.ret (.ref n2)))) 1 1 5 [some (L,oFr [de w "text" (kz 0) (.str tx t1),de w "least" (kz 1) (.int (l:Nat) t2),de w "close" (kz 2) (.int (cl:Nat) t3),de w "at" (kz 3) (.int (xn:Nat) t6)] 4),some (n2,lst [.int ((xn+1:Nat):Int) (u2+4)] 0)] (JN xn u2 rr t5 t6):=by rcases f with⟨_ | _,_,_⟩ <;> kernel_rfl
def wr5:Res:=
 run (P4 w f ext n2 u2 0) 22 [0,2,0,0] ([sMd (.int (↑rr) t5) (.int 2 (u2+0)) 1].map Sp.x) [(L,oFr [de w "text" (kz 0) (.str tx t1),de w "least" (kz 1) (.int (l:Nat) t2),de w "close" (kz 2) (.int (cl:Nat) t3),de w "at" (kz 3) (.int (xn:Nat) t6)] 4)] 0 0 .tree
  ((IM w f ext n t L it k l cl xn left t1 t2 t3 tx sg sb).kk (.ok (.ret (.int (rr:Nat) t5)))) [] [] []
theorem wr5_v:RvD (wr5 w f ext n t L it k l cl xn left t1 t2 t3 tx sg sb n2 u2 rr t5 t6 kz) [0] (.again (.forLoop (wrF w).x (.ref it) (wrF w).body [] (Af w 511 L))) 1 0 3 [some (L,oFr [de w "text" (kz 0) (.str tx t1),de w "least" (kz 1) (.int (l:Nat) t2),de w "close" (kz 2) (.int (cl:Nat) t3),de w "at" (kz 3) (.int (xn:Nat) t6)] 4)] [sMd (.int (↑rr) t5) (.int 2 (u2+0)) 1]:=by rcases f with⟨_ | _,_,_⟩ <;> kernel_rfl
def wrR:Res:=
 run (P2 w f ext n2 u2 0) 14 [] [] [] 0 0 ((wrE w f ext n t l cl left t1 t2 t3 tx).ko)
  ((wrE w f ext n t l cl left t1 t2 t3 tx).kk (.ok .next)) [] [] []
theorem wrR_v:RvD (wrR w f ext n t l cl left t1 t2 t3 tx n2 u2) [0] (.done (.ok (.ret (.ref n2)))) 0 1 0 [some (n2,lst [] 0)] []:=by rcases f with⟨_ | _,_,_⟩ <;> kernel_rfl
def wrQ:Res:=
 run (P2 w f ext n2 u2 0) 11 [] [] [] 0 0 ((wrE w f ext n t l cl left t1 t2 t3 tx).ko)
  ((wrE w f ext n t l cl left t1 t2 t3 tx).kk (.ok (.ret va))) [] [] []
theorem wrQ_v:RvD (wrQ w f ext n t l cl left t1 t2 t3 tx va n2 u2) [] (.done (.ok (.ret va))) 0 0 0 [] []:=by rcases f with⟨_ | _,_,_⟩ <;> kernel_rfl
end
noncomputable def HL(x:Str)(i:Nat):Bool:=E4 H0 (AW x i (i+1))
noncomputable def Bz(x:Str)(l a:Nat):Bool:=x.cps.getD a 0 == 92&&!HL x (a+1)&&CA x l a%2 == 0
noncomputable def BX(x:Str)(l close:Nat):Option Nat:=(Bg (Bz x l) (close-l) l).map (· + 1)
section
variable{w:World}{ext:Addr→Option Obj}
noncomputable abbrev wrA(w:World)(k:Nat→Nat)(x:Str)(l c t1 t2 t3:Nat):Obj:=oFr [de w "text" (k 0) (.str x t1),de w "least" (k 1) (.int (l:Nat) t2),de w "close" (k 2) (.int (c:Nat) t3)] 3
noncomputable abbrev wrB(w:World)(k:Nat→Nat)(x:Str)(l c t1 t2 t3:Nat)(v:Value):Obj:=oFr [de w "text" (k 0) (.str x t1),de w "least" (k 1) (.int (l:Nat) t2),de w "close" (k 2) (.int (c:Nat) t3),de w "at" (k 3) v] 4
noncomputable def k3(k:Nat→Nat)(a:Nat):Nat→Nat
 | 3=>a
 | i=>k i
noncomputable abbrev wrW(w:World)(it L:Nat):Code:=.forLoop (wrF w).x (.ref it) (wrF w).body [] (Af w 511 L)
theorem wr_loop(W:Ae w){L it l c t1 t2 t3:Nat}{x:Str}(hx:x.length<1000)(hcx:c≤x.length)(ne:L≠it)(apL:lkX w ext L=none)(apI:lkX w ext it=none){A:Around}(hA:Ar A 150) :
  ∀ (m i:Nat) (k:Nat→Nat) (st:Shared),i+m=c→Ak w ext st→(st.heap.get? L=some (wrA w k x l c t1 t2 t3)∨∃ v,st.heap.get? L=some (wrB w k x l c t1 t2 t3 v))→st.heap.get? it=some (oRi (i:Nat) (m:Nat))→
   (∀ s' a b tk,Bg (Bz x l) m i=some a→Aft [L,it] st s'→st.heap.objs.size≤b→s'.heap.get? b=some (lst [.int ((a+1:Nat):Int) tk] 0)→R (.ok (.ret (.ref b))) s')→
   (∀ s',Bg (Bz x l) m i=none→Aft [L,it] st s'→R (.ok .next) s')→
   codeAny (model pr2 w) A (wrW w it L) R st:=by
 intro m
 induction m with
 | zero=>
  intro i k st hm S hL hI hS hN
  refine Cp ?_
  obtain⟨hroom,hfr⟩:=BU (target:=(wrF w).x) (it:=.ref it) (body:=(wrF w).body) (orelse:=[]) (env:=Af w 511 L) (hA.le (show 149+1≤150 by decide))
  rcases hL with hL | ⟨v,hL⟩
  ·refine uA W S hroom rfl (wr0a_v _ _ _ _ _ L it k l c i (0:Nat) t1 t2 t3 x) (Ab (ED S.new (by decide)) Aa) (ζ2 hL hI) (nd2 ne) (ζ2 apL apI) fun s1 I1 H1=>?_
   exact ιp ⟨rfl,codeAny_block (wpAny_execs_nil (hN s1 rfl I1.aft))⟩
  ·refine uA W S hroom rfl (wr0b_v _ _ _ _ _ L it k l c i (0:Nat) t1 t2 t3 x v) (Ab (ED S.new (by decide)) Aa) (ζ2 hL hI) (nd2 ne) (ζ2 apL apI) fun s1 I1 H1=>?_
   exact ιp ⟨rfl,codeAny_block (wpAny_execs_nil (hN s1 rfl I1.aft))⟩
 | succ m ih=>
  intro i k st hm S hL hI hS hN
  refine Cp ?_
  obtain⟨hroom,hfr⟩:=BU (target:=(wrF w).x) (it:=.ref it) (body:=(wrF w).body) (orelse:=[]) (env:=Af w 511 L) (hA.le (show 149+1≤150 by decide))
  have en:((m+1:Nat):Int)-1=(m:Nat):=ω4a
  have again:∀ (s1:Shared) (k':Nat→Nat) (v:Value),Bz x l i=false→Aft [L,it] st s1→s1.heap.get? L=some (wrB w k' x l c t1 t2 t3 v)→s1.heap.get? it=some (oRi ((i:Nat)+1) (((m+1:Nat):Int)-1))→codeAny (model pr2 w) A (wrW w it L) R s1:=fun s1 k' v hb a1 h1 h2=>by
   have ef:Bg (Bz x l) (m+1) i=Bg (Bz x l) m (i+1):=by rw [Bg,hb]; rfl
   rw [en] at h2
   exact ih (i+1) k' s1 (ω3h hm) (S.aft a1 (ζ2 apL apI)) (.inr ⟨v,h1⟩) h2 (fun s' a b tk h a2 hb=>hS s' a b tk (ef.trans h) (a1.trans a2) (ιT a1.size hb)) fun s' h a2=>hN s' (ef.trans h) (a1.trans a2)
  have e92:(Str.ofString "\\").cps=#[92]:=by kernel_rfl
  have IA:∀ {o:Obj},st.heap.get? L=some o→Inv (lkX w ext) 0 st [L,it] [(L,o),(it,oRi (i:Nat) ((m+1:Nat):Int))] (st.heap.objs.size+0) (st.toks+0) st:=fun {o} hL=>Inv.MH S (reads:=[]) (pre:=[(L,o),(it,oRi (i:Nat) ((m+1:Nat):Int))]) Aa ιN (ζ2 hL hI) (nd2 ne) (ζ2 apL apI)
  cases hb:x.cps.getD i 0 == 92 with
  | false=>
   have hc:Bz x l i=false:=by unfold Bz; rw [hb]; rfl
   have ob:∀ (Fi:PySem.Fin→Shared→Prop) (E':Value→Shared→Prop),∀ v∈[Am "str.__eq__" ⟨[.str ⟨#[x.cps.getD i 0]⟩ (st.toks+2),.str (Str.ofString "\\") (st.toks+3)],[]⟩ (.bool false),spStr "str.__getitem__" ⟨[.str x t1,.int (i:Nat) (st.toks+0)],[]⟩ ⟨#[x.cps.getD i 0]⟩,Bt 1 it (i:Nat) ((m+1:Nat):Int)],AK (P4 w (Ax w) ext st.heap.objs.size st.toks 0) (Ac pr2 w (A.under (wrW w it L)) Fi E') 30 30 v:=fun Fi E'=>
    Ab (Dh S.new (by rw [←hb,e92]; simp)) (ζ2 (BS S.new (ω89 hcx hm) (ω47 hx)) (DQ S.new (Nat.zero_le 1) (ω49)))
   rcases hL with hL | ⟨v,hL⟩
   ·refine AR (g:=Ac pr2 w _ _ _) (Ao (t:=st.toks) (ro:=0) W S hroom (by decide)) rfl (wr1a_v _ _ _ _ _ L it k l c i ((m+1:Nat):Int) t1 t2 t3 x ⟨#[x.cps.getD i 0]⟩) (ob _ _) (IA hL) fun s1 I1 H1=>?_
    exact ιp ⟨rfl,again s1 (k3 k (st.toks+1)) _ hc I1.aft (H1 _ m0) (H1 _ m1)⟩
   ·refine AR (g:=Ac pr2 w _ _ _) (Ao (t:=st.toks) (ro:=0) W S hroom (by decide)) rfl (wr1b_v _ _ _ _ _ L it k l c i ((m+1:Nat):Int) t1 t2 t3 x ⟨#[x.cps.getD i 0]⟩ v) (ob _ _) (IA hL) fun s1 I1 H1=>?_
    exact ιp ⟨rfl,again s1 k _ hc I1.aft (H1 _ m0) (H1 _ m1)⟩
  | true=>
   have ob:∀ (q:Bool),HL x (i+1)=q→∀ (Fi:PySem.Fin→Shared→Prop) (E':Value→Shared→Prop),∀ v∈[Am "str.__contains__" ⟨[.str H0 819,.str (AW x (i+1) (i+2)) (bif false then t1 else st.toks+8)],[]⟩ (.bool q),CK 2 st.heap.objs.size x t1 (i+1) (i+2) (st.toks+5) (st.toks+7) (AW x (i+1) (i+2)) false,sAd (.int (i:Nat) (st.toks+0)) (.int 2 (st.toks+6)) ((i+2:Nat):Int),sAd (.int (i:Nat) (st.toks+0)) (.int 1 (st.toks+4)) ((i+1:Nat):Int),Am "str.__eq__" ⟨[.str ⟨#[x.cps.getD i 0]⟩ (st.toks+2),.str (Str.ofString "\\") (st.toks+3)],[]⟩ (.bool true),spStr "str.__getitem__" ⟨[.str x t1,.int (i:Nat) (st.toks+0)],[]⟩ ⟨#[x.cps.getD i 0]⟩,Bt 1 it (i:Nat) ((m+1:Nat):Int)],AK (P4 w (Ax w) ext st.heap.objs.size st.toks 0) (Ac pr2 w (A.under (wrW w it L)) Fi E') 30 30 v:=fun q hq Fi E'=>
    Ab (FA S.new hq) (ζ6 (Ea S.new (ω8a hcx hm) (ω8b hx) (by simp; exact ω8c hcx hm) rfl) (Bj (a:=i) (b:=2) S.new (ω8d hx hcx hm) rfl) (Bj (a:=i) (b:=1) S.new (ω8e hx hcx hm) rfl) (Dh S.new (by rw [←hb,e92]; simp)) (BS S.new (ω89 hcx hm) (ω47 hx)) (DQ S.new (Nat.zero_le 1) (ω49)))
   cases hq:HL x (i+1) with
   | true=>
    have hc:Bz x l i=false:=by unfold Bz; rw [hb,hq]; rfl
    rcases hL with hL | ⟨v,hL⟩
    ·refine AR (g:=Ac pr2 w _ _ _) (Ao (t:=st.toks) (ro:=0) W S hroom (by decide)) rfl (wr2a_v _ _ _ _ _ L it k l c i ((m+1:Nat):Int) t1 t2 t3 x ⟨#[x.cps.getD i 0]⟩ (AW x (i+1) (i+2))) (ob _ hq _ _) (IA hL) fun s1 I1 H1=>?_
     exact ιp ⟨rfl,again s1 (k3 k (st.toks+1)) _ hc I1.aft (H1 _ m0) (H1 _ m1)⟩
    ·refine AR (g:=Ac pr2 w _ _ _) (Ao (t:=st.toks) (ro:=0) W S hroom (by decide)) rfl (wr2b_v _ _ _ _ _ L it k l c i ((m+1:Nat):Int) t1 t2 t3 x ⟨#[x.cps.getD i 0]⟩ (AW x (i+1) (i+2)) v) (ob _ hq _ _) (IA hL) fun s1 I1 H1=>?_
     exact ιp ⟨rfl,again s1 k _ hc I1.aft (H1 _ m0) (H1 _ m1)⟩
   | false=>
    have rest:∀ (va:Value) (s1:Shared) (k':Nat→Nat),Aft [L,it] st s1→s1.heap.get? L=some (wrB w k' x l c t1 t2 t3 (.int (i:Nat) (st.toks+0)))→s1.heap.get? it=some (oRi ((i:Nat)+1) (((m+1:Nat):Int)-1))→
      codeAny (model pr2 w) (A.under (wrW w it L)) (.call (.ref 497) ⟨[.str x t1,.int (l:Nat) t2,.int (i:Nat) (st.toks+0)],[]⟩) (fun r s''=>wpAny (model pr2 w) (A.under (wrW w it L)) ((IM w (Ax w) ext st.heap.objs.size st.toks L it k l c i ((m+1:Nat):Int) t1 t2 t3 x ⟨#[x.cps.getD i 0]⟩ (AW x (i+1) (i+2))).kk r) (C9 (model pr2 w) A R) (notedBy (model pr2 w) (A.under (wrW w it L)) (Af w 511 L) fun e s'=>R (.error e) s') s'') s1:=fun va s1 k' a1 h1 h2=>by
     refine Jc W (hroom.le (by decide)) (S.aft a1 (ζ2 apL apI)) (ω8f hcx hm) hx fun s2 tk a2=>?_
     have S2:Ak w ext s2:=(S.aft a1 (ζ2 apL apI)).aft a2 Aa
     have h1':=a2.keep _ _ h1 (nomatch ·)
     have h2':=a2.keep _ _ h2 (nomatch ·)
     have I0:=Inv.MH S2 (reads:=[]) (pre:=[(L,wrB w k' x l c t1 t2 t3 (.int (i:Nat) (st.toks+0)))]) Aa ιN (Ab h1' Aa) (List.nodup_cons.mpr ⟨(nomatch ·),ιN⟩) (Ab apL Aa)
     have a3:∀ {s3:Shared},Aft [L] s2 s3→Aft [L,it] st s3:=fun a=>(a1.trans (a2.mono Aa)).trans (a.mono fun y hy=>by rw [ιS hy]; exact m0)
     cases hp:CA x l i%2 == 0 with
     | true=>
      have e0:CA x l i%2=0:=by simpa using hp
      refine Al (g:=Ac pr2 w _ _ _) (Ao (t:=s2.toks) (ro:=0) W S2 hroom (by decide)) rfl (wr4_v _ _ _ _ _ L it k l c i ((m+1:Nat):Int) t1 t2 t3 x ⟨#[x.cps.getD i 0]⟩ (AW x (i+1) (i+2)) s2.heap.objs.size s2.toks (CA x l i) tk (st.toks+0) k')
       (ζ2 (Bj (a:=i) (b:=1) S2.new (ω8e hx hcx hm) rfl) (AC S2.new (by decide) (by rw [e0]; rfl))) I0 fun s3 I3 H3=>ιp (hS s3 i _ _ ?_ (a3 I3.aft) (ιT a1.size a2.size) (H3 _ m1))
      rw [Bg,if_pos (by unfold Bz; rw [hb,hq,hp]; rfl)]
     | false=>
      have e0:CA x l i%2=1:=(Nat.mod_two_eq_zero_or_one _).resolve_left (by simpa using hp)
      refine AR (g:=Ac pr2 w _ _ _) (Ao (t:=s2.toks) (ro:=0) W S2 hroom (by decide)) rfl (wr5_v _ _ _ _ _ L it k l c i ((m+1:Nat):Int) t1 t2 t3 x ⟨#[x.cps.getD i 0]⟩ (AW x (i+1) (i+2)) s2.heap.objs.size s2.toks (CA x l i) tk (st.toks+0) k')
       (Ab (AC S2.new (by decide) (by rw [e0]; rfl)) Aa) I0 fun s3 I3 H3=>ιp ⟨rfl,again s3 k' _ (by unfold Bz; rw [hb,hq,hp]; rfl) (a3 I3.aft) (H3 _ m0) (I3.aft.keep _ _ h2' fun q=>ne (ιS q).symm)⟩
    rcases hL with hL | ⟨v,hL⟩
    ·refine AG (Ao (t:=st.toks) (ro:=0) W S hroom (by decide)) (wr3a_v _ _ _ _ _ L it k l c i ((m+1:Nat):Int) t1 t2 t3 x ⟨#[x.cps.getD i 0]⟩ (AW x (i+1) (i+2))) rfl (ob _ hq _ _) (IA hL) fun s1 I1 H1=>?_
     exact rest .none s1 (k3 k (st.toks+1)) I1.aft (H1 _ m0) (H1 _ m1)
    ·refine AG (Ao (t:=st.toks) (ro:=0) W S hroom (by decide)) (wr3b_v _ _ _ _ _ L it k l c i ((m+1:Nat):Int) t1 t2 t3 x ⟨#[x.cps.getD i 0]⟩ (AW x (i+1) (i+2)) v) rfl (ob _ hq _ _) (IA hL) fun s1 I1 H1=>?_
     rw [←wr3_kk]
     exact rest v s1 k I1.aft (H1 _ m0) (H1 _ m1)
theorem IJ(W:Ae w){A:Around}{st:Shared}(hA:Ar A 180)(S:Ak w ext st){x:Str}{l c t1 t2 t3:Nat}(hl:l≤c)(hc:c≤x.length)(hx:x.length<1000)
  (hR:∀ s' b tk,Aft [] st s'→st.heap.objs.size≤b→s'.heap.get? b=some (lst ((BX x l c).toList.map fun p=>.int (p:Nat) tk) 0)→R (.ok (.ret (.ref b))) s'):codeAny (model pr2 w) A (.call (.ref 511) ⟨[.str x t1,.int (l:Nat) t2,.int (c:Nat) t3],[]⟩) R st:=by
 have I0:=Inv.MH S (reads:=[]) (pre:=[]) Aa ιN Aa (by simp) Aa
 refine Bv S (BA w ext 511 (by rfl)) (by have:=hA.depth; exact ω03 this) ?_
 refine CJ (g:=Av pr2 w A R) (BC W S hA (by decide)) rfl (wrE_v _ _ _ _ _ l c ((c-l:Nat):Int) t1 t2 t3 x) (wrE_h w (Ax w) ext st.heap.objs.size st.toks l c ((c-l:Nat):Int) t1 t2 t3 x)
  (Ab (Hf S.new (ω43) (ω7u hl) (ω8g hc hx) (ω7w hl)) Aa) I0 fun A1 s1 hd1 hu1 hh1 hf1 I1 H1=>?_
 have hA1:Ar A1 150:=HR hA (wrE_d ..) (wrE_l ..) hd1 hu1 (hh1.trans hA.handled) (by decide)
 have St1:Ak w ext s1:=S.aft I1.aft (fun a ha=>nomatch ha)
 have apL:lkX w ext st.heap.objs.size=none:=S.new _ (ιR _)
 have apI:lkX w ext (st.heap.objs.size+2)=none:=S.new _ (ιA ..)
 let k:Nat→Nat:=fun i=>match i with | 0=>st.toks | 1=>st.toks+1 | 2=>st.toks+2 | _=>0
 have fin:∀ {s2 s3:Shared},Aft [st.heap.objs.size,st.heap.objs.size+2] s1 s2→Aft [] s2 s3→Aft [] st s3:=fun a b=>((I1.aft.mono Aa).trans (a.trans (b.mono fun y hy=>nomatch hy))).drop fun y hy=>by
  rcases ιC hy with q | q
  ·exact .inr (by rw [q]; exact ιR _)
  ·exact .inr (by rw [ιS q]; exact ιA ..)
 refine wr_loop W (x:=x) (L:=st.heap.objs.size) (it:=st.heap.objs.size+2) hx hc (ω4g) apL apI hA1 (c-l) l k s1 (ω0 hl) St1 (.inl (H1 _ m0)) (H1 _ m1) (fun s2 a b tk hf a2 hb hB=>?_) fun s2 hf a2=>?_
 ·have St2:Ak w ext s2:=St1.aft a2 (ζ2 apL apI)
  refine Aw (g:=Av pr2 w A R) (BC W St2 hA (by decide)) rfl (wrQ_v _ _ _ _ _ l c ((c-l:Nat):Int) t1 t2 t3 x (.ref b) s2.heap.objs.size s2.toks) (vs:=[]) Aa
   (Inv.MH St2 (reads:=[]) (pre:=[]) Aa ιN Aa (by simp) Aa) fun s3 I3 H3=>?_
  refine hR s3 b tk (fin a2 I3.aft) (ιT (I1.aft.size) hb) ?_
  rw [show BX x l c=some (a+1) by unfold BX; rw [hf]; rfl]
  exact I3.aft.keep _ _ hB (nomatch ·)
 ·have St2:Ak w ext s2:=St1.aft a2 (ζ2 apL apI)
  refine Aw (g:=Av pr2 w A R) (BC W St2 hA (by decide)) rfl (wrR_v _ _ _ _ _ l c ((c-l:Nat):Int) t1 t2 t3 x s2.heap.objs.size s2.toks) (vs:=[]) Aa
   (Inv.MH St2 (reads:=[]) (pre:=[]) Aa ιN Aa (by simp) Aa) fun s3 I3 H3=>?_
  refine hR s3 _ 0 (fin a2 I3.aft) (ιT I1.aft.size a2.size) ?_
  rw [show BX x l c=none by unfold BX; rw [hf]; rfl]
  exact H3 _ m0
end
open PySem.MeetsSeq PySem.SeqAt PySem.SeqRoads2
noncomputable abbrev Dt(i:Nat)(l:Addr)(xs:List Value)(e:Nat)(x:Value)(b:Bool):Sp:=⟨.builtin "list.__contains__" ⟨[.ref l,x],[]⟩,{r:=Ba (.bool b),reads:=[i]},[],[some (l,lst xs e)]⟩
noncomputable abbrev Fq(i j:Nat)(l b:Addr)(xs ys:List Value):Sp:=⟨.builtin "tuple.__add__" ⟨[.ref l,.ref b],[]⟩,{r:=fun n _=>.ok (.ret (.ref n)),reads:=[i,j],news:=fun _=>[AQ (xs++ys)]},[],[some (l,AQ xs),some (b,AQ ys)]⟩
theorem entry_tadd:entryFor table "tuple.__add__" = some Builtin.«tuple.__add__»:=entryFor_of_fast (by kernel_rfl)
theorem entry_lcnt:entryFor table "list.__contains__" = some Builtin.«list.__contains__»:=entryFor_of_fast (by kernel_rfl)
section
variable{P:Par}{g:Bq}{U D:Nat}
theorem o_lt{a b:Int}{t u:Nat}{v:Bool}(hP:∀ b,P.n≤b→P.look b=none)(h:decide (a<b)=v):AK P g U D (Am "int.__lt__" ⟨[.int a t,.int b u],[]⟩ (.bool v)):=
 E0 hP F.entry_int_lt (by decide +kernel) (by rw [←h]; exact AutoIntG1.int___lt___int_int_0 _ _ _ _)
theorem Kn{a b:Int}{t u:Nat}{v:Bool}(hP:∀ b,P.n≤b→P.look b=none)(h:(a == b)=v):AK P g U D (Am "int.__eq__" ⟨[.int a t,.int b u],[]⟩ (.bool v)):=
 E0 hP F.entry_int_eq (by decide +kernel) (by rw [←h]; exact AutoIntG7.int___eq___int_int_0 _ _ _ _)
theorem GB{i j:Nat}{l b:Addr}{xs ys:List Value}(hP:∀ b,P.n≤b→P.look b=none)(h1:xs≠[])(h2:ys≠[])(hz:xs.length+ys.length≤sizeLine):AK P g U D (Fq i j l b xs ys):=by
 refine Bu (us:=[]) (ps:=[(l,AQ xs),(b,AQ ys)]) rfl hP fun A s R _ _ _ _ _ h5 hR=>?_
 refine AA entry_tadd (by decide +kernel) (AutoSeq1.tuple___add___tuple_tuple_2 l ⟨xs⟩ 0 b ⟨ys⟩ 0 (by simpa using h1) (by simpa using h2) hz) ⟨h5 _ μ0,h5 _ μ1,?_⟩
 obtain⟨k1,k2,k3⟩:=BP (s:=s.heap) (l:=[AQ (xs++ys)]) (fun o ho=>by rw [ιS ho]; rfl)
 have hc:=hR {s with heap:=List.foldl Heap.push s.heap [AQ (xs++ys)]} ⟨rfl,rfl,k1,(fun b o e _=>k2 b o e),(fun p hp=>nomatch hp),k3⟩
 have e1:AQ (xs++ys)={cls:=.type "tuple",data:=.seq (⟨xs⟩++⟨ys⟩)}:=by simp [AQ]
 rw [e1] at hc
 exact hc
theorem DD{i:Nat}{l:Addr}{xs:List Value}{e:Nat}{x:Str}{t:Nat}{b:Bool}(hP:∀ b,P.n≤b→P.look b=none)(f:Value→Bool)(hf:∀ y∈xs,EqGives y (.str x t) (f y))(hb:xs.any f=b):AK P g U D (Dt i l xs e (.str x t) b):=
 BV (dk:=0) (ps:=[(l,lst xs e)]) hP fun A s R _ _ _ h4 hR=>AA entry_lcnt (by decide +kernel) (list_contains l ⟨xs⟩ e (.str x t) f (fun y hy=>hf y (by simpa using hy))) ⟨h4 _ μ0,by
  have:(⟨xs⟩:Array Value).any f=b:=by rw [←hb]; simp
  rw [this]; exact hR⟩
end
noncomputable def rdI(w:World):Expr×List Stmt×List Stmt×Pos:=Fj (rdB w)[1]?
noncomputable def Da(w:World):List Stmt:=(rdI w).2.2.1
noncomputable def DX(w:World):Expr×List Stmt×List Stmt×Pos:=Fj (Da w)[2]?
noncomputable def Fv(w:World):Expr×List Stmt×List Stmt×Pos:=Fj (Da w)[3]?
noncomputable def DI(e:Expr):Expr×Expr×Pos:=match e with
 | .Compare l _ (r::_) p=>(l,r,p)
 | _=>(.Constant .none 0 default,.Constant .none 0 default,default)
theorem rd_ne(w:World):(DX w).1=.Compare (DI (DX w).1).1 [.NotEq] [(DI (DX w).1).2.1] (DI (DX w).1).2.2:=by kernel_rfl
theorem rd_body(w:World):rdB w=(rdB w).take 1++[.If (rdI w).1 (rdI w).2.1 (Da w) (rdI w).2.2.2]:=by kernel_rfl
theorem rd_else(w:World):Da w=(Da w).take 1++(((Da w).drop 1).take 1++(.If (DX w).1 (DX w).2.1 [] (DX w).2.2.2::.If (Fv w).1 (Fv w).2.1 [] (Fv w).2.2.2::(Da w).drop 4)):=by kernel_rfl
section
variable{prog:Program}{w:World}{A:Around}{R:Result→Shared→Prop}{s:Shared}{env:Env}
theorem while_parts {test:Expr} {body:List Stmt} (h:wpAny (model prog w) (A.under (.whileLoop test body [] env)) (isTrue test env (eval test env)) (fun b s₂=>
   if b then wpAny (model prog w) (A.under (.whileLoop test body [] env)) (execs body env) (fun f s₃=>match f with
     | .next | .cont=>codeAny (model prog w) A (.whileLoop test body [] env) R s₃
     | .brk=>R (.ok .next) s₃
     | .ret v=>R (.ok (.ret v)) s₃) (notedBy (model prog w) (A.under (.whileLoop test body [] env)) env fun e s'=>R (.error e) s') s₂
   else R (.ok .next) s₂) (notedBy (model prog w) (A.under (.whileLoop test body [] env)) env fun e s'=>R (.error e) s') s) :
  codeAny (model prog w) A (.whileLoop test body [] env) R s:=by
 refine codeAny_of_tree ?_
 show wpAny _ _ ((whileTurn test body [] env).onRaise (fun x=>do noteFrame x env; theTreesLotGoes x)) _ _ s
 refine wpAny_noted ?_
 simp only [whileTurn]
 refine wpAny_bind (wpAny_mono h (fun b s₂ h₂=>?_) fun _ _ h'=>h')
 cases b with
 | false=>
  simp only [Bool.false_eq_true,if_false] at h₂ ⊢
  exact wpAny_bind (wpAny_execs_nil (ιp h₂))
 | true=>
  simp only [if_true] at h₂ ⊢
  refine wpAny_bind (wpAny_mono h₂ (fun f s₃ h₃=>?_) fun _ _ h'=>h')
  cases f with
  | next=>exact ιp ⟨rfl,h₃⟩
  | cont=>exact ιp ⟨rfl,h₃⟩
  | brk=>exact ιp h₃
  | ret v=>exact ιp h₃
end
noncomputable abbrev rF4(w:World)(k:Nat→Nat)(x:Str)(so du a t1 ta:Nat):Obj:=oFr [de w "text" (k 0) (.str x t1),de w "spots" (k 1) (.ref so),de w "at" (k 2) (.int (a:Nat) ta),de w "due" (k 3) (.ref du)] 4
noncomputable abbrev rF5(w:World)(k:Nat→Nat)(v4:Value)(x:Str)(so du a t1 ta:Nat):Obj:=oFr [de w "text" (k 0) (.str x t1),de w "spots" (k 1) (.ref so),de w "at" (k 2) (.int (a:Nat) ta),de w "due" (k 3) (.ref du),de w "size" (k 4) v4] 5
noncomputable abbrev rF6(w:World)(k:Nat→Nat)(v4 v5:Value)(x:Str)(so du a t1 ta:Nat):Obj:=oFr [de w "text" (k 0) (.str x t1),de w "spots" (k 1) (.ref so),de w "at" (k 2) (.int (a:Nat) ta),de w "due" (k 3) (.ref du),de w "size" (k 4) v4,de w "close" (k 5) v5] 6
noncomputable abbrev rF7(w:World)(k:Nat→Nat)(v4 v5 v6:Value)(x:Str)(so du a t1 ta:Nat):Obj:=oFr [de w "text" (k 0) (.str x t1),de w "spots" (k 1) (.ref so),de w "at" (k 2) (.int (a:Nat) ta),de w "due" (k 3) (.ref du),de w "size" (k 4) v4,de w "close" (k 5) v5,de w "wrong" (k 6) v6] 7
section
variable(w:World)(f:Fl)(ext:Addr→Option Obj)(n t L so sq du wr:Nat)(k:Nat→Nat)(v:Nat→Value)(a cl z p ta tc tz tp t1 se dz:Nat)(tx sg sb:Str)(ss ds:List Value)(rv cv:Value)(b1:Bool)
def qE:Res:=
 run (P2 w f ext n t 0) 87 (ιx 45 0x111116443440404443440404443440404403033301111) [] [] 0 0 .tree
  (ent w ext 518 [.str tx t1,.ref so]) [] [] []
theorem qE_v:RvN (qE w f ext n t so t1 tx) [0,1] (.call (.whileLoop (rdT w) (rdB w) [] (Af w 518 n))) 0 6 5 [some (n,oFr [de w "text" t (.str tx t1),de w "spots" (t+1) (.ref so),de w "at" (t+3) (.int 0 (t+2)),de w "due" (t+4) (.ref (n+1))] 4),some (n+1,lst [] 0)] []:=by rcases f with⟨_ | _,_,_⟩ <;> kernel_rfl
def qT4:Res:=
 run (P4 w f ext n t 0) 26 [1,0,0,1,0,2,0,2] ([Cc tx t1,Am "int.__lt__" ⟨[.int (↑a) ta,.int (↑tx.length) (t+0+1)],[]⟩ (.bool b1)].map Sp.x) [(L,rF4 w k tx so du a t1 ta)] 0 0 .tree
  (Br (rdT w) (Af w 518 L)) [] [] []
theorem qT4_v:RvD (qT4 w f ext n t L so du k a ta t1 tx b1) [0] (.done (.ok (.ret (.bool b1)))) 1 0 2 [some (L,rF4 w k tx so du a t1 ta)] [Am "int.__lt__" ⟨[.int (↑a) ta,.int (↑tx.length) (t+0+1)],[]⟩ (.bool b1),Cc tx t1]:=by rcases f with⟨_ | _,_,_⟩ <;> kernel_rfl
def qT7:Res:=
 run (P4 w f ext n t 0) 26 [1,0,0,1,0,2,0,2] ([Cc tx t1,Am "int.__lt__" ⟨[.int (↑a) ta,.int (↑tx.length) (t+0+1)],[]⟩ (.bool b1)].map Sp.x) [(L,rF7 w k (v 4) (v 5) (v 6) tx so du a t1 ta)] 0 0 .tree
  (Br (rdT w) (Af w 518 L)) [] [] []
theorem qT7_v:RvD (qT7 w f ext n t L so du k v a ta t1 tx b1) [0] (.done (.ok (.ret (.bool b1)))) 1 0 2 [some (L,rF7 w k (v 4) (v 5) (v 6) tx so du a t1 ta)] [Am "int.__lt__" ⟨[.int (↑a) ta,.int (↑tx.length) (t+0+1)],[]⟩ (.bool b1),Cc tx t1]:=by rcases f with⟨_ | _,_,_⟩ <;> kernel_rfl
noncomputable abbrev Ia:List Sp:=[Dt 9 (n+8) [.str ⟨⟨[34]⟩⟩ (t+9),.str ⟨⟨[64]⟩⟩ (t+10)] 0 (.str sg (t+8)) true,Bo 7 8 (n+6) (n+7) [.str ⟨⟨[34]⟩⟩ (t+9),.str ⟨⟨[64]⟩⟩ (t+10),.str ιd (t+11),.str ιe (t+12)] 0 .none (.int 2 (t+13)) [.str ⟨⟨[34]⟩⟩ (t+9),.str ⟨⟨[64]⟩⟩ (t+10)],spStr "str.__getitem__" ⟨[.str tx t1,.int (↑a) ta],[]⟩ sg,Dt 5 (n+4) [.str ιd (t+5),.str ιe (t+6)] 0 (.str sb (t+2)) false,Bo 3 4 (n+2) (n+3) [.str ⟨⟨[34]⟩⟩ (t+3),.str ⟨⟨[64]⟩⟩ (t+4),.str ιd (t+5),.str ιe (t+6)] 0 (.int 2 (t+7)) .none [.str ιd (t+5),.str ιe (t+6)],CK 1 (n) tx t1 a (a+2) ta (t+1) sb false,sAd (.int (↑a) ta) (.int 2 (t+0)) ((a+2:Nat):Int)]
def qS41f:Res:=
 run (P4 w f ext n t 0) 111 (ιx 45 0x112a0aa02808880300201126066024044403002020111) ((Ia n t a ta t1 tx sg sb).reverse.map Sp.x) [(L,rF4 w k tx so du a t1 ta)] 0 0 .tree
  (Az ((rdB w).take 1) (Af w 518 L)) [] [] []
theorem qS41f_v:RvD (qS41f w f ext n t L so du k a ta t1 tx sg sb) [0] (.done (.ok .next)) 1 9 16 [some (L,oFr [de w "text" (k 0) (.str tx t1),de w "spots" (k 1) (.ref so),de w "at" (k 2) (.int (a:Nat) ta),de w "due" (k 3) (.ref du),de w "size" (t+15) (.int 1 (t+14))] 5)] (Ia n t a ta t1 tx sg sb):=by kernel_rfl
noncomputable abbrev HZ:List Sp:=[Dt 9 (n+8) [.str ⟨⟨[34]⟩⟩ (t+8),.str ⟨⟨[64]⟩⟩ (t+9)] 0 (.str sg (t+7)) true,Bo 7 8 (n+6) (n+7) [.str ⟨⟨[34]⟩⟩ (t+8),.str ⟨⟨[64]⟩⟩ (t+9),.str ιd (t+10),.str ιe (t+11)] 0 .none (.int 2 (t+12)) [.str ⟨⟨[34]⟩⟩ (t+8),.str ⟨⟨[64]⟩⟩ (t+9)],spStr "str.__getitem__" ⟨[.str tx t1,.int (↑a) ta],[]⟩ sg,Dt 5 (n+4) [.str ιd (t+4),.str ιe (t+5)] 0 (.str sb t1) false,Bo 3 4 (n+2) (n+3) [.str ⟨⟨[34]⟩⟩ (t+2),.str ⟨⟨[64]⟩⟩ (t+3),.str ιd (t+4),.str ιe (t+5)] 0 (.int 2 (t+6)) .none [.str ιd (t+4),.str ιe (t+5)],CK 1 (n) tx t1 a (a+2) ta (t+1) sb true,sAd (.int (↑a) ta) (.int 2 (t+0)) ((a+2:Nat):Int)]
def qS41w:Res:=
 run (P4 w f ext n t 0) 111 (ιx 45 0x112a0aa02808880300201126066024044403002020111) ((HZ n t a ta t1 tx sg sb).reverse.map Sp.x) [(L,rF4 w k tx so du a t1 ta)] 0 0 .tree
  (Az ((rdB w).take 1) (Af w 518 L)) [] [] []
theorem qS41w_v:RvD (qS41w w f ext n t L so du k a ta t1 tx sg sb) [0] (.done (.ok .next)) 1 9 15 [some (L,oFr [de w "text" (k 0) (.str tx t1),de w "spots" (k 1) (.ref so),de w "at" (k 2) (.int (a:Nat) ta),de w "due" (k 3) (.ref du),de w "size" (t+14) (.int 1 (t+13))] 5)] (HZ n t a ta t1 tx sg sb):=by kernel_rfl
noncomputable abbrev HY:List Sp:=[Dt 5 (n+4) [.str ιd (t+5),.str ιe (t+6)] 0 (.str sb (t+2)) true,Bo 3 4 (n+2) (n+3) [.str ⟨⟨[34]⟩⟩ (t+3),.str ⟨⟨[64]⟩⟩ (t+4),.str ιd (t+5),.str ιe (t+6)] 0 (.int 2 (t+7)) .none [.str ιd (t+5),.str ιe (t+6)],CK 1 (n) tx t1 a (a+2) ta (t+1) sb false,sAd (.int (↑a) ta) (.int 2 (t+0)) ((a+2:Nat):Int)]
def qS42f:Res:=
 run (P4 w f ext n t 0) 69 (ιx 25 0x1126066024044403002020111) ((HY n t a ta t1 tx sb).reverse.map Sp.x) [(L,rF4 w k tx so du a t1 ta)] 0 0 .tree
  (Az ((rdB w).take 1) (Af w 518 L)) [] [] []
theorem qS42f_v:RvD (qS42f w f ext n t L so du k a ta t1 tx sb) [0] (.done (.ok .next)) 1 5 10 [some (L,oFr [de w "text" (k 0) (.str tx t1),de w "spots" (k 1) (.ref so),de w "at" (k 2) (.int (a:Nat) ta),de w "due" (k 3) (.ref du),de w "size" (t+9) (.int 2 (t+8))] 5)] (HY n t a ta t1 tx sb):=by kernel_rfl
noncomputable abbrev HX:List Sp:=[Dt 5 (n+4) [.str ιd (t+4),.str ιe (t+5)] 0 (.str sb t1) true,Bo 3 4 (n+2) (n+3) [.str ⟨⟨[34]⟩⟩ (t+2),.str ⟨⟨[64]⟩⟩ (t+3),.str ιd (t+4),.str ιe (t+5)] 0 (.int 2 (t+6)) .none [.str ιd (t+4),.str ιe (t+5)],CK 1 (n) tx t1 a (a+2) ta (t+1) sb true,sAd (.int (↑a) ta) (.int 2 (t+0)) ((a+2:Nat):Int)]
def qS42w:Res:=
 run (P4 w f ext n t 0) 69 (ιx 25 0x1126066024044403002020111) ((HX n t a ta t1 tx sb).reverse.map Sp.x) [(L,rF4 w k tx so du a t1 ta)] 0 0 .tree
  (Az ((rdB w).take 1) (Af w 518 L)) [] [] []
theorem qS42w_v:RvD (qS42w w f ext n t L so du k a ta t1 tx sb) [0] (.done (.ok .next)) 1 5 9 [some (L,oFr [de w "text" (k 0) (.str tx t1),de w "spots" (k 1) (.ref so),de w "at" (k 2) (.int (a:Nat) ta),de w "due" (k 3) (.ref du),de w "size" (t+8) (.int 2 (t+7))] 5)] (HX n t a ta t1 tx sb):=by kernel_rfl
noncomputable abbrev HW:List Sp:=[Dt 9 (n+8) [.str ⟨⟨[34]⟩⟩ (t+9),.str ⟨⟨[64]⟩⟩ (t+10)] 0 (.str sg (t+8)) false,Bo 7 8 (n+6) (n+7) [.str ⟨⟨[34]⟩⟩ (t+9),.str ⟨⟨[64]⟩⟩ (t+10),.str ιd (t+11),.str ιe (t+12)] 0 .none (.int 2 (t+13)) [.str ⟨⟨[34]⟩⟩ (t+9),.str ⟨⟨[64]⟩⟩ (t+10)],spStr "str.__getitem__" ⟨[.str tx t1,.int (↑a) ta],[]⟩ sg,Dt 5 (n+4) [.str ιd (t+5),.str ιe (t+6)] 0 (.str sb (t+2)) false,Bo 3 4 (n+2) (n+3) [.str ⟨⟨[34]⟩⟩ (t+3),.str ⟨⟨[64]⟩⟩ (t+4),.str ιd (t+5),.str ιe (t+6)] 0 (.int 2 (t+7)) .none [.str ιd (t+5),.str ιe (t+6)],CK 1 (n) tx t1 a (a+2) ta (t+1) sb false,sAd (.int (↑a) ta) (.int 2 (t+0)) ((a+2:Nat):Int)]
def qS70f:Res:=
 run (P4 w f ext n t 0) 111 (ιx 45 0x112a0aa02808880300201126066024044403002020111) ((HW n t a ta t1 tx sg sb).reverse.map Sp.x) [(L,rF7 w k (v 4) (v 5) (v 6) tx so du a t1 ta)] 0 0 .tree
  (Az ((rdB w).take 1) (Af w 518 L)) [] [] []
theorem qS70f_v:RvD (qS70f w f ext n t L so du k v a ta t1 tx sg sb) [0] (.done (.ok .next)) 1 9 16 [some (L,rF7 w k (.int 0 (t+14)) (v 5) (v 6) tx so du a t1 ta)] (HW n t a ta t1 tx sg sb):=by kernel_rfl
noncomputable abbrev HV:List Sp:=[Dt 9 (n+8) [.str ⟨⟨[34]⟩⟩ (t+9),.str ⟨⟨[64]⟩⟩ (t+10)] 0 (.str sg (t+8)) true,Bo 7 8 (n+6) (n+7) [.str ⟨⟨[34]⟩⟩ (t+9),.str ⟨⟨[64]⟩⟩ (t+10),.str ιd (t+11),.str ιe (t+12)] 0 .none (.int 2 (t+13)) [.str ⟨⟨[34]⟩⟩ (t+9),.str ⟨⟨[64]⟩⟩ (t+10)],spStr "str.__getitem__" ⟨[.str tx t1,.int (↑a) ta],[]⟩ sg,Dt 5 (n+4) [.str ιd (t+5),.str ιe (t+6)] 0 (.str sb (t+2)) false,Bo 3 4 (n+2) (n+3) [.str ⟨⟨[34]⟩⟩ (t+3),.str ⟨⟨[64]⟩⟩ (t+4),.str ιd (t+5),.str ιe (t+6)] 0 (.int 2 (t+7)) .none [.str ιd (t+5),.str ιe (t+6)],CK 1 (n) tx t1 a (a+2) ta (t+1) sb false,sAd (.int (↑a) ta) (.int 2 (t+0)) ((a+2:Nat):Int)]
def qS71f:Res:=
 run (P4 w f ext n t 0) 111 (ιx 45 0x112a0aa02808880300201126066024044403002020111) ((HV n t a ta t1 tx sg sb).reverse.map Sp.x) [(L,rF7 w k (v 4) (v 5) (v 6) tx so du a t1 ta)] 0 0 .tree
  (Az ((rdB w).take 1) (Af w 518 L)) [] [] []
theorem qS71f_v:RvD (qS71f w f ext n t L so du k v a ta t1 tx sg sb) [0] (.done (.ok .next)) 1 9 16 [some (L,rF7 w k (.int 1 (t+14)) (v 5) (v 6) tx so du a t1 ta)] (HV n t a ta t1 tx sg sb):=by kernel_rfl
noncomputable abbrev HU:List Sp:=[Dt 5 (n+4) [.str ιd (t+5),.str ιe (t+6)] 0 (.str sb (t+2)) true,Bo 3 4 (n+2) (n+3) [.str ⟨⟨[34]⟩⟩ (t+3),.str ⟨⟨[64]⟩⟩ (t+4),.str ιd (t+5),.str ιe (t+6)] 0 (.int 2 (t+7)) .none [.str ιd (t+5),.str ιe (t+6)],CK 1 (n) tx t1 a (a+2) ta (t+1) sb false,sAd (.int (↑a) ta) (.int 2 (t+0)) ((a+2:Nat):Int)]
def qS72f:Res:=
 run (P4 w f ext n t 0) 69 (ιx 25 0x1126066024044403002020111) ((HU n t a ta t1 tx sb).reverse.map Sp.x) [(L,rF7 w k (v 4) (v 5) (v 6) tx so du a t1 ta)] 0 0 .tree
  (Az ((rdB w).take 1) (Af w 518 L)) [] [] []
theorem qS72f_v:RvD (qS72f w f ext n t L so du k v a ta t1 tx sb) [0] (.done (.ok .next)) 1 5 10 [some (L,rF7 w k (.int 2 (t+8)) (v 5) (v 6) tx so du a t1 ta)] (HU n t a ta t1 tx sb):=by kernel_rfl
def qI5:Res:=
 run (P4 w f ext n t 0) 18 [1,0,2] ([Am "int.__eq__" ⟨[.int (↑z) tz,.int 0 (t+0)],[]⟩ (.bool b1)].map Sp.x) [(L,rF5 w k (.int (z:Nat) tz) tx so du a t1 ta)] 0 0 .tree
  (Br (rdI w).1 (Af w 518 L)) [] [] []
theorem qI5_v:RvD (qI5 w f ext n t L so du k a z ta tz t1 tx b1) [0] (.done (.ok (.ret (.bool b1)))) 1 0 1 [some (L,rF5 w k (.int (z:Nat) tz) tx so du a t1 ta)] [Am "int.__eq__" ⟨[.int (↑z) tz,.int 0 (t+0)],[]⟩ (.bool b1)]:=by rcases f with⟨_ | _,_,_⟩ <;> kernel_rfl
def qI7:Res:=
 run (P4 w f ext n t 0) 18 [1,0,2] ([Am "int.__eq__" ⟨[.int (↑z) tz,.int 0 (t+0)],[]⟩ (.bool b1)].map Sp.x) [(L,rF7 w k (.int (z:Nat) tz) (v 5) (v 6) tx so du a t1 ta)] 0 0 .tree
  (Br (rdI w).1 (Af w 518 L)) [] [] []
theorem qI7_v:RvD (qI7 w f ext n t L so du k v a z ta tz t1 tx b1) [0] (.done (.ok (.ret (.bool b1)))) 1 0 1 [some (L,rF7 w k (.int (z:Nat) tz) (v 5) (v 6) tx so du a t1 ta)] [Am "int.__eq__" ⟨[.int (↑z) tz,.int 0 (t+0)],[]⟩ (.bool b1)]:=by rcases f with⟨_ | _,_,_⟩ <;> kernel_rfl
noncomputable abbrev Lk:List Sp:=[sAd (.int (↑a) ta) (.int 1 (t+2)) ((a+1:Nat):Int),Bc 3 du ds dz (.ref (n+1)),Fq 4 1 n sq [.str ⟨⟨[79,78,69]⟩⟩ (t+0),.str sg (t+1)] [rv,cv],Cr 0 so ss se (.int (a:Nat) ta) (.ref sq),spStr "str.__getitem__" ⟨[.str tx t1,.int (↑a) ta],[]⟩ sg]
def qO:Res:=
 run (P4 w f ext n t 2) 68 (ιx 31 0x3320324025052521011133203344443) ((Lk n t so sq du a ta t1 se dz tx sg ss ds rv cv).reverse.map Sp.x) [(so,lst ss se),(sq,AQ [rv,cv]),(L,rF7 w k (v 4) (v 5) (v 6) tx so du a t1 ta),(du,lst ds dz)] 0 0 .tree
  (Az (rdI w).2.1 (Af w 518 L)) [] [] []
theorem qO_v:RvD (qO w f ext n t L so sq du k v a ta t1 se dz tx sg ss ds rv cv) [2,3,5] (.done (.ok .next)) 1 2 5 [some (L,oFr [de w "text" (k 0) (.str tx t1),de w "spots" (k 1) (.ref so),de w "at" (k 2) (.int ((a+1:Nat):Int) (t+3)),de w "due" (k 3) (.ref du),de w "size" (k 4) (v 4),de w "close" (k 5) (v 5),de w "wrong" (k 6) (v 6)] 7),some (du,lst (ds++[.ref (n+1)]) (dz+1)),some (n+1,AQ [.str ⟨⟨[79,78,69]⟩⟩ (t+0),.str sg (t+1),rv,cv])] (Lk n t so sq du a ta t1 se dz tx sg ss ds rv cv):=by kernel_rfl
def qC5:Res:=
 run (P4 w f ext n t 0) 25 [0,1,1,1,0,2,0,1] ([sAd (.int (↑a) ta) (.int (↑z) tz) ((a+z:Nat):Int)].map Sp.x) [(L,rF5 w k (.int (z:Nat) tz) tx so du a t1 ta)] 0 0 .tree
  (Az ((Da w).take 1) (Af w 518 L)) [] [] []
theorem qC5_v:RvC (qC5 w f ext n t L so du k a z ta tz t1 tx) [0] (.call (.call (.ref 504) ⟨[.str tx t1,.int ((a+z:Nat):Int) (t+0)],[]⟩)) 1 0 1 [some (L,rF5 w k (.int (z:Nat) tz) tx so du a t1 ta)] [sAd (.int (↑a) ta) (.int (↑z) tz) ((a+z:Nat):Int)]:=by kernel_rfl
def qC7:Res:=
 run (P4 w f ext n t 0) 25 [0,1,1,1,0,2,0,1] ([sAd (.int (↑a) ta) (.int (↑z) tz) ((a+z:Nat):Int)].map Sp.x) [(L,rF7 w k (.int (z:Nat) tz) (v 5) (v 6) tx so du a t1 ta)] 0 0 .tree
  (Az ((Da w).take 1) (Af w 518 L)) [] [] []
theorem qC7_v:RvC (qC7 w f ext n t L so du k v a z ta tz t1 tx) [0] (.call (.call (.ref 504) ⟨[.str tx t1,.int ((a+z:Nat):Int) (t+0)],[]⟩)) 1 0 1 [some (L,rF7 w k (.int (z:Nat) tz) (v 5) (v 6) tx so du a t1 ta)] [sAd (.int (↑a) ta) (.int (↑z) tz) ((a+z:Nat):Int)]:=by kernel_rfl
def qW6:Res:=
 run (P4 w f ext n t 0) 27 [0,1,1,1,0,2,1,0,1] ([sAd (.int (↑a) ta) (.int (↑z) tz) ((a+z:Nat):Int)].map Sp.x) [(L,rF6 w k (.int (z:Nat) tz) (.int (cl:Nat) tc) tx so du a t1 ta)] 0 0 .tree
  (Az (((Da w).drop 1).take 1) (Af w 518 L)) [] [] []
theorem qW6_v:RvC (qW6 w f ext n t L so du k a cl z ta tc tz t1 tx) [0] (.call (.call (.ref 511) ⟨[.str tx t1,.int ((a+z:Nat):Int) (t+0),.int (cl:Nat) tc],[]⟩)) 1 0 1 [some (L,rF6 w k (.int (z:Nat) tz) (.int (cl:Nat) tc) tx so du a t1 ta)] [sAd (.int (↑a) ta) (.int (↑z) tz) ((a+z:Nat):Int)]:=by kernel_rfl
def qW7:Res:=
 run (P4 w f ext n t 0) 27 [0,1,1,1,0,2,1,0,1] ([sAd (.int (↑a) ta) (.int (↑z) tz) ((a+z:Nat):Int)].map Sp.x) [(L,rF7 w k (.int (z:Nat) tz) (.int (cl:Nat) tc) (v 6) tx so du a t1 ta)] 0 0 .tree
  (Az (((Da w).drop 1).take 1) (Af w 518 L)) [] [] []
theorem qW7_v:RvC (qW7 w f ext n t L so du k v a cl z ta tc tz t1 tx) [0] (.call (.call (.ref 511) ⟨[.str tx t1,.int ((a+z:Nat):Int) (t+0),.int (cl:Nat) tc],[]⟩)) 1 0 1 [some (L,rF7 w k (.int (z:Nat) tz) (.int (cl:Nat) tc) (v 6) tx so du a t1 ta)] [sAd (.int (↑a) ta) (.int (↑z) tz) ((a+z:Nat):Int)]:=by kernel_rfl
def qV1:Res:=
 run (P4 w f ext n t 0) 13 [1] [] [(L,rF7 w k (v 4) (.int (cl:Nat) tc) (.ref wr) tx so du a t1 ta)] 0 0 .tree
  (CW (DI (DX w).1).1 (Af w 518 L)) [] [] []
theorem qV1_v:RvD (qV1 w f ext n t L so du wr k v a cl ta tc t1 tx) [0] (.done (.ok (.ret (.ref wr)))) 1 0 0 [some (L,rF7 w k (v 4) (.int (cl:Nat) tc) (.ref wr) tx so du a t1 ta)] []:=by kernel_rfl
def qV2:Res:=
 run (P4 w f ext n t 0) 13 [] [] [] 0 0 .tree
  (CW (DI (DX w).1).2.1 (Af w 518 L)) [] [] []
theorem qV2_v:RvD (qV2 w f ext n t L) [0] (.done (.ok (.ret (.ref n)))) 1 1 0 [some (n,lst [] 0)] []:=by kernel_rfl
noncomputable abbrev Lj:List Sp:=[CZ 3 7 du (n+2) ds dz [.ref (n+1)] 0,Fq 5 1 n sq [.str ιg (t+0)] [rv,cv],Cr 0 so ss se (.int (p:Nat) tp) (.ref sq),Cr 4 wr [.int (p:Nat) tp] 0 (.int ((0:Nat):Int) (t+1)) (.int (p:Nat) tp)]
def qX:Res:=
 run (P4 w f ext n t 2) 56 (ιx 27 0x240484260626210111250555333) ((Lj n t so sq du wr p tp se dz ss ds rv cv).reverse.map Sp.x) [(so,lst ss se),(sq,AQ [rv,cv]),(L,rF7 w k (v 4) (.int (cl:Nat) tc) (.ref wr) tx so du a t1 ta),(du,lst ds dz),(wr,lst [.int (p:Nat) tp] 0)] 0 0 .tree
  (Az (DX w).2.1 (Af w 518 L)) [] [] []
theorem qX_v:RvD (qX w f ext n t L so sq du wr k v a cl p ta tc tp t1 se dz tx ss ds rv cv) [6,8] (.done (.ok (.ret (.ref (n+3))))) 1 4 2 [some (n+1,AQ [.str ιg (t+0),rv,cv]),some (n+3,lst (ds++[.ref (n+1)]) 0)] (Lj n t so sq du wr p tp se dz ss ds rv cv):=by kernel_rfl
def qJ:Res:=
 run (P4 w f ext n t 0) 26 [1,0,0,1,0,2,0,2] ([Cc tx t1,Am "int.__eq__" ⟨[.int (↑cl) tc,.int (↑tx.length) (t+0+1)],[]⟩ (.bool b1)].map Sp.x) [(L,rF7 w k (v 4) (.int (cl:Nat) tc) (.ref wr) tx so du a t1 ta)] 0 0 .tree
  (Br (Fv w).1 (Af w 518 L)) [] [] []
theorem qJ_v:RvD (qJ w f ext n t L so du wr k v a cl ta tc t1 tx b1) [0] (.done (.ok (.ret (.bool b1)))) 1 0 2 [some (L,rF7 w k (v 4) (.int (cl:Nat) tc) (.ref wr) tx so du a t1 ta)] [Am "int.__eq__" ⟨[.int (↑cl) tc,.int (↑tx.length) (t+0+1)],[]⟩ (.bool b1),Cc tx t1]:=by rcases f with⟨_ | _,_,_⟩ <;> kernel_rfl
def qY:Res:=
 run (P4 w f ext n t 2) 28 [3,4,6,4,0,4,2] ([CZ 3 5 du (n+1) ds dz [.ref n] 0].map Sp.x) [(so,lst ss se),(sq,AQ [rv,cv]),(L,rF7 w k (v 4) (.int (cl:Nat) tc) (.ref wr) tx so du a t1 ta),(du,lst ds dz)] 0 0 .tree
  (Az (Fv w).2.1 (Af w 518 L)) [] [] []
theorem qY_v:RvD (qY w f ext n t L so sq du wr k v a cl ta tc t1 se dz tx ss ds rv cv) [4,6] (.done (.ok (.ret (.ref (n+2))))) 1 3 1 [some (n,AQ [.str ιg (t+0)]),some (n+2,lst (ds++[.ref n]) 0)] [CZ 3 5 du (n+1) ds dz [.ref n] 0]:=by kernel_rfl
noncomputable abbrev Kd:List Sp:=[sAd (.int (↑cl) tc) (.int 1 (t+4)) ((cl+1:Nat):Int),Bc 3 du ds dz (.ref (n+2)),Fq 5 1 (n+1) sq [.str ιh (t+0),.str sb (t+3)] [rv,cv],Cr 0 so ss se (.int (a:Nat) ta) (.ref sq),CK 4 (n) tx t1 a (cl+1) ta (t+2) sb false,sAd (.int (↑cl) tc) (.int 1 (t+1)) ((cl+1:Nat):Int)]
def qZf:Res:=
 run (P4 w f ext n t 2) 76 (ιx 34 0x3320324026062621011133202033344443) ((Kd n t so sq du a cl ta tc t1 se dz tx sb ss ds rv cv).reverse.map Sp.x) [(so,lst ss se),(sq,AQ [rv,cv]),(L,rF7 w k (v 4) (.int (cl:Nat) tc) (.ref wr) tx so du a t1 ta),(du,lst ds dz)] 0 0 .tree
  (Az ((Da w).drop 4) (Af w 518 L)) [] [] []
theorem qZf_v:RvD (qZf w f ext n t L so sq du wr k v a cl ta tc t1 se dz tx sb ss ds rv cv) [2,3,6] (.done (.ok .next)) 1 3 7 [some (L,oFr [de w "text" (k 0) (.str tx t1),de w "spots" (k 1) (.ref so),de w "at" (k 2) (.int ((cl+1:Nat):Int) (t+5)),de w "due" (k 3) (.ref du),de w "size" (k 4) (v 4),de w "close" (k 5) (.int (cl:Nat) tc),de w "wrong" (k 6) (.ref wr)] 7),some (du,lst (ds++[.ref (n+2)]) (dz+1)),some (n+2,AQ [.str ιh (t+0),.str sb (t+3),rv,cv])] (Kd n t so sq du a cl ta tc t1 se dz tx sb ss ds rv cv):=by kernel_rfl
noncomputable abbrev Kc:List Sp:=[sAd (.int (↑cl) tc) (.int 1 (t+3)) ((cl+1:Nat):Int),Bc 3 du ds dz (.ref (n+2)),Fq 5 1 (n+1) sq [.str ιh (t+0),.str sb t1] [rv,cv],Cr 0 so ss se (.int (a:Nat) ta) (.ref sq),CK 4 (n) tx t1 a (cl+1) ta (t+2) sb true,sAd (.int (↑cl) tc) (.int 1 (t+1)) ((cl+1:Nat):Int)]
def qZw:Res:=
 run (P4 w f ext n t 2) 76 (ιx 34 0x3320324026062621011133202033344443) ((Kc n t so sq du a cl ta tc t1 se dz tx sb ss ds rv cv).reverse.map Sp.x) [(so,lst ss se),(sq,AQ [rv,cv]),(L,rF7 w k (v 4) (.int (cl:Nat) tc) (.ref wr) tx so du a t1 ta),(du,lst ds dz)] 0 0 .tree
  (Az ((Da w).drop 4) (Af w 518 L)) [] [] []
theorem qZw_v:RvD (qZw w f ext n t L so sq du wr k v a cl ta tc t1 se dz tx sb ss ds rv cv) [2,3,6] (.done (.ok .next)) 1 3 6 [some (L,oFr [de w "text" (k 0) (.str tx t1),de w "spots" (k 1) (.ref so),de w "at" (k 2) (.int ((cl+1:Nat):Int) (t+4)),de w "due" (k 3) (.ref du),de w "size" (k 4) (v 4),de w "close" (k 5) (.int (cl:Nat) tc),de w "wrong" (k 6) (.ref wr)] 7),some (du,lst (ds++[.ref (n+2)]) (dz+1)),some (n+2,AQ [.str ιh (t+0),.str sb t1,rv,cv])] (Kc n t so sq du a cl ta tc t1 se dz tx sb ss ds rv cv):=by kernel_rfl
theorem qE_h:AE none (qE w f ext n t so t1 tx).ko=none:=by rcases f with⟨_ | _,_,_⟩ <;> kernel_rfl
theorem qE_d:Nat.ble (AX (qE w f ext n t so t1 tx).ko) 20=true:=by rcases f with⟨_ | _,_,_⟩ <;> kernel_rfl
theorem qE_l:Nat.ble (Cn (qE w f ext n t so t1 tx).ko) 20=true:=by rcases f with⟨_ | _,_,_⟩ <;> kernel_rfl
theorem qC5_kk:(qC5 w f ext n t L so du k a z ta tz t1 tx).kk=(qC7 w f ext n t L so du k v a z ta tz t1 tx).kk:=by kernel_rfl
theorem qW6_kk:(qW6 w f ext n t L so du k a cl z ta tc tz t1 tx).kk=(qW7 w f ext n t L so du k v a cl z ta tc tz t1 tx).kk:=by kernel_rfl
end
section
variable(w:World)(f:Fl)(ext:Addr→Option Obj)(n t L so du wr:Nat)(k:Nat→Nat)(v:Nat→Value)(a cl z ta tc tz t1:Nat)(tx:Str)(n2 u2:Nat)
def qCk5:Res:=
 run (P4 w f ext n2 u2 0) 19 [1,1] [] [(L,rF5 w k (.int (z:Nat) tz) tx so du a t1 ta)] 0 0 .tree
  ((qC7 w f ext n t L so du k v a z ta tz t1 tx).kk (.ok (.ret (.int (cl:Nat) tc)))) [] [] []
theorem qCk5_v:RvD (qCk5 w f ext n t L so du k v a cl z ta tc tz t1 tx n2 u2) [0] (.done (.ok .next)) 1 0 1 [some (L,oFr [de w "text" (k 0) (.str tx t1),de w "spots" (k 1) (.ref so),de w "at" (k 2) (.int (a:Nat) ta),de w "due" (k 3) (.ref du),de w "size" (k 4) (.int (z:Nat) tz),de w "close" (u2+0) (.int (cl:Nat) tc)] 6)] []:=by kernel_rfl
def qCk7:Res:=
 run (P4 w f ext n2 u2 0) 19 [1,1] [] [(L,rF7 w k (.int (z:Nat) tz) (v 5) (v 6) tx so du a t1 ta)] 0 0 .tree
  ((qC7 w f ext n t L so du k v a z ta tz t1 tx).kk (.ok (.ret (.int (cl:Nat) tc)))) [] [] []
theorem qCk7_v:RvD (qCk7 w f ext n t L so du k v a cl z ta tc tz t1 tx n2 u2) [0] (.done (.ok .next)) 1 0 1 [some (L,rF7 w k (.int (z:Nat) tz) (.int (cl:Nat) tc) (v 6) tx so du a t1 ta)] []:=by kernel_rfl
def qWk6:Res:=
 run (P4 w f ext n2 u2 0) 19 [1,1] [] [(L,rF6 w k (.int (z:Nat) tz) (.int (cl:Nat) tc) tx so du a t1 ta)] 0 0 .tree
  ((qW7 w f ext n t L so du k v a cl z ta tc tz t1 tx).kk (.ok (.ret (.ref wr)))) [] [] []
theorem qWk6_v:RvD (qWk6 w f ext n t L so du wr k v a cl z ta tc tz t1 tx n2 u2) [0] (.done (.ok .next)) 1 0 1 [some (L,oFr [de w "text" (k 0) (.str tx t1),de w "spots" (k 1) (.ref so),de w "at" (k 2) (.int (a:Nat) ta),de w "due" (k 3) (.ref du),de w "size" (k 4) (.int (z:Nat) tz),de w "close" (k 5) (.int (cl:Nat) tc),de w "wrong" (u2+0) (.ref wr)] 7)] []:=by kernel_rfl
def qWk7:Res:=
 run (P4 w f ext n2 u2 0) 19 [1,1] [] [(L,rF7 w k (.int (z:Nat) tz) (.int (cl:Nat) tc) (v 6) tx so du a t1 ta)] 0 0 .tree
  ((qW7 w f ext n t L so du k v a cl z ta tc tz t1 tx).kk (.ok (.ret (.ref wr)))) [] [] []
theorem qWk7_v:RvD (qWk7 w f ext n t L so du wr k v a cl z ta tc tz t1 tx n2 u2) [0] (.done (.ok .next)) 1 0 1 [some (L,rF7 w k (.int (z:Nat) tz) (.int (cl:Nat) tc) (.ref wr) tx so du a t1 ta)] []:=by kernel_rfl
def qR:Res:=
 run (P2 w f ext n2 u2 0) 14 [1] [] [(n,rF7 w k (v 4) (v 5) (v 6) tx so du a t1 ta)] 0 0 ((qE w f ext n t so t1 tx).ko)
  ((qE w f ext n t so t1 tx).kk (.ok .next)) [] [] []
theorem qR_v:RvD (qR w f ext n t so du k v a ta t1 tx n2 u2) [0] (.done (.ok (.ret (.ref du)))) 0 0 0 [some (n,rF7 w k (v 4) (v 5) (v 6) tx so du a t1 ta)] []:=by rcases f with⟨_ | _,_,_⟩ <;> kernel_rfl
def qQ:Res:=
 run (P2 w f ext n2 u2 0) 11 [] [] [] 0 0 ((qE w f ext n t so t1 tx).ko)
  ((qE w f ext n t so t1 tx).kk (.ok (.ret (v 0)))) [] [] []
theorem qQ_v:RvD (qQ w f ext n t so v t1 tx n2 u2) [] (.done (.ok (.ret (v 0)))) 0 0 0 [] []:=by rcases f with⟨_ | _,_,_⟩ <;> kernel_rfl
end
noncomputable def EB(y:Str):Bool:=[76,34] == y.cps.toList||[96,96] == y.cps.toList
noncomputable def G9(y:Str):Bool:=[34] == y.cps.toList||[64] == y.cps.toList
noncomputable abbrev sgn(x:Str)(a:Nat):Str:=⟨#[x.cps.getD a 0]⟩
noncomputable def At(x:Str)(a:Nat):Nat:=if EB (AW x a (a+2)) then 2 else if G9 (sgn x a) then 1 else 0
noncomputable def Bd(x:Str):Nat→Nat→List Dw×Option (Option Nat)
 | 0,_=>([],none)
 | n+1,a=>if a<x.length then
   (match At x a with
   | 0=>((Er,sgn x a,a)::(Bd x n (a+1)).1,(Bd x n (a+1)).2)
   | z=>match BX x (a+z) (AM x (a+z)) with
    | some p=>([],some (some p))
    | none=>if AM x (a+z)=x.length then([],some none) else((B0,AW x a (AM x (a+z)+1),a)::(Bd x n (AM x (a+z)+1)).1,(Bd x n (AM x (a+z)+1)).2))
  else([],none)
noncomputable def eqS(x:Str):Value→Bool
 | .str y _=>y.cps.toList == x.cps.toList
 | _=>false
theorem CR(x:Str)(t:Nat){l:List Value}(h:∀ v∈l,∃ y u,v=.str y u):∀ v∈l,EqGives v (.str x t) (eqS x v):=fun v hv=>by
 obtain⟨y,u,rfl⟩:=h v hv
 exact EqGives.str y x u t
section
variable{w:World}{ext:Addr→Option Obj}{A:Around}{st:Shared}{L so du a t1:Nat}{x:Str}
noncomputable def Fo(v4 v5 v6:Value):Nat→Value
 | 4=>v4
 | 5=>v5
 | _=>v6
noncomputable def k4(k:Nat→Nat)(a:Nat):Nat→Nat
 | 4=>a
 | i=>k i
noncomputable def k5(k:Nat→Nat)(a:Nat):Nat→Nat
 | 5=>a
 | i=>k i
noncomputable def k6(k:Nat→Nat)(a:Nat):Nat→Nat
 | 6=>a
 | i=>k i
noncomputable def Fr0(w:World)(x:Str)(so du a t1:Nat)(o:Option Obj):Prop:=∃ k ta,(o=some (rF4 w k x so du a t1 ta)∧At x a≠0)∨∃ v4 v5 v6,o=some (rF7 w k v4 v5 v6 x so du a t1 ta)∧0<a
noncomputable def Fr1(w:World)(x:Str)(so du a t1 z:Nat)(o:Option Obj):Prop:=∃ k ta tz,(o=some (rF5 w k (.int (z:Nat) tz) x so du a t1 ta)∧z≠0)∨∃ v5 v6,o=some (rF7 w k (.int (z:Nat) tz) v5 v6 x so du a t1 ta)∧0<a
noncomputable def Fr2(w:World)(x:Str)(so du a t1 z c:Nat)(o:Option Obj):Prop:=∃ k ta tz tc,o=some (rF6 w k (.int (z:Nat) tz) (.int (c:Nat) tc) x so du a t1 ta)∨∃ v6,o=some (rF7 w k (.int (z:Nat) tz) (.int (c:Nat) tc) v6 x so du a t1 ta)
noncomputable def Fr3(w:World)(x:Str)(so du a t1 c wr:Nat)(o:Option Obj):Prop:=∃ k ta tc v4,o=some (rF7 w k v4 (.int (c:Nat) tc) (.ref wr) x so du a t1 ta)
theorem nd1{α:Type}(a:α):[a].Nodup:=by simp
theorem rd_test(W:Ae w)(hA:Ar A 100)(S:Ak w ext st)(apL:lkX w ext L=none)(hx:x.length<1000)(hF:Fr0 w x so du a t1 (st.heap.get? L)){Q:Bool→Shared→Prop}
  (h:∀ s',Aft [L] st s'→Fr0 w x so du a t1 (s'.heap.get? L)→Q (decide (a<x.length)) s'):wpAny (model pr2 w) A (isTrue (rdT w) (Af w 518 L) (eval (rdT w) (Af w 518 L))) Q E st:=by
 refine B9 ?_
 have ob:∀ (Fi:PySem.Fin→Shared→Prop) (E':Value→Shared→Prop) (ta:Nat),∀ v∈[Am "int.__lt__" ⟨[.int (a:Nat) ta,.int (x.length:Nat) (st.toks+0+1)],[]⟩ (.bool (decide (a<x.length))),Cc x t1],AK (P4 w (Ax w) ext st.heap.objs.size st.toks 0) (Ac pr2 w A Fi E') 30 30 v:=fun Fi E' ta=>
  Ab (o_lt S.new (by simp)) (Ab (E1 S.new (ω47 hx)) Aa)
 obtain⟨k,ta,hF | ⟨v4,v5,v6,hF,h0⟩⟩:=hF
 ·refine uL W S hA rfl (qT4_v _ _ _ _ _ L so du k a ta t1 x (decide (a<x.length))) (ob _ _ _) (Ab hF.1 Aa) (nd1 _) (Ab apL Aa) fun s1 I1 H1=>ιp (h s1 I1.aft ⟨k,ta,.inl ⟨H1 _ m0,hF.2⟩⟩)
 ·refine uL W S hA rfl (qT7_v _ _ _ _ _ L so du k (Fo v4 v5 v6) a ta t1 x (decide (a<x.length))) (ob _ _ _) (Ab hF Aa) (nd1 _) (Ab apL Aa) fun s1 I1 H1=>ιp (h s1 I1.aft ⟨k,ta,.inr ⟨v4,v5,v6,H1 _ m0,h0⟩⟩)
theorem rd_zero(W:Ae w)(hA:Ar A 100)(S:Ak w ext st)(apL:lkX w ext L=none){z:Nat}(hF:Fr1 w x so du a t1 z (st.heap.get? L)){Q:Bool→Shared→Prop}
  (h:∀ s',Aft [L] st s'→Fr1 w x so du a t1 z (s'.heap.get? L)→Q (((z:Nat):Int) == 0) s'):wpAny (model pr2 w) A (isTrue (rdI w).1 (Af w 518 L) (eval (rdI w).1 (Af w 518 L))) Q E st:=by
 refine B9 ?_
 have ob:∀ (Fi:PySem.Fin→Shared→Prop) (E':Value→Shared→Prop) (tz:Nat),∀ v∈[Am "int.__eq__" ⟨[.int (z:Nat) tz,.int 0 (st.toks+0)],[]⟩ (.bool (((z:Nat):Int) == 0))],AK (P4 w (Ax w) ext st.heap.objs.size st.toks 0) (Ac pr2 w A Fi E') 30 30 v:=fun Fi E' tz=>Ab (Kn S.new rfl) Aa
 obtain⟨k,ta,tz,hF | ⟨v5,v6,hF,h0⟩⟩:=hF
 ·refine uL W S hA rfl (qI5_v _ _ _ _ _ L so du k a z ta tz t1 x (((z:Nat):Int) == 0)) (ob _ _ _) (Ab hF.1 Aa) (nd1 _) (Ab apL Aa) fun s1 I1 H1=>ιp (h s1 I1.aft ⟨k,ta,tz,.inl ⟨H1 _ m0,hF.2⟩⟩)
 ·refine uL W S hA rfl (qI7_v _ _ _ _ _ L so du k (Fo .none v5 v6) a z ta tz t1 x (((z:Nat):Int) == 0)) (ob _ _ _) (Ab hF Aa) (nd1 _) (Ab apL Aa) fun s1 I1 H1=>ιp (h s1 I1.aft ⟨k,ta,tz,.inr ⟨v5,v6,H1 _ m0,h0⟩⟩)
end
theorem Fx(a b c d:Value):slicePick ⟨[a,b,c,d]⟩ (some 2) none none=⟨[c,d]⟩:=by kernel_rfl
theorem le4(a b c d:Value):[a,b,c,d].length≤sizeLine:=by show 4≤sizeLine; decide
theorem FU{f:Value→Bool}{u v:Value}:[u,v].any f=(f u||f v):=by simp
section
variable{w:World}{ext:Addr→Option Obj}{A:Around}{st:Shared}{L so du a t1:Nat}{x:Str}
theorem rs41f(W:Ae w)(hA:Ar A 100)(S:Ak w ext st)(apL:lkX w ext L=none)(hx:x.length<1000)(ha:a<x.length){k:Nat→Nat}{ta:Nat}(hF:st.heap.get? L=some (rF4 w k x so du a t1 ta)∧At x a≠0)(h2:EB (AW x a (a+2))=false)(h1:G9 (sgn x a)=true)(hw:decide (min (a+2) x.length-a=x.length)=false)
  (h:∀ s',Aft [L] st s'→Fr1 w x so du a t1 (At x a) (s'.heap.get? L)→Q .next s'):wpAny (model pr2 w) A (execs ((rdB w).take 1) (Af w 518 L)) Q E st:=by
 have ez:At x a=1:=by unfold At; rw [if_neg (by rw [h2]; decide),if_pos h1]
 refine Au ?_
 ·refine uL W S hA rfl (qS41f_v _ _ _ _ _ L so du k a ta t1 x (sgn x a) (AW x a (a+2))) (ζ7 (DD S.new (eqS (sgn x a)) (CR _ _ (ζ2 ⟨_,_,rfl⟩ ⟨_,_,rfl⟩)) (FU.trans h1)) (B3 S.new .none (.int 2 _) rfl (le4 ..)) (BS S.new (ha) (ω47 hx)) (DD S.new (eqS (AW x a (a+2))) (CR _ _ (ζ2 ⟨_,_,rfl⟩ ⟨_,_,rfl⟩)) (FU.trans h2)) (B3 S.new (.int 2 _) .none (Fx ..) (le4 ..)) (Ea S.new (ω8h ha) (ω8b hx) hw rfl) (Bj (a:=a) (b:=2) S.new (ω8i hx ha) rfl)) (Ab hF.1 Aa) (nd1 _) (Ab apL Aa) fun s1 I1 H1=>ιp (h s1 I1.aft ?_)
  rw [ez]
  exact⟨k4 k _,ta,_,.inl ⟨H1 _ m0,by decide⟩⟩
theorem rs41w(W:Ae w)(hA:Ar A 100)(S:Ak w ext st)(apL:lkX w ext L=none)(hx:x.length<1000)(ha:a<x.length){k:Nat→Nat}{ta:Nat}(hF:st.heap.get? L=some (rF4 w k x so du a t1 ta)∧At x a≠0)(h2:EB (AW x a (a+2))=false)(h1:G9 (sgn x a)=true)(hw:decide (min (a+2) x.length-a=x.length)=true)
  (h:∀ s',Aft [L] st s'→Fr1 w x so du a t1 (At x a) (s'.heap.get? L)→Q .next s'):wpAny (model pr2 w) A (execs ((rdB w).take 1) (Af w 518 L)) Q E st:=by
 have ez:At x a=1:=by unfold At; rw [if_neg (by rw [h2]; decide),if_pos h1]
 refine Au ?_
 ·refine uL W S hA rfl (qS41w_v _ _ _ _ _ L so du k a ta t1 x (sgn x a) (AW x a (a+2))) (ζ7 (DD S.new (eqS (sgn x a)) (CR _ _ (ζ2 ⟨_,_,rfl⟩ ⟨_,_,rfl⟩)) (FU.trans h1)) (B3 S.new .none (.int 2 _) rfl (le4 ..)) (BS S.new (ha) (ω47 hx)) (DD S.new (eqS (AW x a (a+2))) (CR _ _ (ζ2 ⟨_,_,rfl⟩ ⟨_,_,rfl⟩)) (FU.trans h2)) (B3 S.new (.int 2 _) .none (Fx ..) (le4 ..)) (Ea S.new (ω8h ha) (ω8b hx) hw rfl) (Bj (a:=a) (b:=2) S.new (ω8i hx ha) rfl)) (Ab hF.1 Aa) (nd1 _) (Ab apL Aa) fun s1 I1 H1=>ιp (h s1 I1.aft ?_)
  rw [ez]
  exact⟨k4 k _,ta,_,.inl ⟨H1 _ m0,by decide⟩⟩
theorem rs42f(W:Ae w)(hA:Ar A 100)(S:Ak w ext st)(apL:lkX w ext L=none)(hx:x.length<1000)(ha:a<x.length){k:Nat→Nat}{ta:Nat}(hF:st.heap.get? L=some (rF4 w k x so du a t1 ta)∧At x a≠0)(h2:EB (AW x a (a+2))=true)(hw:decide (min (a+2) x.length-a=x.length)=false)
  (h:∀ s',Aft [L] st s'→Fr1 w x so du a t1 (At x a) (s'.heap.get? L)→Q .next s'):wpAny (model pr2 w) A (execs ((rdB w).take 1) (Af w 518 L)) Q E st:=by
 have ez:At x a=2:=by unfold At; rw [if_pos h2]
 refine Au ?_
 ·refine uL W S hA rfl (qS42f_v _ _ _ _ _ L so du k a ta t1 x (AW x a (a+2))) (ζ4 (DD S.new (eqS (AW x a (a+2))) (CR _ _ (ζ2 ⟨_,_,rfl⟩ ⟨_,_,rfl⟩)) (FU.trans h2)) (B3 S.new (.int 2 _) .none (Fx ..) (le4 ..)) (Ea S.new (ω8h ha) (ω8b hx) hw rfl) (Bj (a:=a) (b:=2) S.new (ω8i hx ha) rfl)) (Ab hF.1 Aa) (nd1 _) (Ab apL Aa) fun s1 I1 H1=>ιp (h s1 I1.aft ?_)
  rw [ez]
  exact⟨k4 k _,ta,_,.inl ⟨H1 _ m0,by decide⟩⟩
theorem rs42w(W:Ae w)(hA:Ar A 100)(S:Ak w ext st)(apL:lkX w ext L=none)(hx:x.length<1000)(ha:a<x.length){k:Nat→Nat}{ta:Nat}(hF:st.heap.get? L=some (rF4 w k x so du a t1 ta)∧At x a≠0)(h2:EB (AW x a (a+2))=true)(hw:decide (min (a+2) x.length-a=x.length)=true)
  (h:∀ s',Aft [L] st s'→Fr1 w x so du a t1 (At x a) (s'.heap.get? L)→Q .next s'):wpAny (model pr2 w) A (execs ((rdB w).take 1) (Af w 518 L)) Q E st:=by
 have ez:At x a=2:=by unfold At; rw [if_pos h2]
 refine Au ?_
 ·refine uL W S hA rfl (qS42w_v _ _ _ _ _ L so du k a ta t1 x (AW x a (a+2))) (ζ4 (DD S.new (eqS (AW x a (a+2))) (CR _ _ (ζ2 ⟨_,_,rfl⟩ ⟨_,_,rfl⟩)) (FU.trans h2)) (B3 S.new (.int 2 _) .none (Fx ..) (le4 ..)) (Ea S.new (ω8h ha) (ω8b hx) hw rfl) (Bj (a:=a) (b:=2) S.new (ω8i hx ha) rfl)) (Ab hF.1 Aa) (nd1 _) (Ab apL Aa) fun s1 I1 H1=>ιp (h s1 I1.aft ?_)
  rw [ez]
  exact⟨k4 k _,ta,_,.inl ⟨H1 _ m0,by decide⟩⟩
theorem rs70f(W:Ae w)(hA:Ar A 100)(S:Ak w ext st)(apL:lkX w ext L=none)(hx:x.length<1000)(ha:a<x.length){k:Nat→Nat}{ta:Nat}{v4 v5 v6:Value}(hF:st.heap.get? L=some (rF7 w k v4 v5 v6 x so du a t1 ta))(h0:0<a)(h2:EB (AW x a (a+2))=false)(h1:G9 (sgn x a)=false)(hw:decide (min (a+2) x.length-a=x.length)=false)
  (h:∀ s',Aft [L] st s'→Fr1 w x so du a t1 (At x a) (s'.heap.get? L)→Q .next s'):wpAny (model pr2 w) A (execs ((rdB w).take 1) (Af w 518 L)) Q E st:=by
 have ez:At x a=0:=by unfold At; rw [if_neg (by rw [h2]; decide),if_neg (by rw [h1]; decide)]
 refine Au ?_
 ·refine uL W S hA rfl (qS70f_v _ _ _ _ _ L so du k (Fo v4 v5 v6) a ta t1 x (sgn x a) (AW x a (a+2))) (ζ7 (DD S.new (eqS (sgn x a)) (CR _ _ (ζ2 ⟨_,_,rfl⟩ ⟨_,_,rfl⟩)) (FU.trans h1)) (B3 S.new .none (.int 2 _) rfl (le4 ..)) (BS S.new (ha) (ω47 hx)) (DD S.new (eqS (AW x a (a+2))) (CR _ _ (ζ2 ⟨_,_,rfl⟩ ⟨_,_,rfl⟩)) (FU.trans h2)) (B3 S.new (.int 2 _) .none (Fx ..) (le4 ..)) (Ea S.new (ω8h ha) (ω8b hx) hw rfl) (Bj (a:=a) (b:=2) S.new (ω8i hx ha) rfl)) (Ab hF Aa) (nd1 _) (Ab apL Aa) fun s1 I1 H1=>ιp (h s1 I1.aft ?_)
  rw [ez]
  exact⟨k,ta,_,.inr ⟨v5,v6,H1 _ m0,h0⟩⟩
theorem rs71f(W:Ae w)(hA:Ar A 100)(S:Ak w ext st)(apL:lkX w ext L=none)(hx:x.length<1000)(ha:a<x.length){k:Nat→Nat}{ta:Nat}{v4 v5 v6:Value}(hF:st.heap.get? L=some (rF7 w k v4 v5 v6 x so du a t1 ta))(h0:0<a)(h2:EB (AW x a (a+2))=false)(h1:G9 (sgn x a)=true)(hw:decide (min (a+2) x.length-a=x.length)=false)
  (h:∀ s',Aft [L] st s'→Fr1 w x so du a t1 (At x a) (s'.heap.get? L)→Q .next s'):wpAny (model pr2 w) A (execs ((rdB w).take 1) (Af w 518 L)) Q E st:=by
 have ez:At x a=1:=by unfold At; rw [if_neg (by rw [h2]; decide),if_pos h1]
 refine Au ?_
 ·refine uL W S hA rfl (qS71f_v _ _ _ _ _ L so du k (Fo v4 v5 v6) a ta t1 x (sgn x a) (AW x a (a+2))) (ζ7 (DD S.new (eqS (sgn x a)) (CR _ _ (ζ2 ⟨_,_,rfl⟩ ⟨_,_,rfl⟩)) (FU.trans h1)) (B3 S.new .none (.int 2 _) rfl (le4 ..)) (BS S.new (ha) (ω47 hx)) (DD S.new (eqS (AW x a (a+2))) (CR _ _ (ζ2 ⟨_,_,rfl⟩ ⟨_,_,rfl⟩)) (FU.trans h2)) (B3 S.new (.int 2 _) .none (Fx ..) (le4 ..)) (Ea S.new (ω8h ha) (ω8b hx) hw rfl) (Bj (a:=a) (b:=2) S.new (ω8i hx ha) rfl)) (Ab hF Aa) (nd1 _) (Ab apL Aa) fun s1 I1 H1=>ιp (h s1 I1.aft ?_)
  rw [ez]
  exact⟨k,ta,_,.inr ⟨v5,v6,H1 _ m0,h0⟩⟩
theorem rs72f(W:Ae w)(hA:Ar A 100)(S:Ak w ext st)(apL:lkX w ext L=none)(hx:x.length<1000)(ha:a<x.length){k:Nat→Nat}{ta:Nat}{v4 v5 v6:Value}(hF:st.heap.get? L=some (rF7 w k v4 v5 v6 x so du a t1 ta))(h0:0<a)(h2:EB (AW x a (a+2))=true)(hw:decide (min (a+2) x.length-a=x.length)=false)
  (h:∀ s',Aft [L] st s'→Fr1 w x so du a t1 (At x a) (s'.heap.get? L)→Q .next s'):wpAny (model pr2 w) A (execs ((rdB w).take 1) (Af w 518 L)) Q E st:=by
 have ez:At x a=2:=by unfold At; rw [if_pos h2]
 refine Au ?_
 ·refine uL W S hA rfl (qS72f_v _ _ _ _ _ L so du k (Fo v4 v5 v6) a ta t1 x (AW x a (a+2))) (ζ4 (DD S.new (eqS (AW x a (a+2))) (CR _ _ (ζ2 ⟨_,_,rfl⟩ ⟨_,_,rfl⟩)) (FU.trans h2)) (B3 S.new (.int 2 _) .none (Fx ..) (le4 ..)) (Ea S.new (ω8h ha) (ω8b hx) hw rfl) (Bj (a:=a) (b:=2) S.new (ω8i hx ha) rfl)) (Ab hF Aa) (nd1 _) (Ab apL Aa) fun s1 I1 H1=>ιp (h s1 I1.aft ?_)
  rw [ez]
  exact⟨k,ta,_,.inr ⟨v5,v6,H1 _ m0,h0⟩⟩
theorem rd_size(W:Ae w)(hA:Ar A 100)(S:Ak w ext st)(apL:lkX w ext L=none)(hx:x.length<1000)(ha:a<x.length)(hF:Fr0 w x so du a t1 (st.heap.get? L))
  (h:∀ s',Aft [L] st s'→Fr1 w x so du a t1 (At x a) (s'.heap.get? L)→Q .next s'):wpAny (model pr2 w) A (execs ((rdB w).take 1) (Af w 518 L)) Q E st:=by
 obtain⟨k,ta,hF | ⟨v4,v5,v6,hF,h0⟩⟩:=hF
 ·cases h2:EB (AW x a (a+2)) with
  | true=>cases hw:decide (min (a+2) x.length-a=x.length) with
   | true=>exact rs42w W hA S apL hx ha hF h2 hw h
   | false=>exact rs42f W hA S apL hx ha hF h2 hw h
  | false=>cases h1:G9 (sgn x a) with
   | true=>cases hw:decide (min (a+2) x.length-a=x.length) with
    | true=>exact rs41w W hA S apL hx ha hF h2 h1 hw h
    | false=>exact rs41f W hA S apL hx ha hF h2 h1 hw h
   | false=>exact absurd (by unfold At; rw [if_neg (by rw [h2]; decide),if_neg (by rw [h1]; decide)]) hF.2
 ·have hw:decide (min (a+2) x.length-a=x.length)=false:=by simp; exact ω8j ha h0
  cases h2:EB (AW x a (a+2)) with
  | true=>exact rs72f W hA S apL hx ha hF h0 h2 hw h
  | false=>cases h1:G9 (sgn x a) with
   | true=>exact rs71f W hA S apL hx ha hF h0 h2 h1 hw h
   | false=>exact rs70f W hA S apL hx ha hF h0 h2 h1 hw h
end
theorem HS{w:World}{ext:Addr→Option Obj}{so sq se:Nat}{ss l:List Value}(h1:lkX w ext so=some (lst ss se))(h2:lkX w ext sq=some (AQ l)):so≠sq:=fun e=>by
 rw [e,h2] at h1
 have h3:=congrArg Obj.cls (Option.some.inj h1)
 injection h3 with h4
 exact absurd h4 (by decide)
section
variable{w:World}{ext:Addr→Option Obj}{A:Around}{st:Shared}{L so sq du a t1 se dz:Nat}{x:Str}{ss ds:List Value}{rv cv:Value}
theorem rd_one(W:Ae w)(hA:Ar A 100)(S:Ak w ext st)(apL:lkX w ext L=none)(apD:lkX w ext du=none)(ne:L≠du)(hx:x.length<1000)(ha:a<x.length)(hso:lkX w ext so=some (lst ss se))(hsq:lkX w ext sq=some (AQ [rv,cv]))(hs:ss[a]? = some (.ref sq))(hl:ds.length≤2000)(hF:Fr1 w x so du a t1 0 (st.heap.get? L))(hD:st.heap.get? du=some (lst ds dz))
  (h:∀ s' b k1 k2,Aft [L,du] st s'→Fr0 w x so du (a+1) t1 (s'.heap.get? L)→s'.heap.get? du=some (lst (ds++[.ref b]) (dz+1))→st.heap.objs.size≤b→s'.heap.get? b=some (AQ [.str Er k1,.str (sgn x a) k2,rv,cv])→Q .next s') :
  wpAny (model pr2 w) A (execs (rdI w).2.1 (Af w 518 L)) Q E st:=by
 obtain⟨k,ta,tz,hF | ⟨v5,v6,hF,h0⟩⟩:=hF
 ·exact absurd rfl hF.2
 have hsz:=sZ
 have ro:∀ p∈([(so,lst ss se),(sq,AQ [rv,cv])]:Led),lkX w ext p.1=some p.2:=Ab hso (Ab hsq Aa)
 refine Au ?_
 refine Al (g:=Ac pr2 w _ _ _) (Ao (t:=st.toks) (ro:=2) W S hA (by decide)) rfl (qO_v _ _ _ _ _ L so sq du k (Fo (.int (0:Nat) tz) v5 v6) a ta t1 se dz x (sgn x a) ss ds rv cv)
  (ζ5 (Bj (a:=a) (b:=1) S.new (ω8k hx ha) rfl) (AN S.new (show 2≤3 by decide) (ω0c hl hsz)) (GB S.new (by simp) (by simp) (by show 2+2≤sizeLine; exact ω8l hsz)) (DC S.new hs (ω8m hx ha)) (BS S.new (ha) (ω47 hx)))
  (Inv.MH S (pre:=[(L,rF7 w k (.int (0:Nat) tz) v5 v6 x so du a t1 ta),(du,lst ds dz)]) ro (nd2 (HS hso hsq)) (ζ2 hF hD) (nd2 ne) (ζ2 apL apD)) fun s1 I1 H1=>ιp (h s1 _ _ _ I1.aft ⟨k,_,.inr ⟨_,v5,v6,H1 _ m0,Nat.succ_pos _⟩⟩ (H1 _ m1) (ιA ..) (H1 _ m2))
theorem Fy(ha:a<x.length):a+At x a≤x.length:=by
 unfold At
 split
 ·rename_i h
  have e:(AW x a (a+2)).cps.toList.length=2:=by
   unfold EB at h
   rcases Bool.or_eq_true _ _▸h with h | h <;> rw [←eq_of_beq h] <;> rfl
  have hl:x.cps.toList.length=x.length:=Array.length_toList
  have:((x.cps.toList.drop a).take (a+2-a)).length=2:=e
  rw [List.length_take,List.length_drop,hl] at this
  exact ω8n this
 ·split <;> omega
theorem rd_close(W:Ae w)(hA:Ar A 190)(S:Ak w ext st)(apL:lkX w ext L=none)(hx:x.length<1000){z:Nat}(hz:a+z≤x.length)(hF:Fr1 w x so du a t1 z (st.heap.get? L))
  (h:∀ s',Aft [L] st s'→Fr2 w x so du a t1 z (AM x (a+z)) (s'.heap.get? L)→Q .next s') :
  wpAny (model pr2 w) A (execs ((Da w).take 1) (Af w 518 L)) Q E st:=by
 refine Au ?_
 have hA6:=hA.le (show 100≤190 by decide)
 obtain⟨k,ta,tz,hF | ⟨v5,v6,hF,h0⟩⟩:=hF
 ·refine uC W S hA6 (qC5_v _ _ _ _ _ L so du k a z ta tz t1 x) rfl (Ab (Bj S.new (ω8p hx hz) rfl) Aa) (Ab hF.1 Aa) (nd1 _) (Ab apL Aa) fun s1 I1 H1=>?_
  have S1:=S.aft I1.aft (Ab apL Aa)
  refine J1 W (hA.le (by decide)) S1 hz hx fun s2 tk a2=>?_
  have S2:=S1.aft a2 Aa
  rw [qC5_kk]
  refine uL W S2 hA6 rfl (qCk5_v _ _ _ _ _ L so du k (fun _=>.none) a (AM x (a+z)) z ta tk tz t1 x s2.heap.objs.size s2.toks) Aa (Ab (a2.keep _ _ (H1 _ m0) (nomatch ·)) Aa) (nd1 _) (Ab apL Aa) fun s3 I3 H3=>ιp (h s3 ((I1.aft.trans (a2.mono Aa)).trans I3.aft) ⟨k5 k _,ta,tz,tk,.inl (H3 _ m0)⟩)
 ·refine uC W S hA6 (qC7_v _ _ _ _ _ L so du k (Fo .none v5 v6) a z ta tz t1 x) rfl (Ab (Bj S.new (ω8p hx hz) rfl) Aa) (Ab hF Aa) (nd1 _) (Ab apL Aa) fun s1 I1 H1=>?_
  have S1:=S.aft I1.aft (Ab apL Aa)
  refine J1 W (hA.le (by decide)) S1 hz hx fun s2 tk a2=>?_
  have S2:=S1.aft a2 Aa
  refine uL W S2 hA6 rfl (qCk7_v _ _ _ _ _ L so du k (Fo .none v5 v6) a (AM x (a+z)) z ta tk tz t1 x s2.heap.objs.size s2.toks) Aa (Ab (a2.keep _ _ (H1 _ m0) (nomatch ·)) Aa) (nd1 _) (Ab apL Aa) fun s3 I3 H3=>ιp (h s3 ((I1.aft.trans (a2.mono Aa)).trans I3.aft) ⟨k,ta,tz,tk,.inr ⟨v6,H3 _ m0⟩⟩)
end
section
variable{w:World}{ext:Addr→Option Obj}{A:Around}{st:Shared}{L so sq du a t1 se dz:Nat}{x:Str}{ss ds:List Value}{rv cv:Value}
theorem rd_wrong(W:Ae w)(hA:Ar A 190)(S:Ak w ext st)(apL:lkX w ext L=none)(hx:x.length<1000){z c:Nat}(hz:a+z≤c)(hc:c≤x.length)(hF:Fr2 w x so du a t1 z c (st.heap.get? L))
  (h:∀ s' b tk,Aft [L] st s'→Fr3 w x so du a t1 c b (s'.heap.get? L)→st.heap.objs.size≤b→s'.heap.get? b=some (lst ((BX x (a+z) c).toList.map fun p=>.int (p:Nat) tk) 0)→Q .next s') :
  wpAny (model pr2 w) A (execs (((Da w).drop 1).take 1) (Af w 518 L)) Q E st:=by
 refine Au ?_
 have hA6:=hA.le (show 100≤190 by decide)
 obtain⟨k,ta,tz,tc,hF | ⟨v6,hF⟩⟩:=hF
 ·have lL:=ιH hF
  refine uC W S hA6 (qW6_v _ _ _ _ _ L so du k a c z ta tc tz t1 x) rfl (Ab (Bj S.new (ω8q hx hz hc) rfl) Aa) (Ab hF Aa) (nd1 _) (Ab apL Aa) fun s1 I1 H1=>?_
  have S1:=S.aft I1.aft (Ab apL Aa)
  have a1:Aft [L] st s1:=I1.aft
  refine IJ W (hA.le (by decide)) S1 hz hc hx fun s2 b tk a2 hb hB=>?_
  have S2:=S1.aft a2 Aa
  rw [qW6_kk]
  have nb:b≠L:=fun e=>Nat.lt_irrefl _ (ιL lL (ιT a1.size (e▸hb)))
  refine uL W S2 hA6 rfl (qWk6_v _ _ _ _ _ L so du b k (fun _=>.none) a c z ta tc tz t1 x s2.heap.objs.size s2.toks) Aa (Ab (a2.keep _ _ (H1 _ m0) (nomatch ·)) Aa) (nd1 _) (Ab apL Aa) fun s3 I3 H3=>ιp (h s3 b tk ((a1.trans (a2.mono Aa)).trans I3.aft) ⟨k6 k _,ta,tc,_,H3 _ m0⟩ (ιT a1.size hb) (I3.aft.keep _ _ hB fun q=>nb (ιS q)))
 ·have lL:=ιH hF
  refine uC W S hA6 (qW7_v _ _ _ _ _ L so du k (Fo .none .none v6) a c z ta tc tz t1 x) rfl (Ab (Bj S.new (ω8q hx hz hc) rfl) Aa) (Ab hF Aa) (nd1 _) (Ab apL Aa) fun s1 I1 H1=>?_
  have S1:=S.aft I1.aft (Ab apL Aa)
  have a1:Aft [L] st s1:=I1.aft
  refine IJ W (hA.le (by decide)) S1 hz hc hx fun s2 b tk a2 hb hB=>?_
  have S2:=S1.aft a2 Aa
  have nb:b≠L:=fun e=>Nat.lt_irrefl _ (ιL lL (ιT a1.size (e▸hb)))
  refine uL W S2 hA6 rfl (qWk7_v _ _ _ _ _ L so du b k (Fo .none .none v6) a c z ta tc tz t1 x s2.heap.objs.size s2.toks) Aa (Ab (a2.keep _ _ (H1 _ m0) (nomatch ·)) Aa) (nd1 _) (Ab apL Aa) fun s3 I3 H3=>ιp (h s3 b tk ((a1.trans (a2.mono Aa)).trans I3.aft) ⟨k,ta,tc,_,H3 _ m0⟩ (ιT a1.size hb) (I3.aft.keep _ _ hB fun q=>nb (ιS q)))
end
theorem D9{M:Model}{A:Around}{e:Expr}{env:Env}{Q:Value→Shared→Prop}{s:Shared}(h:wpAny M A (CW e env) (Jv Q) E s):wpAny M A (eval e env) Q E s:=CB (DH e env▸h)
section
variable{w:World}{ext:Addr→Option Obj}{A:Around}{st:Shared}{L so sq du a t1 se dz:Nat}{x:Str}{ss ds:List Value}{rv cv:Value}
theorem rd_ne_test(W:Ae w)(hA:Ar A 100)(S:Ak w ext st)(apL:lkX w ext L=none){c b:Nat}{vs:List Value}(nb:b≠L)(hF:Fr3 w x so du a t1 c b (st.heap.get? L))(hB:st.heap.get? b=some (lst vs 0)){Q:Bool→Shared→Prop}
  (h:∀ s',Aft [L] st s'→Fr3 w x so du a t1 c b (s'.heap.get? L)→Q (!vs.isEmpty) s'):wpAny (model pr2 w) A (isTrue (DX w).1 (Af w 518 L) (eval (DX w).1 (Af w 518 L))) Q E st:=by
 obtain⟨k,ta,tc,v4,hF⟩:=hF
 have hu:A.units<cLine:=by have:=hA.units; exact ω8r this
 rw [rd_ne]
 refine wpAny_isTrue_Compare1 (D9 ?_)
 refine uL W S hA rfl (qV1_v _ _ _ _ _ L so du b k (fun _=>v4) a c ta tc t1 x) Aa (Ab hF Aa) (nd1 _) (Ab apL Aa) fun s1 I1 H1=>ιp ?_
 have a1:Aft [L] st s1:=I1.aft
 have S1:=S.aft a1 (Ab apL Aa)
 have hB1:=a1.keep _ _ hB fun q=>nb (ιS q)
 show wpAny (model pr2 w) A (eval _ _) _ _ s1
 refine D9 ?_
 refine uL W S1 hA rfl (qV2_v _ _ _ _ _ L) Aa Aa ιN Aa fun s2 I2 H2=>ιp ?_
 have a2:Aft [] s1 s2:=I2.aft
 have hB2:=a2.keep _ _ hB1 (nomatch ·)
 have hE:=H2 _ m0
 have a3:Aft [L] st s2:=a1.trans (a2.mono fun _ q=>nomatch q)
 have fin:Q (!vs.isEmpty) s2:=h s2 a3 ⟨k,ta,tc,v4,a2.keep _ _ (H1 _ m0) (nomatch ·)⟩
 show wpAny (model pr2 w) A (compareOp .NotEq (.ref b) (.ref s1.heap.objs.size)) _ _ s2
 show wpAny (model pr2 w) A (richCompare .NotEq (.ref b) (.ref s1.heap.objs.size)) _ _ s2
 cases vs with
 | nil=>exact RcNeAt.lists (items:=⟨[]⟩) (items2:=⟨[]⟩) (e:=fun _=>true) ⟨_,hB2,rfl,_,rfl⟩ ⟨_,hE,rfl,_,rfl⟩ rfl hu (fun j h1=>absurd h1 (Nat.not_lt_zero j)) pr2 w _ _ (wpAny_truthy_bool fin)
 | cons y r=>exact RcNeAt.lists_lengths (items:=⟨y::r⟩) (items2:=⟨[]⟩) ⟨_,hB2,rfl,_,rfl⟩ ⟨_,hE,rfl,_,rfl⟩ (by simp) hu pr2 w _ _ (wpAny_truthy_bool fin)
theorem rd_end_test(W:Ae w)(hA:Ar A 100)(S:Ak w ext st)(apL:lkX w ext L=none)(hx:x.length<1000){c b:Nat}(hF:Fr3 w x so du a t1 c b (st.heap.get? L)){Q:Bool→Shared→Prop}
  (h:∀ s',Aft [L] st s'→Fr3 w x so du a t1 c b (s'.heap.get? L)→Q (((c:Nat):Int) == (x.length:Nat)) s'):wpAny (model pr2 w) A (isTrue (Fv w).1 (Af w 518 L) (eval (Fv w).1 (Af w 518 L))) Q E st:=by
 obtain⟨k,ta,tc,v4,hF⟩:=hF
 refine B9 ?_
 refine uL W S hA rfl (qJ_v _ _ _ _ _ L so du b k (fun _=>v4) a c ta tc t1 x (((c:Nat):Int) == (x.length:Nat))) (ζ2 (Kn S.new rfl) (E1 S.new (ω47 hx))) (Ab hF Aa) (nd1 _) (Ab apL Aa) fun s1 I1 H1=>ιp (h s1 I1.aft ⟨k,ta,tc,v4,H1 _ m0⟩)
theorem rd_ref2(W:Ae w)(hA:Ar A 100)(S:Ak w ext st)(apL:lkX w ext L=none)(apD:lkX w ext du=none){c b p tp:Nat}(apB:lkX w ext b=none)(nd:[L,du,b].Nodup)(hp:p<1000)(hso:lkX w ext so=some (lst ss se))(hsq:lkX w ext sq=some (AQ [rv,cv]))(hs:ss[p]? = some (.ref sq))(hl:ds.length≤2000)(hF:Fr3 w x so du a t1 c b (st.heap.get? L))(hD:st.heap.get? du=some (lst ds dz))(hB:st.heap.get? b=some (lst [.int (p:Nat) tp] 0))
  (h:∀ s' r q k1,Aft [L,du,b] st s'→st.heap.objs.size≤q→st.heap.objs.size≤r→s'.heap.get? r=some (lst (ds++[.ref q]) 0)→s'.heap.get? q=some (AQ [.str JD k1,rv,cv])→Q (.ret (.ref r)) s'):wpAny (model pr2 w) A (execs (DX w).2.1 (Af w 518 L)) Q E st:=by
 obtain⟨k,ta,tc,v4,hF⟩:=hF
 have hsz:=sZ
 have ro:∀ p∈([(so,lst ss se),(sq,AQ [rv,cv])]:Led),lkX w ext p.1=some p.2:=Ab hso (Ab hsq Aa)
 refine Au ?_
 refine Al (g:=Ac pr2 w _ _ _) (Ao (t:=st.toks) (ro:=2) W S hA (by decide)) rfl (qX_v _ _ _ _ _ L so sq du b k (fun _=>v4) a c p ta tc tp t1 se dz x ss ds rv cv)
  (ζ4 (GD S.new (by show ds.length+1≤sizeLine; exact ω8s hl hsz)) (GB S.new (by simp) (by simp) (by show 1+2≤sizeLine; exact ω8t hsz)) (DC S.new hs (ω47 hp)) (DC (k:=0) S.new rfl (by decide)))
  (Inv.MH S (pre:=[(L,rF7 w k v4 (.int (c:Nat) tc) (.ref b) x so du a t1 ta),(du,lst ds dz),(b,lst [.int (p:Nat) tp] 0)]) ro (nd2 (HS hso hsq)) (ζ3 hF hD hB) nd (ζ3 apL apD apB)) fun s1 I1 H1=>ιp (h s1 _ _ _ I1.aft (ιA ..) (ιA ..) (H1 _ m1) (H1 _ m0))
theorem rd_ref1(W:Ae w)(hA:Ar A 100)(S:Ak w ext st)(apL:lkX w ext L=none)(apD:lkX w ext du=none){c b:Nat}(ne:L≠du)(hso:lkX w ext so=some (lst ss se))(hsq:lkX w ext sq=some (AQ [rv,cv]))(hl:ds.length≤2000)(hF:Fr3 w x so du a t1 c b (st.heap.get? L))(hD:st.heap.get? du=some (lst ds dz))
  (h:∀ s' r q k1,Aft [L,du] st s'→st.heap.objs.size≤q→st.heap.objs.size≤r→s'.heap.get? r=some (lst (ds++[.ref q]) 0)→s'.heap.get? q=some (AQ [.str JD k1])→Q (.ret (.ref r)) s'):wpAny (model pr2 w) A (execs (Fv w).2.1 (Af w 518 L)) Q E st:=by
 obtain⟨k,ta,tc,v4,hF⟩:=hF
 have hsz:=sZ
 have ro:∀ p∈([(so,lst ss se),(sq,AQ [rv,cv])]:Led),lkX w ext p.1=some p.2:=Ab hso (Ab hsq Aa)
 refine Au ?_
 refine Al (g:=Ac pr2 w _ _ _) (Ao (t:=st.toks) (ro:=2) W S hA (by decide)) rfl (qY_v _ _ _ _ _ L so sq du b k (fun _=>v4) a c ta tc t1 se dz x ss ds rv cv)
  (Ab (GD S.new (by show ds.length+1≤sizeLine; exact ω8s hl hsz)) Aa)
  (Inv.MH S (pre:=[(L,rF7 w k v4 (.int (c:Nat) tc) (.ref b) x so du a t1 ta),(du,lst ds dz)]) ro (nd2 (HS hso hsq)) (ζ2 hF hD) (nd2 ne) (ζ2 apL apD)) fun s1 I1 H1=>ιp (h s1 _ _ _ I1.aft (ιR _) (ιA ..) (H1 _ m1) (H1 _ m0))
end
section
variable{w:World}{ext:Addr→Option Obj}{A:Around}{st:Shared}{L so sq du a t1 se dz:Nat}{x:Str}{ss ds:List Value}{rv cv:Value}
theorem rd_string(W:Ae w)(hA:Ar A 100)(S:Ak w ext st)(apL:lkX w ext L=none)(apD:lkX w ext du=none){c b:Nat}(ne:L≠du)(hx:x.length<1000)(ha:a<x.length)(hc:c<x.length)(hso:lkX w ext so=some (lst ss se))(hsq:lkX w ext sq=some (AQ [rv,cv]))(hs:ss[a]? = some (.ref sq))(hl:ds.length≤2000)(hF:Fr3 w x so du a t1 c b (st.heap.get? L))(hD:st.heap.get? du=some (lst ds dz))
  (h:∀ s' q k1 k2,Aft [L,du] st s'→Fr0 w x so du (c+1) t1 (s'.heap.get? L)→s'.heap.get? du=some (lst (ds++[.ref q]) (dz+1))→st.heap.objs.size≤q→s'.heap.get? q=some (AQ [.str B0 k1,.str (AW x a (c+1)) k2,rv,cv])→Q .next s') :
  wpAny (model pr2 w) A (execs ((Da w).drop 4) (Af w 518 L)) Q E st:=by
 obtain⟨k,ta,tc,v4,hF⟩:=hF
 have hsz:=sZ
 have ro:∀ p∈([(so,lst ss se),(sq,AQ [rv,cv])]:Led),lkX w ext p.1=some p.2:=Ab hso (Ab hsq Aa)
 have I0:=Inv.MH S (pre:=[(L,rF7 w k v4 (.int (c:Nat) tc) (.ref b) x so du a t1 ta),(du,lst ds dz)]) ro (nd2 (HS hso hsq)) (ζ2 hF hD) (nd2 ne) (ζ2 apL apD)
 refine Au ?_
 cases hw:decide (min (c+1) x.length-a=x.length) with
 | false=>
  refine Al (g:=Ac pr2 w _ _ _) (Ao (t:=st.toks) (ro:=2) W S hA (by decide)) rfl (qZf_v _ _ _ _ _ L so sq du b k (fun _=>v4) a c ta tc t1 se dz x (AW x a (c+1)) ss ds rv cv)
   (ζ6 (Bj (a:=c) (b:=1) S.new (ω8k hx hc) rfl) (AN S.new (show 2≤3 by decide) (ω0c hl hsz)) (GB S.new (by simp) (by simp) (by show 2+2≤sizeLine; exact ω8l hsz)) (DC S.new hs (ω8m hx ha)) (Ea S.new (ω8h ha) (ω8b hx) hw rfl) (Bj (a:=c) (b:=1) S.new (ω8k hx hc) rfl))
   I0 fun s1 I1 H1=>ιp (h s1 _ _ _ I1.aft ⟨k,_,.inr ⟨_,_,_,H1 _ m0,Nat.succ_pos _⟩⟩ (H1 _ m1) (ιA ..) (H1 _ m2))
 | true=>
  refine Al (g:=Ac pr2 w _ _ _) (Ao (t:=st.toks) (ro:=2) W S hA (by decide)) rfl (qZw_v _ _ _ _ _ L so sq du b k (fun _=>v4) a c ta tc t1 se dz x (AW x a (c+1)) ss ds rv cv)
   (ζ6 (Bj (a:=c) (b:=1) S.new (ω8k hx hc) rfl) (AN S.new (show 2≤3 by decide) (ω0c hl hsz)) (GB S.new (by simp) (by simp) (by show 2+2≤sizeLine; exact ω8l hsz)) (DC S.new hs (ω8m hx ha)) (Ea S.new (ω8h ha) (ω8b hx) hw rfl) (Bj (a:=c) (b:=1) S.new (ω8k hx hc) rfl))
   I0 fun s1 I1 H1=>ιp (h s1 _ _ _ I1.aft ⟨k,_,.inr ⟨_,_,_,H1 _ m0,Nat.succ_pos _⟩⟩ (H1 _ m1) (ιA ..) (H1 _ m2))
end
theorem Hr{p:Nat→Bool}:∀ {n a r:Nat},Bg p n a=some r→a≤r∧r<a+n
 | 0,_,_,h=>by cases h
 | n+1,a,r,h=>by
  rw [Bg] at h
  split at h
  ·cases h; exact ω8u
  ·have:=Hr h; exact ω8v this
theorem Hu{x:Str}{l:Nat}(hl:l≤x.length):l≤AM x l∧AM x l≤x.length:=by
 unfold AM
 cases h:Bg (BN x l) (x.length-l) l with
 | none=>exact⟨hl,ιR _⟩
 | some r=>have:=Hr h; simp only [Option.getD_some]; exact ω8w this
theorem ID{x:Str}{i:Nat}(h:x.length≤i):HL x i=true:=by
 have e:AW x i (i+1)=⟨#[]⟩:=by
  unfold AW
  have hl:x.cps.toList.length=x.length:=Array.length_toList
  rw [List.drop_eq_nil_of_le (ω3o h hl),List.take_nil]
 unfold HL
 rw [e]
 kernel_rfl
theorem FP{p:Nat→Bool}:∀ {n a r:Nat},Bg p n a=some r→p r=true
 | 0,_,_,h=>by cases h
 | n+1,a,r,h=>by
  rw [Bg] at h
  split at h
  ·rename_i q; cases h; exact q
  ·exact FP h
theorem GP{x:Str}{l c p:Nat}(h:BX x l c=some p):p<x.length:=by
 unfold BX at h
 cases q:Bg (Bz x l) (c-l) l with
 | none=>rw [q] at h; cases h
 | some r=>
  rw [q] at h
  have e:r+1=p:=by simpa using h
  have hw:=FP q
  unfold Bz at hw
  rw [←e]
  refine Nat.lt_of_not_le fun hle=>?_
  rw [ID hle] at hw
  simp at hw
theorem Bk{c:Cfg}{lo:Nat}{h h':Heap}{gs:List Value}{l:List Dw}(G:BI c lo h gs l)(k:B7 h h'):BI c lo h' gs l:=⟨G.1,fun i tk hi=>by
 obtain⟨a,k1,k2,h1,h2,h3⟩:=G.2 i tk hi
 exact⟨a,k1,k2,h1,h2,k a _ h3 rfl⟩⟩
section
variable{w:World}{x:Str}{so du a t1 z c b L:Nat}{st s':Shared}
theorem Fr0.notR(h:Fr0 w x so du a t1 (st.heap.get? L)):BJ st.heap L:=by
 obtain⟨k,ta,h | ⟨v4,v5,v6,h,_⟩⟩:=h
 ·exact BJ.of h.1 rfl
 ·exact BJ.of h rfl
theorem Fr1.notR(h:Fr1 w x so du a t1 z (st.heap.get? L)):BJ st.heap L:=by
 obtain⟨k,ta,tz,h | ⟨v5,v6,h,_⟩⟩:=h
 ·exact BJ.of h.1 rfl
 ·exact BJ.of h rfl
theorem Fr2.notR(h:Fr2 w x so du a t1 z c (st.heap.get? L)):BJ st.heap L:=by
 obtain⟨k,ta,tz,tc,h | ⟨v6,h⟩⟩:=h
 ·exact BJ.of h rfl
 ·exact BJ.of h rfl
theorem Fr3.notR(h:Fr3 w x so du a t1 c b (st.heap.get? L)):BJ st.heap L:=by
 obtain⟨k,ta,tc,v4,h⟩:=h
 exact BJ.of h rfl
theorem Di(a1:Aft [L] st s')(h:BJ st.heap L):B7 st.heap s'.heap:=a1.keepR (Ab h Aa)
theorem Jq{ds:List Value}{dz:Nat}(a1:Aft [L,du] st s')(h:BJ st.heap L)(hD:st.heap.get? du=some (lst ds dz)):B7 st.heap s'.heap:=a1.keepR (ζ2 h (BJ.of hD rfl))
end
theorem exec_body{w:World}{M:Model}{A:Around}{env:Env}{s:Shared}(h:wpAny M A (execs ((rdB w).take 1++[.If (rdI w).1 (rdI w).2.1 (Da w) (rdI w).2.2.2]) env) Q E s):wpAny M A (execs (rdB w) env) Q E s:=by
 rw [rd_body]; exact h
theorem exec_else{w:World}{M:Model}{A:Around}{env:Env}{s:Shared}(h:wpAny M A (execs ((Da w).take 1++(((Da w).drop 1).take 1++(.If (DX w).1 (DX w).2.1 [] (DX w).2.2.2::.If (Fv w).1 (Fv w).2.1 [] (Fv w).2.2.2::(Da w).drop 4))) env) Q E s):wpAny M A (execs (Da w) env) Q E s:=by
 rw [rd_else]; exact h
section
variable{w:World}{ext:Addr→Option Obj}{c:Cfg}{L so du t1 se lo:Nat}{x:Str}{ss:List Value}
theorem rd_loop(W:Ae w)(hx:x.length≤900)(apL:lkX w ext L=none)(apD:lkX w ext du=none)(ne:L≠du)(hso:lkX w ext so=some (lst ss se))(hsp:∀ i,i<x.length→∃ q,ss[i]? = some (.ref q)∧lkX w ext q=some (AQ [c.ls i 3,c.ls i 0])){A:Around}(hA:Ar A 200) :
  ∀ (n a dz:Nat) (ds:List Value) (l:List Dw) (st:Shared),x.length<a+n→a≤x.length→Ak w ext st→Fr0 w x so du a t1 (st.heap.get? L)→st.heap.get? du=some (lst ds dz)→BI c lo st.heap ds l→lo≤st.heap.objs.size→ds.length≤a→
   (∀ s' r gs gs2,Aft [L,du] st s'→s'.heap.get? r=some (lst (gs++gs2) 0)→BI c lo s'.heap gs (l++(Bd x n a).1)→Cy c s'.heap gs2 (Bd x n a).2→R (.ok (.ret (.ref r))) s')→
   (∀ s' gs e a',Aft [L,du] st s'→Fr0 w x so du a' t1 (s'.heap.get? L)→s'.heap.get? du=some (lst gs e)→BI c lo s'.heap gs (l++(Bd x n a).1)→(Bd x n a).2=none→x.length≤a'→R (.ok .next) s')→
   codeAny (model pr2 w) A (.whileLoop (rdT w) (rdB w) [] (Af w 518 L)) R st:=by
 intro n
 induction n with
 | zero=>intro a dz ds l st h1 h2; omega
 | succ n ih=>
  intro a dz ds l st h1 h2 S hF hD hG hlo hds hRet hEnd
  have hx1:x.length<1000:=ω8x hx
  refine while_parts ?_
  obtain⟨hroom,hfr⟩:=CT (test:=rdT w) (body:=rdB w) (orelse:=[]) (env:=Af w 518 L) (hA.le (show 199+1≤200 by decide))
  have hr1:=hroom.le (show 100≤199 by decide)
  have hr2:=hroom.le (show 190≤199 by decide)
  refine rd_test W hr1 S apL hx1 hF fun s1 a1 F1=>?_
  have K1:=Di a1 hF.notR
  have S1:=S.aft a1 (Ab apL Aa)
  have kD:∀ {s s':Shared} {o:Obj},Aft [L] s s'→s.heap.get? du=some o→s'.heap.get? du=some o:=fun a h=>a.keep _ _ h fun q=>ne (ιS q).symm
  have D1:=kD a1 hD
  by_cases ha:a<x.length
  ·rw [decide_eq_true ha,if_pos rfl]
   refine exec_body (Bm (rd_size W hr1 S1 apL hx1 ha F1 fun s2 a2 F2=>?_))
   have K2:=K1.trans (Di a2 F1.notR)
   have S2:=S1.aft a2 (Ab apL Aa)
   have D2:=kD a2 D1
   show wpAny _ _ (execs [_] _) _ _ s2
   refine wpAny_execs_cons (wpAny_If (rd_zero W hr1 S2 apL F2 fun s3 a3 F3=>?_))
   have K3:=K2.trans (Di a3 F2.notR)
   have S3:=S2.aft a3 (Ab apL Aa)
   have D3:=kD a3 D2
   have a13:Aft [L,du] st s3:=((a1.trans a2).trans a3).mono fun y hy=>by rw [ιS hy]; exact m0
   obtain⟨q,hq1,hq2⟩:=hsp a ha
   by_cases hz:At x a=0
   ·rw [hz] at F3 ⊢
    rw [if_pos (by rfl)]
    refine rd_one W hr1 S3 apL apD ne hx1 ha hso hq2 hq1 (ω8y hx hds ha) F3 D3 fun s4 b k1 k2 a4 F4 D4 hb hB=>?_
    have K4:=K3.trans (Jq a4 F3.notR D3)
    have er:Bd x (n+1) a=((Er,sgn x a,a)::(Bd x n (a+1)).1,(Bd x n (a+1)).2):=by rw [Bd,if_pos ha,hz]; rfl
    rw [er] at hRet hEnd
    have a14:=a13.trans a4
    have hlb:lo≤b:=ιT hlo (ιT a13.size hb)
    refine wpAny_execs_nil (ih (a+1) _ _ (l++[(Er,sgn x a,a)]) s4 (ω8z h1) (ha) (S3.aft a4 (ζ2 apL apD)) F4 D4 (Ek (Bk hG K4) hlb hB) (ιT hlo a14.size) (by simp; exact hds) (fun s' r gs gs2 a5 h3 h4 h5=>hRet s' r gs gs2 (a14.trans a5) h3 (by rw [List.append_assoc] at h4; exact h4) h5) fun s' gs e a' a5 h3 h4 h5 h6 h7=>hEnd s' gs e a' (a14.trans a5) h3 h4 (by rw [List.append_assoc] at h5; exact h5) h6 h7)
   ·have hz0:(((At x a:Nat):Int) == 0)=false:=by simp; exact hz
    rw [hz0,if_neg (by decide)]
    have hcl:=Hu (Fy ha)
    refine exec_else (Bm (rd_close W hr2 S3 apL hx1 (Fy ha) F3 fun s4 a4 F4=>?_))
    have K4:=K3.trans (Di a4 F3.notR)
    have S4:=S3.aft a4 (Ab apL Aa)
    have D4:=kD a4 D3
    have lL:(L:Nat)<s4.heap.objs.size:=by
     obtain⟨k,ta,tz,tc,h | ⟨v6,h⟩⟩:=F4
     ·exact ιH h
     ·exact ιH h
    have lD:(du:Nat)<s4.heap.objs.size:=ιH D4
    show wpAny _ _ (execs (_++_) _) _ _ s4
    refine Bm (rd_wrong W hr2 S4 apL hx1 hcl.1 hcl.2 F4 fun s5 b tk a5 F5 hb hB=>?_)
    have K5:=K4.trans (Di a5 F4.notR)
    have S5:=S4.aft a5 (Ab apL Aa)
    have D5:=kD a5 D4
    have nbL:b≠L:=fun e=>by rw [e] at hb; exact Nat.lt_irrefl _ (ιL lL hb)
    have nbD:b≠du:=fun e=>by rw [e] at hb; exact Nat.lt_irrefl _ (ιL lD hb)
    have apB:lkX w ext b=none:=S4.new b hb
    show wpAny _ _ (execs (_::_) _) _ _ s5
    refine wpAny_execs_cons (wpAny_If (rd_ne_test W hr1 S5 apL nbL F5 hB fun s6 a6 F6=>?_))
    have K6:=K5.trans (Di a6 F5.notR)
    have S6:=S5.aft a6 (Ab apL Aa)
    have D6:=kD a6 D5
    have B6:=a6.keep _ _ hB fun q=>nbL (ιS q)
    have a16:Aft [L,du] st s6:=a13.trans (((a4.trans a5).trans a6).mono fun y hy=>by rw [ιS hy]; exact m0)
    cases hw:BX x (a+At x a) (AM x (a+At x a)) with
    | some p=>
     rw [hw] at B6
     have er:Bd x (n+1) a=([],some (some p)):=by
      rw [Bd,if_pos ha]
      split
      ·rename_i h; exact absurd h hz
      ·rw [hw]
     rw [er] at hRet
     rw [if_pos (by rfl)]
     obtain⟨q',hq1',hq2'⟩:=hsp p (GP hw)
     refine rd_ref2 W hr1 S6 apL apD apB (by simp [ne,Ne.symm nbL,Ne.symm nbD]) (by have:=GP hw; exact ω90 hx this) hso hq2' hq1' (ω8y hx hds ha) F6 D6 B6 fun s7 r q k1 a7 hq hr hR hQ=>?_
     have K7:=K6.trans (a7.keepR (ζ3 F6.notR (BJ.of D6 rfl) (BJ.of B6 rfl)))
     refine hRet s7 r ds [.ref q] (((a16.mono fun y hy=>List.mem_append_left [b] hy).trans a7).drop (ζ3 (.inl m0) (.inl m1) (.inr (ιT (ιT a13.size a4.size) hb)))) hR (by rw [List.append_nil]; exact Bk hG K7) ⟨q,k1,rfl,hQ⟩
    | none=>
     rw [if_neg (by simp)]
     refine wpAny_execs_nil ?_
     show wpAny _ _ (execs (_::_) _) _ _ s6
     refine wpAny_execs_cons (wpAny_If (rd_end_test W hr1 S6 apL hx1 F6 fun s7 a7 F7=>?_))
     have K7:=K6.trans (Di a7 F6.notR)
     have S7:=S6.aft a7 (Ab apL Aa)
     have D7:=kD a7 D6
     have a17:Aft [L,du] st s7:=a16.trans (a7.mono fun y hy=>by rw [ιS hy]; exact m0)
     by_cases he:AM x (a+At x a)=x.length
     ·have er:Bd x (n+1) a=([],some none):=by
       rw [Bd,if_pos ha]
       split
       ·rename_i h; exact absurd h hz
       ·rw [hw]; exact if_pos he
      rw [er] at hRet
      rw [if_pos (by rw [he]; simp)]
      refine rd_ref1 W hr1 S7 apL apD ne hso hq2 (ω8y hx hds ha) F7 D7 fun s8 r q k1 a8 hq hr hR hQ=>?_
      exact hRet s8 r ds [.ref q] (a17.trans a8) hR (by rw [List.append_nil]; exact Bk hG (K7.trans (Jq a8 F7.notR D7))) ⟨q,k1,rfl,hQ⟩
     ·have er:Bd x (n+1) a=((B0,AW x a (AM x (a+At x a)+1),a)::(Bd x n (AM x (a+At x a)+1)).1,(Bd x n (AM x (a+At x a)+1)).2):=by
       rw [Bd,if_pos ha]
       split
       ·rename_i h; exact absurd h hz
       ·rw [hw]; exact if_neg he
      rw [er] at hRet hEnd
      rw [if_neg (by simp; exact ω91 he)]
      refine wpAny_execs_nil ?_
      refine rd_string W hr1 S7 apL apD ne hx1 ha (ω92 hcl he) hso hq2 hq1 (ω8y hx hds ha) F7 D7 fun s8 b8 k1 k2 a8 F8 D8 hb8 hB8=>?_
      have K8:=K7.trans (Jq a8 F7.notR D7)
      have a18:=a17.trans a8
      refine wpAny_execs_nil (ih _ _ _ (l++[(B0,AW x a (AM x (a+At x a)+1),a)]) s8 (ω93 h1 hcl) (ω94 hcl he) (S7.aft a8 (ζ2 apL apD)) F8 D8 (Ek (Bk hG K8) (ιT hlo (ιT a17.size hb8)) hB8) (ιT hlo a18.size) (by simp; exact ω95 hds hcl) (fun s' r gs gs2 a5 h3 h4 h5=>hRet s' r gs gs2 (a18.trans a5) h3 (by rw [List.append_assoc] at h4; exact h4) h5) fun s' gs e a' a5 h3 h4 h5 h6 h7=>hEnd s' gs e a' (a18.trans a5) h3 h4 (by rw [List.append_assoc] at h5; exact h5) h6 h7)
  ·rw [decide_eq_false ha,if_neg (by decide)]
   have er:Bd x (n+1) a=([],none):=by rw [Bd,if_neg ha]
   rw [er] at hEnd
   exact hEnd s1 ds dz a (a1.mono fun y hy=>by rw [ιS hy]; exact m0) F1 D1 (by rw [List.append_nil]; exact Bk hG K1) rfl (ωy ha)
end
section
variable{w:World}{ext:Addr→Option Obj}{c:Cfg}{so t1 se:Nat}{x:Str}{ss:List Value}
theorem CX{c:Cfg}{h h':Heap}{gs:List Value}{o:Option (Option Nat)}(G:Cy c h gs o)(k:B7 h h'):Cy c h' gs o:=by
 match o,G with
 | none,G=>exact G
 | some none,⟨a,kk,e,q⟩=>exact⟨a,kk,e,k a _ q rfl⟩
 | some (some p),⟨a,kk,e,q⟩=>exact⟨a,kk,e,k a _ q rfl⟩
theorem opens_end{x:Str}{a:Nat}(h:x.length≤a):At x a=0:=by
 have e:AW x a (a+2)=⟨#[]⟩:=by
  unfold AW
  have hl:x.cps.toList.length=x.length:=Array.length_toList
  rw [List.drop_eq_nil_of_le (ω3o h hl),List.take_nil]
 have e2:sgn x a=⟨#[0]⟩:=by
  unfold sgn
  rw [show x.cps.getD a 0=0 from by simp [Array.getD,show ¬ a<x.cps.size from Nat.not_lt.mpr h]]
 unfold At
 rw [e,e2]
 rfl
theorem allC_nil{n:Nat}:∀ y∈([]:List Addr),y=n:=fun y h=>by cases h
theorem Jd(W:Ae w){A:Around}{st:Shared}(hA:Ar A 240)(S:Ak w ext st)(hx:x.length≤900)(ho:At x 0≠0)(hso:lkX w ext so=some (lst ss se))(hsp:∀ i,i<x.length→∃ q,ss[i]? = some (.ref q)∧lkX w ext q=some (AQ [c.ls i 3,c.ls i 0]))
  (hR:∀ s' r gs gs2 e,Aft [] st s'→s'.heap.get? r=some (lst (gs++gs2) e)→BI c st.heap.objs.size s'.heap gs (Bd x (x.length+1) 0).1→Cy c s'.heap gs2 (Bd x (x.length+1) 0).2→R (.ok (.ret (.ref r))) s'):codeAny (model pr2 w) A (.call (.ref 518) ⟨[.str x t1,.ref so],[]⟩) R st:=by
 have I0:=Inv.MH S (reads:=[]) (pre:=[]) Aa ιN Aa (by simp) Aa
 refine Bv S (BA w ext 518 (by rfl)) (by have:=hA.depth; exact ω03 this) ?_
 refine CJ (g:=Av pr2 w A R) (BC W S hA (by decide)) rfl (qE_v _ _ _ _ _ so t1 x) (qE_h w (Ax w) ext st.heap.objs.size st.toks so t1 x)
  Aa I0 fun A1 s1 hd1 hu1 hh1 hf1 I1 H1=>?_
 have hA1:Ar A1 210:=HR hA (qE_d ..) (qE_l ..) hd1 hu1 (hh1.trans hA.handled) (by decide)
 have St1:Ak w ext s1:=S.aft I1.aft (fun a ha=>nomatch ha)
 have apL:lkX w ext st.heap.objs.size=none:=S.new _ (ιR _)
 have apD:lkX w ext (st.heap.objs.size+1)=none:=S.new _ (ιA ..)
 let k:Nat→Nat:=fun i=>match i with | 0=>st.toks | 1=>st.toks+1 | 2=>st.toks+3 | _=>st.toks+4
 have fin:∀ {s2 s3:Shared} {D:List Addr},Aft [st.heap.objs.size,st.heap.objs.size+1] s1 s2→(∀ y∈D,y=st.heap.objs.size)→Aft D s2 s3→Aft [] st s3:=fun a hD b=>((I1.aft.mono Aa).trans (a.trans (b.mono fun y hy=>by rw [hD y hy]; exact m0))).drop fun y hy=>by
  rcases ιC hy with q | q
  ·exact .inr (by rw [q]; exact ιR _)
  ·exact .inr (by rw [ιS q]; exact ιA ..)
 refine rd_loop W (L:=st.heap.objs.size) (du:=st.heap.objs.size+1) (lo:=st.heap.objs.size) (c:=c) hx apL apD (ω4g) hso hsp (hA1.le (by decide)) (x.length+1) 0 0 [] [] s1 (ω0z) (Nat.zero_le _) St1 ⟨k,st.toks+2,.inl ⟨H1 _ m0,ho⟩⟩ (H1 _ m1) ⟨rfl,fun i tk h=>by simp at h⟩ I1.aft.size (ιR _) (fun s2 r gs gs2 a2 hr hG hE=>?_) fun s2 gs e a' a2 hF hD hG hE hge=>?_
 ·have St2:Ak w ext s2:=St1.aft a2 (ζ2 apL apD)
  refine Aw (g:=Av pr2 w A R) (BC W St2 hA (by decide)) rfl (qQ_v _ _ _ _ _ so (fun _=>.ref r) t1 x s2.heap.objs.size s2.toks) (vs:=[]) Aa
   (Inv.MH St2 (reads:=[]) (pre:=[]) Aa ιN Aa (by simp) Aa) fun s3 I3 H3=>?_
  have a3:Aft [] s2 s3:=I3.aft
  have K3:B7 s2.heap s3.heap:=a3.keepR Aa
  refine hR s3 r gs gs2 0 (fin a2 (D:=[]) (allC_nil) a3) (a3.keep _ _ hr (nomatch ·)) (Bk hG K3) (CX hE K3)
 ·have St2:Ak w ext s2:=St1.aft a2 (ζ2 apL apD)
  obtain⟨k',ta,hF | ⟨v4,v5,v6,hF,h0⟩⟩:=hF
  ·exact absurd (opens_end hge) hF.2
  ·refine Aw (g:=Av pr2 w A R) (BC W St2 hA (by decide)) rfl (qR_v _ _ _ _ _ so (st.heap.objs.size+1) k' (Fo v4 v5 v6) a' ta t1 x s2.heap.objs.size s2.toks) (vs:=[]) Aa
    (Inv.MH St2 (reads:=[]) (pre:=[(st.heap.objs.size,rF7 w k' v4 v5 v6 x so (st.heap.objs.size+1) a' t1 ta)]) Aa ιN (Ab hF Aa) (nd1 _) (Ab apL Aa)) fun s3 I3 H3=>?_
   have a3:Aft [st.heap.objs.size] s2 s3:=I3.aft
   have K3:B7 s2.heap s3.heap:=a3.keepR (Ab (BJ.of hF rfl) Aa)
   exact hR s3 (st.heap.objs.size+1) gs [] e (fin a2 (fun y h=>ιS h) a3) (by rw [List.append_nil]; exact a3.keep _ _ hD (by simp)) (Bk hG K3) (by rw [hE]; rfl)
end
theorem EV:∀ (r:List Str) (acc:Array Nat),(r.foldl (fun acc p=>acc++(⟨#[]⟩:Str).cps++p.cps) acc).toList=acc.toList++r.flatMap (·.cps.toList)
 | [],acc=>by simp
 | x::r,acc=>by rw [List.foldl_cons,EV r]; simp
theorem E6(l:List Str):(Builtin.Str.glued ⟨#[]⟩ l).cps.toList=l.flatMap (·.cps.toList):=by
 unfold Builtin.Str.glued
 cases l with
 | nil=>rfl
 | cons x r=>exact EV r _
theorem txt_toList(l:List Str):(Txt.join ⟨#[]⟩ l).cps.toList=l.flatMap (·.cps.toList):=E6 l
noncomputable abbrev Ft(i:Nat)(l:Addr)(xs:List Value)(e u:Nat)(y:Str):Sp:=⟨.builtin "str.join" ⟨[.str ⟨#[]⟩ u,.ref l],[]⟩,{r:=fun _ k=>.ok (.ret (.str y k)),reads:=[i],dk:=1},[],[some (l,lst xs e)]⟩
theorem G7:∀ {ps:List Value},(∀ v∈ps,Fd v)→(ps.flatMap pcp).length≤12*ps.length
 | [],_=>ιR _
 | v::r,h=>by
  obtain⟨x,t,rfl,hx⟩:=h v μ0
  have:=G7 fun v hv=>h v (.tail _ hv)
  have hx':x.cps.size≤12:=hx
  rw [List.flatMap_cons,List.length_append,List.length_cons]
  show x.cps.toList.length+_≤_
  rw [Array.length_toList]; exact ω96 this hx'
theorem HO:∀ {ps:List Value},(∀ v∈ps,Fd v)→∃ l:List (Str×Tok),ps=strValues l∧(∀ y∈l.map (·.1),y.length≤12)∧(l.map (·.1)).flatMap (·.cps.toList)=ps.flatMap pcp
 | [],_=>⟨[],rfl,Aa,rfl⟩
 | v::r,h=>by
  obtain⟨x,t,rfl,hx⟩:=h v μ0
  obtain⟨l,e,hl,hf⟩:=HO fun v hv=>h v (.tail _ hv)
  refine⟨(x,t)::l,by rw [e]; rfl,Ab hx hl,?_⟩
  rw [List.map_cons,List.flatMap_cons,List.flatMap_cons,hf]
  rfl
theorem Jl{P:Par}{g:Bq}{U D:Nat}{i:Nat}{l:Addr}{ps:List Value}{e u:Nat}{y:Str}(hP:∀ b,P.n≤b→P.look b=none)(h:∀ v∈ps,Fd v)(h2:2≤ps.length)(h3:ps.length≤100)(hy:y.cps.toList=ps.flatMap pcp):AK P g U D (Ft i l ps e u y):=by
 obtain⟨q,rfl,hl,hf⟩:=HO h
 have hsz:=sZ
 have hlen:(strValues q).length=q.length:=by unfold strValues; simp
 have hm:(q.map (·.1)).length=q.length:=List.length_map ..
 have hyl:y.length≤sizeLine:=by
  have:=G7 h
  rw [←hy,Array.length_toList] at this
  show y.cps.size≤_
  exact ω97 h3 hsz this
 have ey:Builtin.Str.glued ⟨#[]⟩ (q.map (·.1))=y:=by
  have:(Builtin.Str.glued ⟨#[]⟩ (q.map (·.1))).cps.toList=y.cps.toList:=by rw [E6,hf,hy]
  have:=Array.toList_inj.mp this
  cases y; simp only at this; rw [←this]
 have fit:=StrLaws.joinFits (sep:=⟨#[]⟩) (texts:=q.map (·.1)) (B:=12) hl (by rw [hm]; show q.length*12+q.length*0≤_; exact ω98 h3 hlen)
 refine BV (dk:=1) (ps:=[(l,lst (strValues q) e)]) hP fun A s R _ _ _ h4 hR=>AA F.entry_str_join (by decide +kernel) (meets_str_join_list ⟨#[]⟩ u l q fit) ⟨FJ (h4 _ μ0),?_⟩
 match q,h2,ey with
 | a::b::r,_,ey=>exact⟨by rw [ey]; exact hyl,by rw [ey]; exact hR⟩
structure RtC where
 l:Expr
 r:Expr
 p:Pos
 q:Pos
noncomputable def rtP(s:Option Stmt):RtC:=match s with
 | some (.Return (some (.Compare l _ (r::_) p)) q)=>⟨l,r,p,q⟩
 | _=>⟨.Constant .none 0 default,.Constant .none 0 default,default,default⟩
noncomputable def rtC(w:World):RtC:=rtP (A0 w 523)[10]?
theorem law_ret(w:World):(A0 w 523).drop 10=[.Return (some (.Compare (rtC w).l [.Eq] [(rtC w).r] (rtC w).p)) (rtC w).q]:=by kernel_rfl
section
variable(w:World)(f:Fl)(ext:Addr→Option Obj)(n t L cx cy cz pi ch so kg gl:Nat)(k:Nat→Nat)(v:Nat→Value)(kt ta nn:Nat)(sl:Array (Option Value))(ps:List Value)(y:Str)
def qL0:Res:=
 run (P4 w f ext n t 0) 13 [1] [] [(L,AS (As w k v pi ch so kg gl) nn sl)] 0 0 .tree
  (CW (rtC w).l (Ai w L cx cy cz)) [] [] []
theorem qL0_v:RvD (qL0 w f ext n t L cx cy cz pi ch so kg gl k v nn sl) [0] (.done (.ok (.ret (.ref gl)))) 1 0 0 [some (L,AS (As w k v pi ch so kg gl) nn sl)] []:=by kernel_rfl
def qM0:Res:=
 run (P4 w f ext n t 1) 26 [0,2,0,2,2,0,1] ([Ft 0 pi ps 0 (t+0) y].map Sp.x) [(pi,lst ps 0),(L,AS (As w k v pi ch so kg gl) nn sl)] 0 0 .tree
  (CW (rtC w).r (Ai w L cx cy cz)) [] [] []
theorem qM0_v:RvC (qM0 w f ext n t L cx cy cz pi ch so kg gl k v nn sl ps y) [1] (.call (.call (.ref 518) ⟨[.str y (t+1),.ref so],[]⟩)) 1 0 2 [some (L,AS (As w k v pi ch so kg gl) nn sl)] [Ft 0 pi ps 0 (t+0) y]:=by kernel_rfl
def qLt:Res:=
 run (P4 w f ext n t 0) 13 [1] [] [(L,AS (As w k v pi ch so kg gl++[de w "t" kt (.ref ta)]) nn sl)] 0 0 .tree
  (CW (rtC w).l (Ai w L cx cy cz)) [] [] []
theorem qLt_v:RvD (qLt w f ext n t L cx cy cz pi ch so kg gl k v kt ta nn sl) [0] (.done (.ok (.ret (.ref gl)))) 1 0 0 [some (L,AS (As w k v pi ch so kg gl++[de w "t" kt (.ref ta)]) nn sl)] []:=by kernel_rfl
def qMt:Res:=
 run (P4 w f ext n t 1) 26 [0,2,0,2,2,0,1] ([Ft 0 pi ps 0 (t+0) y].map Sp.x) [(pi,lst ps 0),(L,AS (As w k v pi ch so kg gl++[de w "t" kt (.ref ta)]) nn sl)] 0 0 .tree
  (CW (rtC w).r (Ai w L cx cy cz)) [] [] []
theorem qMt_v:RvC (qMt w f ext n t L cx cy cz pi ch so kg gl k v kt ta nn sl ps y) [1] (.call (.call (.ref 518) ⟨[.str y (t+1),.ref so],[]⟩)) 1 0 2 [some (L,AS (As w k v pi ch so kg gl++[de w "t" kt (.ref ta)]) nn sl)] [Ft 0 pi ps 0 (t+0) y]:=by kernel_rfl
theorem qM_kk:(qM0 w f ext n t L cx cy cz pi ch so kg gl k v nn sl ps y).kk=(qMt w f ext n t L cx cy cz pi ch so kg gl k v kt ta nn sl ps y).kk:=by kernel_rfl
end
theorem DG{p q:Nat→Bool}:∀ {n a:Nat},(∀ i,a≤i→i<a+n→p i=q i)→Bg p n a=Bg q n a
 | 0,_,_=>rfl
 | n+1,a,h=>by rw [Bg,Bg,h a (ιR _) (ω3q),DG fun i h1 h2=>h i (ω1z h1) (ω3s h2)]
theorem Gq(x:Str){a:Nat}(h:a<x.cps.toList.length):x.cps.toList[a]=x.cps.getD a 0:=by
 have h':a<x.cps.size:=h
 simp [Array.getD,h']
theorem Es{x:Str}{a b:Nat}(h:a<x.length)(hb:a<b):(AW x a b).cps.toList=x.cps.getD a 0::(AW x (a+1) b).cps.toList:=by
 have hl:a<x.cps.toList.length:=h
 unfold AW
 rw [List.drop_eq_getElem_cons hl,Gq x hl,show b-a=(b-(a+1))+1 from ω00 hb,List.take_succ_cons]
theorem sub_end{x:Str}{a b:Nat}(h:x.length≤a):(AW x a b).cps.toList=[]:=by
 unfold AW
 have hl:x.cps.toList.length=x.length:=Array.length_toList
 rw [List.drop_eq_nil_of_le (ω3o h hl),List.take_nil]
theorem Gx{x:Str}{a:Nat}:(AW x a a).cps.toList=[]:=by
 unfold AW
 rw [Nat.sub_self,List.take_zero]
theorem Gy{x y:Str}(h:x.cps.toList=y.cps.toList):x=y:=by
 have:=Array.toList_inj.mp h
 cases x; cases y; simp only at this; rw [this]
theorem HN{x:Str}{a:Nat}(h:a<x.length):AW x a (a+1)=sgn x a:=Gy (by rw [Es h (Nat.lt_succ_self a),Gx])
section
variable{c:Cfg}{x:Str}
structure Ce(c:Cfg)(x:Str):Prop where
 ones:FX c
 len:c.N=x.length
 at':∀ i,i<c.N→BQ c i=x.cps.getD i 0
theorem Ce.sg(T:Ce c x){i:Nat}(h:i<c.N):c.sg i=sgn x i:=by rw [T.ones i h,T.at' i h]
theorem Ce.run(T:Ce c x)(l:Nat):∀ {a:Nat},a≤c.N→Ex c l a=CA x l a
 | 0,_=>rfl
 | a+1,h=>by rw [Ex,CA,T.run l (Nat.le_of_succ_le h),bsl,T.at' a h]
theorem Ce.close(T:Ce c x){l:Nat}(h:l≤c.N):AD c l=AM x l:=by
 unfold AD AM
 rw [T.len,DG (q:=BN x l) fun i h1 h2=>by
  have hi:i<c.N:=by rw [T.len]; rw [T.len] at h; exact ω99 h h2
  unfold Dc BN quo Ec
  rw [T.at' i hi,T.run l (Nat.le_of_lt hi)]]
theorem Ce.aft(T:Ce c x)(i:Nat):Du c i=HL x i:=by
 unfold Du
 by_cases h:i<c.N
 ·rw [if_pos h,T.sg h,HL,HN (by rw [←T.len]; exact h)]
 ·rw [if_neg h,ID (by rw [←T.len]; exact ωy h)]
theorem Ce.wrong(T:Ce c x){l k:Nat}(hl:l≤k)(h:k≤c.N):BK c l k=BX x l k:=by
 unfold BK BX
 rw [DG (q:=Bz x l) fun i h1 h2=>by
  have hi:i<c.N:=ω9a hl h h2
  unfold Dx Bz bsl Ec
  rw [T.at' i hi,T.run l (Nat.le_of_lt hi),T.aft]]
theorem Ce.opn(T:Ce c x){a:Nat}(h:a<c.N):D0 c a=At x a:=by
 have hx:a<x.length:=by rw [←T.len]; exact h
 unfold D0 At EB G9 sgn
 rw [Es hx (ω3j),T.at' a h]
 generalize x.cps.getD a 0=m
 have e1:([34] == (⟨#[m]⟩:Str).cps.toList||[64] == (⟨#[m]⟩:Str).cps.toList)=(m == 34||m == 64):=by
  show(((34 == m)&&([]:List Nat) == [])||((64 == m)&&([]:List Nat) == []))=_
  rw [show(([]:List Nat) == [])=true from rfl,Bool.and_true,Bool.and_true,Bool.beq_comm,Bool.beq_comm (a:=64)]
 rw [e1]
 by_cases h1:a+1<c.N
 ·have hx1:a+1<x.length:=by rw [←T.len]; exact h1
  rw [Es hx1 (ω0q),Gx,T.at' _ h1]
  generalize x.cps.getD (a+1) 0=n
  have e2:([76,34] == [m,n]||[96,96] == [m,n])=(m == 76&&n == 34||m == 96&&n == 96):=by
   show(((76 == m)&&((34 == n)&&([]:List Nat) == []))||((96 == m)&&((96 == n)&&([]:List Nat) == [])))=_
   rw [show(([]:List Nat) == [])=true from rfl,Bool.and_true,Bool.and_true,Bool.beq_comm (a:=76),Bool.beq_comm (a:=34),Bool.beq_comm (a:=96),Bool.beq_comm (a:=96) (b:=n)]
  rw [e2,decide_eq_true h1,Bool.true_and]
 ·rw [sub_end (by rw [←T.len]; exact ω9b h1),decide_eq_false h1,Bool.false_and]
  have e2:([76,34] == [m]||[96,96] == [m])=false:=by
   show(((76 == m)&&false)||((96 == m)&&false))=_
   rw [Bool.and_false,Bool.and_false]; rfl
  rw [e2]
theorem Ce.txt(T:Ce c x){a:Nat}:∀ {n:Nat},a+n≤c.N→c.txt a (a+n)=AW x a (a+n):=fun {n} h=>Gy (by
 unfold Cfg.txt
 rw [txt_toList,show a+n-a=n from ω9c]
 induction n generalizing a with
 | zero=>rw [Nat.add_zero,Gx]; rfl
 | succ n ih=>
  have ha:a<c.N:=ω3p h
  rw [List.range'_succ,List.map_cons,List.flatMap_cons,Es (by rw [←T.len]; exact ha) (ω3q),T.sg ha]
  have:=ih (a:=a+1) (ω3r h)
  rw [show a+1+n=a+(n+1) from ωc] at this
  rw [this]
  rfl)
theorem Ce.read(T:Ce c x):∀ (n a:Nat),Dg c n a=Bd x n a
 | 0,a=>rfl
 | n+1,a=>by
  rw [Dg,Bd,T.len]
  by_cases h:a<x.length
  ·have h':a<c.N:=by rw [T.len]; exact h
   rw [if_pos h,if_pos h,T.opn h']
   have hle:=Fy h
   have hc:=Hu hle
   have hle':a+At x a≤c.N:=by rw [T.len]; exact hle
   have t1:=T.txt (a:=a) (n:=1) (h')
   rw [HN h] at t1
   cases hz:At x a with
   | zero=>rw [t1,T.read]; rfl
   | succ z=>
    rw [hz] at hle hc hle'
    show(match BK c (a+(z+1)) (AD c (a+(z+1))) with
     | some p=>(([],some (some p)):List Dw×Option (Option Nat))
     | none=>if AD c (a+(z+1))=x.length then([],some none) else((B0,c.txt a (AD c (a+(z+1))+1),a)::(Dg c n (AD c (a+(z+1))+1)).1,(Dg c n (AD c (a+(z+1))+1)).2))=(match BX x (a+(z+1)) (AM x (a+(z+1))) with
     | some p=>([],some (some p))
     | none=>if AM x (a+(z+1))=x.length then([],some none) else((B0,AW x a (AM x (a+(z+1))+1),a)::(Bd x n (AM x (a+(z+1))+1)).1,(Bd x n (AM x (a+(z+1))+1)).2))
    rw [T.close hle',T.wrong hc.1 (by rw [T.len]; exact hc.2),T.read]
    cases hw:BX x (a+(z+1)) (AM x (a+(z+1))) with
    | some p=>rfl
    | none=>
     try dsimp only
     by_cases he:AM x (a+(z+1))=x.length
     ·rw [if_pos he,if_pos he]
     ·rw [if_neg he,if_neg he]
      have t2:=T.txt (a:=a) (n:=AM x (a+(z+1))+1-a) (by rw [T.len]; exact ω9d hc he)
      rw [show a+(AM x (a+(z+1))+1-a)=AM x (a+(z+1))+1 from ω9e hc] at t2
      rw [t2]
  ·rw [if_neg h,if_neg h]
end
section
variable(w:World)(f:Fl)(ext:Addr→Option Obj)(n t L cx cy cz pi ch so kg gl:Nat)(k:Nat→Nat)(v:Nat→Value)(nn:Nat)(sl:Array (Option Value))(ps:List Value)(y:Str)(n2 u2:Nat)(r:Nat)
def qMk:Res:=
 run (P4 w f ext n2 u2 0) 12 [] [] [] 0 0 .tree
  ((qM0 w f ext n t L cx cy cz pi ch so kg gl k v nn sl ps y).kk (.ok (.ret (.ref r)))) [] [] []
theorem Ke:RvD (qMk w f ext n t L cx cy cz pi ch so kg gl k v nn sl ps y n2 u2 r) [] (.done (.ok (.ret (.ref r)))) 1 0 0 [] []:=by kernel_rfl
end
section
variable{A:Around}{s:Shared}
theorem Hx(n:Nat):((List.range n).all fun _=>true)=true:=by simp
theorem E8{a b:Nat}{xs ys:List Value}(ha:s.heap.get? a=some (AQ xs))(hb:s.heap.get? b=some (AQ ys))(hu:A.units<cLine)(hl:xs.length=ys.length)
  (he:∀ j (h1:j<xs.length) (h2:j<ys.length),EqAt A.in1 s xs[j] ys[j] true):EqAt A s (.ref a) (.ref b) true:=by
 by_cases q:a=b
 ·rw [q]; exact EqAt.same _
 ·have:=RcAt.tuples (A:=A) (s:=s) (l:=a) (b:=b) (items:=⟨xs⟩) (items2:=⟨ys⟩) (e:=fun _=>true) ⟨_,ha,rfl,_,rfl⟩ ⟨_,hb,rfl,_,rfl⟩ hu he
  rw [Hx,Bool.true_and,show(xs.toArray.size == ys.toArray.size)=true from beq_iff_eq.mpr hl] at this
  exact EqAt.of_refs q this
theorem GM(x:Str)(t u:Nat):EqAt A s (.str x t) (.str x u) true:=by
 have:=EqAt.str_str (A:=A) (s:=s) x t x u
 rwa [beq_self_eq_true] at this
noncomputable def Dk(A:Around)(s:Shared):List Value→List Value→Prop
 | [],[]=>True
 | x::xs,y::ys=>EqAt A s x y true∧Dk A s xs ys
 | _,_=>False
theorem Dk.at'{xs:List Value}:∀ {ys:List Value},Dk A s xs ys→xs.length=ys.length∧∀ j (h1:j<xs.length) (h2:j<ys.length),EqAt A s xs[j] ys[j] true:=by
 induction xs with
 | nil=>intro ys h; cases ys with
  | nil=>exact⟨rfl,fun j h1=>absurd h1 (Nat.not_lt_zero j)⟩
  | cons y r=>exact h.elim
 | cons x xs ih=>intro ys h; cases ys with
  | nil=>exact h.elim
  | cons y ys=>
   obtain⟨h1,h2⟩:=h
   obtain⟨l,f⟩:=ih h2
   refine⟨congrArg (· + 1) l,fun j g1 g2=>?_⟩
   cases j with
   | zero=>exact h1
   | succ j=>exact f j (Nat.lt_of_succ_lt_succ g1) (Nat.lt_of_succ_lt_succ g2)
theorem eq_tups'{a b:Nat}{xs ys:List Value}(ha:s.heap.get? a=some (AQ xs))(hb:s.heap.get? b=some (AQ ys))(hu:A.units<cLine)(h:Dk A.in1 s xs ys):EqAt A s (.ref a) (.ref b) true:=E8 ha hb hu h.at'.1 h.at'.2
theorem Dk.app{xs ys xs' ys':List Value}(h:Dk A s xs ys)(h':Dk A s xs' ys'):Dk A s (xs++xs') (ys++ys'):=by
 induction xs generalizing ys with
 | nil=>cases ys with
  | nil=>exact h'
  | cons y r=>exact h.elim
 | cons x xs ih=>cases ys with
  | nil=>exact h.elim
  | cons y ys=>exact⟨h.1,ih h.2⟩
theorem Dk.mk':∀ {xs ys:List Value},xs.length=ys.length→(∀ (j:Nat) v u,xs[j]? = some v→ys[j]? = some u→EqAt A s v u true)→Dk A s xs ys:=by
 intro xs
 induction xs with
 | nil=>intro ys h f; cases ys with
  | nil=>exact trivial
  | cons y ys=>cases h
 | cons x xs ih=>intro ys h f; cases ys with
  | nil=>cases h
  | cons y ys=>exact⟨f 0 x y rfl rfl,ih (Nat.succ.inj h) fun j v u h1 h2=>f (j+1) v u h1 h2⟩
variable{c:Cfg}{lo lo':Nat}{gs gs' gs2 gs2':List Value}{l:List Dw}{e:Option (Option Nat)}
theorem got_eq(hu:A.units<cLine)(G:BI c lo s.heap gs l)(G':BI c lo' s.heap gs' l):Dk A s gs gs':=Dk.mk' (G.1.trans G'.1.symm) fun j v u h1 h2=>by
 have hj:j<l.length:=by
  rw [←G.1]
  exact(List.getElem?_eq_some_iff.mp h1).1
 obtain⟨a,k1,k2,_,e1,e2⟩:=G.2 j l[j] (List.getElem?_eq_getElem hj)
 obtain⟨a',k1',k2',_,e1',e2'⟩:=G'.2 j l[j] (List.getElem?_eq_getElem hj)
 rw [h1] at e1; rw [h2] at e1'
 cases e1; cases e1'
 exact eq_tups' e2 e2' hu ⟨GM _ _ _,GM _ _ _,EqAt.same _,EqAt.same _,trivial⟩
theorem end_eq(hu:A.units<cLine)(G:Cy c s.heap gs2 e)(G':Cy c s.heap gs2' e):Dk A s gs2 gs2':=by
 match e,G,G' with
 | none,G,G'=>rw [show gs2=[] from G,show gs2'=[] from G']; exact trivial
 | some none,⟨a,k,e1,e2⟩,⟨a',k',e1',e2'⟩=>rw [e1,e1']; exact⟨eq_tups' e2 e2' hu ⟨GM _ _ _,trivial⟩,trivial⟩
 | some (some p),⟨a,k,e1,e2⟩,⟨a',k',e1',e2'⟩=>rw [e1,e1']; exact⟨eq_tups' e2 e2' hu ⟨GM _ _ _,EqAt.same _,EqAt.same _,trivial⟩,trivial⟩
end
section
variable{w:World}{A:Around}{s:Shared}{L cx cy cz pi ch so kg gl n lo se ge:Nat}{k:Nat→Nat}{v:Nat→Value}{es:List DictEntry}{sl:Array (Option Value)}{c:Cfg}{ps ss gs gs2:List Value}{x:Str}
theorem JE(W:Ae w)(hA:Ar A 690)(S0:St0 w s)(h5:lk w L=none)(F:JL w es k v pi ch so kg gl)(hL:s.heap.get? L=some (AS es n sl))(hpi:s.heap.get? pi=some (lst ps 0))(hps:∀ v∈ps,Fd v)(hp2:2≤ps.length)(hp3:ps.length≤100)
  (hso:s.heap.get? so=some (lst ss se)) (hsp:∀ i,i<x.length→∃ q,ss[i]? = some (.ref q)∧s.heap.get? q=some (AQ [c.ls i 3,c.ls i 0])) (hgl:s.heap.get? gl=some (lst (gs++gs2) ge)) (hG:BI c lo s.heap gs (Bd x (x.length+1) 0).1) (hE:Cy c s.heap gs2 (Bd x (x.length+1) 0).2)
  (hx:x.cps.toList=ps.flatMap pcp) (hxl:x.length≤900) (ho:At x 0≠0) {Q:Flow→Shared→Prop} {E:Value→Shared→Prop} (h:∀ s',Aft [L] s s'→Q (.ret (.bool true)) s') :
  wpAny (model pr2 w) A (execs ((A0 w 523).drop 10) (Ai w L cx cy cz)) Q E s:=by
 have S1:Ak w (exH s [L]) s:=Cq S0
 have ap:lkX w (exH s [L]) L=none:=Cv m0 h5
 have nL:∀ {a:Nat} {o:Obj},s.heap.get? a=some o→o.cls≠.type "frame"→a∉[L]:=fun e q m=>by
  rw [ιS m,hL] at e; cases e; exact q rfl
 have rd:∀ {a:Nat} {o:Obj},s.heap.get? a=some o→o.cls≠.type "frame"→lkX w (exH s [L]) a=some o:=fun e q=>EL S0 (nL e q) e
 have hu:A.units<cLine:=by have:=hA.units; exact ω9f this
 have hA60:=hA.le (show 60≤690 by decide)
 have hpi':=rd hpi (by simp)
 have hso':=rd hso (by simp)
 have hsp':∀ i,i<x.length→∃ q,ss[i]? = some (.ref q)∧lkX w (exH s [L]) q=some (AQ [c.ls i 3,c.ls i 0]):=fun i hi=>by
  obtain⟨q,e1,e2⟩:=hsp i hi
  exact⟨q,e1,rd e2 (by simp)⟩
 have hgk:∀ {s':Shared} {D:List Addr},Aft D s s'→(∀ y∈D,y=L)→s'.heap.get? gl=some (lst (gs++gs2) ge)∧BI c lo s'.heap gs (Bd x (x.length+1) 0).1∧Cy c s'.heap gs2 (Bd x (x.length+1) 0).2:=fun {s' D} a hD=>by
  have K:B7 s.heap s'.heap:=a.keepR fun y hy=>by rw [hD y hy]; exact BJ.of hL rfl
  exact⟨a.keep _ _ hgl fun m=>nL hgl (by simp) (by rw [hD _ m]; exact m0),Bk hG K,CX hE K⟩
 generalize exH s [L]=ext at S1 ap hpi' hso' hsp'
 rw [law_ret]
 refine wpAny_execs_cons (wpAny_Return_some (wpAny_Compare1 (D9 ?_)))
 have fin:∀ (s3:Shared) (r:Nat) (gs' gs2':List Value) (lo' e:Nat),Aft [L] s s3→s3.heap.get? r=some (lst (gs'++gs2') e)→BI c lo' s3.heap gs' (Bd x (x.length+1) 0).1→Cy c s3.heap gs2' (Bd x (x.length+1) 0).2→
   wpAny (model pr2 w) A (compareOp .Eq (.ref gl) (.ref r)) (fun v=>Q (.ret v)) E s3:=fun s3 r gs' gs2' lo' e a3 hr hG' hE'=>by
  obtain⟨g1,g2,g3⟩:=hgk a3 (fun y hy=>ιS hy)
  have q:=(got_eq (A:=A.in1) (s:=s3) (by show A.units+1<cLine; have:=hA.units; exact ω9g this) g2 hG').app (end_eq (by show A.units+1<cLine; have:=hA.units; exact ω9g this) g3 hE')
  refine eq_listAt (items:=⟨gs++gs2⟩) (items2:=⟨gs'++gs2'⟩) (e:=fun _=>true) ⟨_,g1,rfl,_,rfl⟩ ⟨_,hr,rfl,_,rfl⟩ q.at'.1 hu q.at'.2 ?_
  rw [Hx]
  exact h s3 a3
 rcases F with rfl | ⟨kt,ta,rfl⟩
 ·refine uL W S1 hA60 rfl (qL0_v _ _ _ _ _ L cx cy cz pi ch so kg gl k v n sl) Aa (Ab hL Aa) (nd1 _) (Ab ap Aa) fun s1 I1 H1=>ιp ?_
  have a1:Aft [L] s s1:=I1.aft
  have S2:=S1.aft a1 (Ab ap Aa)
  show wpAny (model pr2 w) A (eval _ _) _ _ s1
  refine D9 ?_
  refine AG (Ao (t:=s1.toks) (ro:=1) W S2 hA60 (by decide)) (qM0_v _ _ _ _ _ L cx cy cz pi ch so kg gl k v n sl ps x) rfl
   (Ab (Jl S2.new hps hp2 hp3 hx) Aa) (Inv.MH S2 (pre:=[(L,AS (As w k v pi ch so kg gl) n sl)]) (Ab hpi' Aa) (nd1 _) (Ab (H1 _ m0) Aa) (nd1 _) (Ab ap Aa)) fun s2 I2 H2=>?_
  have a2:Aft [L] s1 s2:=I2.aft
  have S3:=S2.aft a2 (Ab ap Aa)
  refine Jd W (hA.le (by decide)) S3 hxl ho hso' hsp' fun s3 r gs' gs2' e a3 hr hG' hE'=>?_
  have S4:=S3.aft a3 Aa
  refine uL W S4 hA60 rfl (Ke _ _ _ _ _ L cx cy cz pi ch so kg gl k v n sl ps x s3.heap.objs.size s3.toks r) Aa Aa ιN Aa fun s4 I4 H4=>ιp ?_
  have a4:Aft [] s3 s4:=I4.aft
  have K4:B7 s3.heap s4.heap:=a4.keepR Aa
  exact fin s4 r gs' gs2' _ e (((a1.trans a2).trans (a3.mono fun _ q=>nomatch q)).trans (a4.mono fun _ q=>nomatch q)) (a4.keep _ _ hr (nomatch ·)) (Bk hG' K4) (CX hE' K4)
 ·refine uL W S1 hA60 rfl (qLt_v _ _ _ _ _ L cx cy cz pi ch so kg gl k v kt ta n sl) Aa (Ab hL Aa) (nd1 _) (Ab ap Aa) fun s1 I1 H1=>ιp ?_
  have a1:Aft [L] s s1:=I1.aft
  have S2:=S1.aft a1 (Ab ap Aa)
  show wpAny (model pr2 w) A (eval _ _) _ _ s1
  refine D9 ?_
  refine AG (Ao (t:=s1.toks) (ro:=1) W S2 hA60 (by decide)) (qMt_v _ _ _ _ _ L cx cy cz pi ch so kg gl k v kt ta n sl ps x) rfl
   (Ab (Jl S2.new hps hp2 hp3 hx) Aa) (Inv.MH S2 (pre:=[(L,AS (As w k v pi ch so kg gl++[de w "t" kt (.ref ta)]) n sl)]) (Ab hpi' Aa) (nd1 _) (Ab (H1 _ m0) Aa) (nd1 _) (Ab ap Aa)) fun s2 I2 H2=>?_
  have a2:Aft [L] s1 s2:=I2.aft
  have S3:=S2.aft a2 (Ab ap Aa)
  rw [←qM_kk]
  refine Jd W (hA.le (by decide)) S3 hxl ho hso' hsp' fun s3 r gs' gs2' e a3 hr hG' hE'=>?_
  have S4:=S3.aft a3 Aa
  refine uL W S4 hA60 rfl (Ke _ _ _ _ _ L cx cy cz pi ch so kg gl k v n sl ps x s3.heap.objs.size s3.toks r) Aa Aa ιN Aa fun s4 I4 H4=>ιp ?_
  have a4:Aft [] s3 s4:=I4.aft
  have K4:B7 s3.heap s4.heap:=a4.keepR Aa
  exact fin s4 r gs' gs2' _ e (((a1.trans a2).trans (a3.mono fun _ q=>nomatch q)).trans (a4.mono fun _ q=>nomatch q)) (a4.keep _ _ hr (nomatch ·)) (Bk hG' K4) (CX hE' K4)
end
noncomputable def r0:SgR:=⟨0,0,0,0,0,0,0,0,0,fun _=>.none⟩
noncomputable def Gw(rs:List SgR)(ch ec:Nat):Cfg where
 x:=0
 dx:=0
 tb:=0
 pb:=0
 ct:=0
 co:=0
 it:=0
 cl:=ch
 ec:=ec
 kt:=fun _=>0
 N:=rs.length
 ci:=fun i=>(rs.getD i r0).ci
 di:=fun i=>(rs.getD i r0).di
 k1:=fun i=>(rs.getD i r0).k1
 k2:=fun i=>(rs.getD i r0).k2
 k3:=fun i=>(rs.getD i r0).k3
 li:=fun i=>(rs.getD i r0).li
 sg:=fun i=>⟨⟨[(rs.getD i r0).cp]⟩⟩
 dl:=fun i=>(rs.getD i r0).dl
 ls:=fun i=>(rs.getD i r0).ls
theorem BZ{rs:List SgR}{i:Nat}(h:i<rs.length):rs.getD i r0∈rs:=by
 rw [List.getD_eq_getElem?_getD,List.getElem?_eq_getElem h]
 exact List.getElem_mem h
theorem cfg_seg(rs:List SgR)(ch ec:Nat):(Gw rs ch ec).seg 0 (Gw rs ch ec).N=sgs rs:=by
 show(List.range' 0 (rs.length-0)).map (fun i=>Value.ref (rs.getD i r0).ci)=rs.map fun r=>.ref r.ci
 refine List.ext_getElem? fun i=>?_
 by_cases h:i<rs.length
 ·simp [List.getElem?_range',h,List.getD_eq_getElem?_getD]
 ·simp [List.getElem?_eq_none_iff.mpr (Nat.le_of_not_lt h),List.getElem?_eq_none_iff,Nat.le_of_not_lt h]
section
variable{w:World}{st:Shared}{rs:List SgR}{ch ec L:Nat}
theorem laid_of(hch:524≤ch)(hc:st.heap.get? ch=some (lst (sgs rs) ec))(hr:∀ r∈rs,SOk w st.heap r)(hn:rs.length≤1000):MD w (Gw rs ch ec) L st where
 hcl:=by rw [cfg_seg]; exact hc
 hci:=fun i hi=>(hr _ (BZ hi)).hc
 hdi:=fun i hi=>(hr _ (BZ hi)).hd
 hli:=fun i hi=>(hr _ (BZ hi)).hl
 low:=⟨hch,fun i hi=>⟨(hr _ (BZ hi)).low.1,(hr _ (BZ hi)).low.2.1,(hr _ (BZ hi)).low.2.2.1⟩⟩
 small:=hn
 hsg:=fun i hi=>ιR _
 hls:=fun i hi=>by
  obtain⟨R,tr,C,tc,e1,e2,_⟩:=(hr _ (BZ hi)).hp
  exact⟨_,_,_,_,e1,e2⟩
theorem txt_of{x:Str}{c:Cfg}(hx:x.cps.toList=cps rs)(e1:c.N=(Gw rs ch ec).N)(e2:c.sg=(Gw rs ch ec).sg):Ce c x:=by
 have hl:x.length=rs.length:=by
  have:=congrArg List.length hx
  rw [Array.length_toList] at this
  unfold cps at this
  rw [List.length_map] at this
  exact this
 have hcp:∀ i,BQ c i=(rs.getD i r0).cp:=fun i=>by unfold BQ; rw [e2]; rfl
 refine⟨fun i hi=>by rw [hcp,e2]; rfl,by rw [e1,hl]; rfl,fun i hi=>?_⟩
 have hi':i<rs.length:=by rw [e1] at hi; exact hi
 have h2:i<x.cps.toList.length:=by rw [Array.length_toList]; show i<x.length; rw [hl]; exact hi'
 rw [hcp,←Gq x h2]
 have:x.cps.toList[i]? = some (rs.getD i r0).cp:=by
  rw [hx]; unfold cps
  rw [List.getElem?_map,List.getElem?_eq_getElem hi',List.getD_eq_getElem?_getD,List.getElem?_eq_getElem hi']
  rfl
 rw [List.getElem?_eq_getElem h2] at this
 exact(Option.some.inj this).symm
end
theorem opens_first{x y:Str}{r:List Nat}(h:x.cps.toList=y.cps.toList++r)(o:J7 y):At x 0≠0:=by
 have e:x=⟨(y.cps.toList++r).toArray⟩:=Gy h
 subst e
 have t1:∀ {x:Str},G9 (sgn x 0)=true→At x 0≠0:=fun {x} h=>by
  unfold At
  split
  ·decide
  ·simp [h]
 have t2:∀ {x:Str},EB (AW x 0 (0+2))=true→At x 0≠0:=fun {x} h=>by
  unfold At
  rw [if_pos h]; decide
 rcases o with rfl | rfl | rfl | rfl
 ·exact t1 rfl
 ·exact t1 rfl
 ·exact t2 rfl
 ·exact t2 rfl
noncomputable def v45(v:Nat→Value)(a b:Nat):Nat→Value
 | 4=>.ref a
 | 5=>.ref b
 | i=>v i
theorem exec_of{M:Model}{A:Around}{env:Env}{l l':List Stmt}{s:Shared}(e:l=l')(h:wpAny M A (execs l' env) Q E s):wpAny M A (execs l env) Q E s:=e▸h
theorem body_split(w:World):A0 w 523=(Bp w 0 1++(Bp w 1 1++(Bp w 2 1++Bp w 3 2)))++(Bp w 5 4++(ltS w::(A0 w 523).drop 10)):=
 (law_split w).trans (congrArg (·++(Bp w 5 4++(ltS w::(A0 w 523).drop 10))) (build_split w))
section
variable{w:World}{A:Around}{st:Shared}{L cx cy cz sc k0:Nat}{xs:List Value}
theorem law_body(W:Ae w)(hA:Ar A 690)(hfA:A.frames=some [Ai w L cx cy cz])(S:Ak w no st)(h5:∀ a∈[L,cx,cy,cz],524≤a)(nd:[L,cx,cy,cz].Nodup)(h5s:524≤sc)(hsc:sc∉[L,cx,cy,cz])(hL:st.heap.get? L=some (fr1 w k0 (.ref sc)))(hs:st.heap.get? sc=some (lst xs 0))(hx:∀ v∈xs,∃ z tz,v=.int z tz)(hz:xs.length≤100)
  (hcx:st.heap.get? cx=some (An none)) (hcy:st.heap.get? cy=some (An none)) (hcz:st.heap.get? cz=some (An none)) (ht:st.heap.get? 520=some (oP [])) (T:∃ ps,Tab st.heap 229 225 ps) {Q:Flow→Shared→Prop} {E:Value→Shared→Prop}
  (h:∀ s',s'={st with heap:=s'.heap,toks:=s'.toks,gens:=s'.gens}→By st.gens s'.gens→KX [L,cx,cy,cz,520,225] st.heap s'.heap→(∃ more,s'.heap.get? 520=some (oP more))→(∃ more,s'.heap.get? 225=some (oP more))→Q (.ret (.bool true)) s') :
  wpAny (model pr2 w) A (execs (A0 w 523) (Ai w L cx cy cz)) Q E st:=by
 have hA3:=hA.le (show 300≤690 by decide)
 have g5:=h5 L m0
 have lL:=ιH hL
 have lX:=ιH hcx
 have lY:=ιH hcy
 have lZ:=ιH hcz
 have h524:524≤st.heap.objs.size:=ιT g5 (Nat.le_of_lt lL)
 have nLs:L≠sc:=fun e=>hsc (by rw [←e]; exact m0)
 refine exec_of (body_split w) (Bm (Bm (law_s0 W hA3 S g5 h5s h524 nLs hL hs hx hz fun s1 k1 tp ea zs a1 sc1 t1 L1 P1 z0 z1 zv=>?_)))
 have S1:Ak w no s1:=S.aft a1 (ζ2 (ap5 g5) (ap5 h5s))
 cases zs with
 | nil=>exact absurd z0 (by decide)
 | cons v1 zs=>
 obtain⟨hz1,tz1,rfl⟩:=zv _ m0
 have h5t:524≤tp:=ιT h524 t1
 have nLt:L≠tp:=fun e=>by rw [←e] at t1; exact Nat.lt_irrefl _ (ιL lL t1)
 show wpAny _ _ (execs (_++_) _) _ _ s1
 refine Bm (law_s1 W hA3 S1 g5 h5t nLt L1 P1 fun s2 k2 a2 L2 P2=>?_)
 have S2:Ak w no s2:=S1.aft a2 (ζ2 (ap5 g5) (ap5 h5t))
 have z2:st.heap.objs.size≤s2.heap.objs.size:=ιT a1.size a2.size
 show wpAny _ _ (execs (_++_) _) _ _ s2
 refine Bm (law_s2 W hA3 S2 g5 h5t (ιT h524 z2) nLt L2 P2 (fun v hv=>zv v (.tail _ hv)) (Nat.le_of_succ_le_succ z1) fun s3 k3 pc p1 ps a3 t3 L3 P3 hp1 hps hpl hp0=>?_)
 have S3:Ak w no s3:=S2.aft a3 (ζ2 (ap5 g5) (ap5 h5t))
 have t3':st.heap.objs.size≤pc:=ιT z2 t3
 have z3:st.heap.objs.size≤s3.heap.objs.size:=ιT z2 a3.size
 have nLp:L≠pc:=fun e=>by rw [←e] at t3'; exact Nat.lt_irrefl _ (ιL lL t3')
 have hp1':∃ (x:Str) (tk:Nat),p1=.str x tk∧0<x.length∧x.length≤12:=by
  obtain⟨y,tk,e,o⟩:=hp1
  exact⟨y,tk,e,o.len⟩
 show wpAny _ _ (execs (Bp w 3 2) _) _ _ s3
 refine law_s34 W hA3 S3 g5 (ιT h524 t3') (ιT h524 z3) nLp L3 P3 hp1' hps hpl fun s4 B=>?_
 obtain⟨B1,rs,es,ec,k,v,sp,ch,v3,g1,g2,g3,g4,g6,g7,g8,g9,g10,L4,hsp4,hch4,hpc4,hrs,hcp⟩:=B
 show wpAny _ _ (execs (_++_) _) _ _ s4
 have kp:∀ {a:Nat} {o:Obj},a<(st.heap.objs.size:Nat)→st.heap.get? a=some o→a≠L→s4.heap.get? a=some o:=fun {a o} ha e nL=>by
  have e1:s1.heap.get? a=some o:=by
   by_cases q:a=sc
   ·rw [q,hs] at e; rw [q]; exact sc1.trans e
   ·exact a1.keep _ _ e (nm2 nL q)
  have nt:a≠tp:=fun q=>by rw [q] at ha; exact Nat.lt_irrefl _ (ιL ha t1)
  have np:a≠pc:=fun q=>by rw [q] at ha; exact Nat.lt_irrefl _ (ιL ha t3')
  exact B1.keep _ _ (a3.keep _ _ (a2.keep _ _ e1 (nm2 nL nt)) (nm2 nL nt)) (nm2 nL np)
 have kc:∀ {a:Nat},a∈[cx,cy,cz]→a≠L:=fun {a} ha q=>(List.nodup_cons.mp nd).1 (by rw [←q]; exact ha)
 have kl:∀ {a:Nat},a<524→a≠L:=fun {a} ha q=>by rw [q] at ha; exact Nat.lt_irrefl _ (ιL ha g5)
 have hcx4:=kp lX hcx (kc m0)
 have hcy4:=kp lY hcy (kc m1)
 have hcz4:=kp lZ hcz (kc m2)
 have ht4:=kp (ιL (by decide:520<524) h524) ht (kl (by decide))
 have T4:∃ ps,Tab s4.heap 229 225 ps:=by
  obtain⟨ps,T⟩:=T
  refine⟨ps,T.at fun b o hb e=>kp (ιL ?_ h524) e (kl ?_)⟩ <;> rcases hb with q | q <;> (rw [q]; decide)
 have S40:St0 w s4:=fun a o e=>(S3.aftK B1 (ζ2 (ap5 g5) (ap5 (ιT h524 t3')))) a o (by unfold lkX; rw [e])
 let x:Str:=⟨((p1::ps).flatMap pcp).toArray⟩
 have ex:x.cps.toList=(p1::ps).flatMap pcp:=rfl
 have allS:∀ u∈p1::ps,Fd u:=by
  obtain⟨y,tk,e,_,l⟩:=hp1'
  exact Ab ⟨y,tk,e,l⟩ hps
 have lrs:rs.length=x.length:=by
  have e:=congrArg List.length (hcp.trans ex.symm)
  exact(List.length_map (f:=fun r:SgR=>r.cp) (as:=rs)).symm.trans (e.trans Array.length_toList)
 have lx:x.length≤900:=by
  have q:=G7 allS
  rw [←ex,Array.length_toList] at q
  have q2:(p1::ps).length≤12:=Nat.succ_le_succ hpl
  show x.cps.size≤900
  omega
 have L4':s4.heap.get? L=some (ET w k (v45 v ch sp)):=L4
 refine law_run W hA hfA S40 (c0:=Gw rs ch ec) (pi:=pc) (so:=sp) (laid_of g1 hch4 hrs (by omega)) (k:=k) (v:=v45 v ch sp) v3 rfl rfl h5 nd L4' hcx4 hcy4 hcz4 ht4 T4 fun c s5 fs n sl gs gs2 ge kg gl eN esg els gx same hkx hsz hL5 hF hgl hG hE h520 hT5=>?_
 have St5:St0 w s5:=fun a o e=>hkx a o (S40 a o e) fun m=>by
  have m':a∈[L,cx,cy,cz]++[520,225]:=m
  rcases ιM m' with q | q
  ·rw [Cj w _ (h5 a q)] at e; cases e
  ·rcases ιC q with q | q
   ·rw [q,Jo w] at e; cases e
   ·rw [ιS q,K9 w] at e; cases e
 have k5:∀ {a:Nat} {o:Obj},524≤a→s4.heap.get? a=some o→o.cls≠.type "frame"→o.cls≠.type "cell"→s5.heap.get? a=some o:=fun {a o} ha e n1 n2=>hkx a o e fun m=>by
  have m':a∈[L,cx,cy,cz,520,225]:=m
  replace m':=ω9v m'
  rcases m' with q | q | q | q | q | q
  ·rw [q,L4'] at e; cases e; exact n1 rfl
  ·rw [q,hcx4] at e; cases e; exact n2 rfl
  ·rw [q,hcy4] at e; cases e; exact n2 rfl
  ·rw [q,hcz4] at e; cases e; exact n2 rfl
  ·omega
  ·omega
 have TX:Ce c x:=txt_of (hcp.trans ex.symm).symm eN esg
 have er:AH c=Bd x (x.length+1) 0:=(lexed_read TX.ones).trans (by rw [TX.read,TX.len])
 rw [er] at hG hE
 refine JE W hA St5 (Cj w _ g5) hF hL5 (k5 (ιT h524 t3') hpc4 (by simp) (by simp)) allS (Nat.succ_le_succ hp0) (ιT (Nat.succ_le_succ hpl) (by decide)) (k5 g2 hsp4 (by simp) (by simp)) (fun i hi=>?_) hgl hG hE ex lx ?_ fun s6 a6=>?_
 ·have hi':i<rs.length:=by rw [lrs]; exact hi
  obtain⟨R,tr,C,tc,e1,e2,e3⟩:=(hrs _ (BZ hi')).hp
  refine⟨(rs.getD i r0).sp,?_,?_⟩
  ·unfold sps
   rw [List.getElem?_map,List.getElem?_eq_getElem hi',List.getD_eq_getElem?_getD,List.getElem?_eq_getElem hi']
   rfl
  ·rw [els]
   show s5.heap.get? _=some (AQ [(rs.getD i r0).ls 3,(rs.getD i r0).ls 0])
   rw [e1,e2]
   exact k5 (hrs _ (BZ hi')).low.2.2.2 e3 (by simp) (by simp)
 ·obtain⟨y,tk,rfl,o⟩:=hp1
  exact opens_first (r:=ps.flatMap pcp) (by rw [ex]; rfl) o
 ·have lo6:∀ {a:Nat} {o:Obj},a<524→s5.heap.get? a=some o→s6.heap.get? a=some o:=fun {a o} ha e=>a6.keep _ _ e fun m=>by rw [ιS m] at ha; exact Nat.lt_irrefl _ (ιL ha g5)
  refine h s6 ?_ ?_ ?_ ?_ ?_
  ·have e1:=a1.same; have e2:=a2.same; have e3:=a3.same; have e4:=B1.same; have e5:=same; have e6:=a6.same
   rw [e1] at e2; rw [e2] at e3; rw [e3] at e4; rw [e4] at e5; rw [e5] at e6
   exact e6
  ·exact((((a1.gens.trans a2.gens).trans a3.gens).trans B1.gens).trans gx).trans a6.gens
  ·intro b o e hb
   have hb':(b:Nat)<(st.heap.objs.size:Nat):=ιH e
   have n1:b≠L:=fun q=>hb (by rw [q]; exact m0)
   exact a6.keep _ _ (hkx _ _ (kp hb' e n1) hb) fun m=>n1 (ιS m)
  ·obtain⟨more,e⟩:=h520
   exact⟨more,lo6 (by decide) e⟩
  ·obtain⟨⟨more⟩,_,_,t⟩:=hT5
   exact⟨more,lo6 (by decide) t⟩
end
section
variable(w:World)(f:Fl)(ext:Addr→Option Obj)(n t sc:Nat)
def lwE:Res:=
 run (P2 w f ext n t 0) 19 [1,1] [] [] 0 0 .tree
  (ent w ext 523 [.ref sc]) [] [] []
theorem lwE_v:RvD (lwE w f ext n t sc) [0,1,2,3] (.again (.func (A0 w 523) (Ai w n (n+1) (n+2) (n+3)))) 1 4 1 [some (n,fr1 w t (.ref sc)),some (n+1,An none),some (n+2,An none),some (n+3,An none)] []:=by rcases f with⟨_ | _,_,_⟩ <;> kernel_rfl
end
theorem world02(w:World):Ae w where
 nolimit:=fun h H=>by
  have e:h.get? 2=some (o2 w.params):=H 2 _ (by kernel_rfl)
  obtain⟨es,ed,k1,k2⟩:∃ es:List DictEntry,(o2 w.params).data=.dict ⟨es⟩ 2∧(∀ e∈es,∃ n t,e.key=.str n t)∧nsFind ⟨es⟩ "sys.recursionlimit" = none:=⟨_,rfl,Ab ⟨_,_,rfl⟩ (Ab ⟨_,_,rfl⟩ Aa),by kernel_rfl⟩
  exact⟨fun name=>nsFind ⟨es⟩ name,⟨o2 w.params,⟨es⟩,2,e,ed,fun x hx=>k1 x (by simpa using hx),fun _=>rfl⟩,k2⟩
theorem fn523(w:World)(ext:Addr→Option Obj):FO (lkX w ext) (lkX w ext 523)=true:=by kernel_rfl
theorem K0(w:World):lk w 229=some (Jn w.params):=by kernel_rfl
theorem tab0{w:World}{st:Shared}(S:Ak w no st)(h225:st.heap.get? 225=some (oP [])):Tab st.heap 229 225 ⟨[]⟩:=by
 have e:st.heap.get? 229=some (Jn w.params):=S _ _ (by unfold lkX; rw [K0])
 obtain⟨vs,ed,e11,e18,e7,e9,e10⟩:∃ vs:Array Value,(Jn w.params).data=.fields vs∧vs[11]? = some (.ref 225)∧(∃ a b,vs.getD 18 .none=.str a b)∧(∃ a b,vs.getD 7 .none=.int a b)∧(∃ a,vs.getD 9 .none=.bool a)∧(∃ a b,vs.getD 10 .none=.int a b):=⟨_,rfl,rfl,⟨_,_,rfl⟩,⟨_,_,rfl⟩,⟨_,rfl⟩,⟨_,_,rfl⟩⟩
 obtain⟨a18,b18,e18⟩:=e18
 obtain⟨a7,b7,e7⟩:=e7
 obtain⟨a9,e9⟩:=e9
 obtain⟨a10,b10,e10⟩:=e10
 have e11':vs.getD 11 .none=.ref 225:=by
  rw [Array.getD_eq_getD_getElem?,e11]; rfl
 exact⟨⟨_,vs,a18,b18,a7,b7,a9,a10,b10,_,e,ed,e11',e18,e7,e9,e10,h225,rfl,by trivial,by decide⟩,⟨⟨_,vs,e,rfl,ed,e11⟩,h225⟩⟩
theorem holds_at{h:Heap}{K:Frag}{t:KT}(e:KT.of K=t)(A:AllIn h K){a:Addr}{o:Obj}(g:t.get a=some o):h.get? a=some o:=by
 subst e
 exact kt_at (holds_of A) g
theorem IW{w:World}{h:Heap}(A:AllIn h (Jg w.params)){a:Addr}{o:Obj}(e:lk w a=some o):h.get? a=some o:=holds_at (ktY_eq w.params) A e
theorem tail2{h:Heap}{p q:Addr×Obj}{K:Frag}(A:AllIn h (p::q::K)):h.get? p.1=some p.2∧h.get? q.1=some q.2∧AllIn h K:=⟨A.1,A.2.1,A.2.2⟩
theorem objZ_tail{w:World}{h:Heap}(A:AllIn h (He w.params)):h.get? 225=some (oP [])∧h.get? 520=some (oP [])∧AllIn h (Jg w.params):=by
 unfold He at A
 exact tail2 A
theorem room0(w:World)(L cx cy cz:Nat):Ar (callerA.deeper (Ai w L cx cy cz)) 690:=⟨rfl,by show 1+claimMargin+1+690<recursionLimit; decide,by show 4+3+10*690<cLine; decide⟩
theorem room1:Ar callerA 690:=⟨rfl,by decide,by decide⟩
theorem law_call{w:World}{st:Shared}(S:Ak w no st)(hn:st.heap.objs.size=525){vs:List Value}(hsc:st.heap.get? 524=some (lst vs 0))(hx:∀ v∈vs,∃ z tz,v=.int z tz)(hz:vs.length≤100)(h520:st.heap.get? 520=some (oP []))(h225:st.heap.get? 225=some (oP []))
  (h:∀ s',s'={st with heap:=s'.heap,toks:=s'.toks,gens:=s'.gens}→By st.gens s'.gens→(∀ b o,st.heap.get? b=some o→b≠520→b≠225→s'.heap.get? b=some o)→(∃ more,s'.heap.get? 520=some (oP more))→(∃ more,s'.heap.get? 225=some (oP more))→R (.ok (.ret (.bool true))) s') :
  codeAny (model pr2 w) callerA (.call (.ref 523) ⟨[.ref 524],[]⟩) R st:=by
 have W:=world02 w
 refine Bv S (fn523 w no) (by decide) ?_
 refine AR (BC (t:=st.toks) (ro:=0) W S room1 (by decide)) rfl (lwE_v _ _ _ _ _ 524) (vs:=[]) Aa
  (Inv.MH S (reads:=[]) (pre:=[]) Aa ιN Aa ιN Aa) fun s1 I1 H1=>?_
 have S1:Ak w no s1:=I1.stat
 have a1:Aft [] st s1:=I1.aft
 have k1:∀ {b:Nat} {o:Obj},st.heap.get? b=some o→s1.heap.get? b=some o:=fun e=>a1.keep _ _ e (nomatch ·)
 have hL:=H1 _ m0
 have hX:=H1 _ m1
 have hY:=H1 _ m2
 have hZ:=H1 _ m3
 rw [hn] at hL hX hY hZ ⊢
 refine ιp ⟨W.nolimit _ fun a o e=>S1 a o (by unfold lkX; rw [e]),rfl,codeAny_func ?_⟩
 refine law_body W (room0 w 525 526 527 528) rfl S1 (by decide) (by decide) (by decide) (by decide) hL (k1 hsc) hx hz hX hY hZ (k1 h520) ⟨_,(tab0 S h225).at fun b o _ e=>k1 e⟩ fun s2 e1 g1 kx m5 m2=>?_
 refine h s2 ?_ (a1.gens.trans g1) (fun b o e n1 n2=>kx b o (k1 e) fun m=>?_) m5 m2
 ·have e0:=a1.same
  rw [e0] at e1
  exact e1
 ·have lb:(b:Nat)<525:=by have:=ιH e; rw [hn] at this; exact this
  replace m:=ω9v m
  rcases m with q | q | q | q | q | q
  ·rw [q] at lb; exact absurd lb (by decide)
  ·rw [q] at lb; exact absurd lb (by decide)
  ·rw [q] at lb; exact absurd lb (by decide)
  ·rw [q] at lb; exact absurd lb (by decide)
  ·exact n1 q
  ·exact n2 q
theorem FK:∀ {vs:List Value} {ns:List Int},IntsAre vs ns→vs.length=ns.length∧∀ v∈vs,∃ z tz,v=.int z tz
 | _,_,.nil=>⟨rfl,Aa⟩
 | _,_,.cons _ _ h=>⟨congrArg (· + 1) (FK h).1,Ab ⟨_,_,rfl⟩ (FK h).2⟩
theorem lk522(w:World):lk w 522=some (KQ w.params):=by kernel_rfl
theorem tabC{w:World}{h:Heap}(A:AllIn h (Jg w.params)):isCodeTable h 520∧isCodeTable h 225:=by
 have e:=IW A (lk522 w)
 have e2:=IW A (K0 w)
 exact⟨⟨522,_,_,e,rfl,rfl,rfl⟩,⟨229,_,_,e2,rfl,rfl,rfl⟩⟩
theorem HM{h h':Heap}{b:Nat}{o:Obj}(T:isCodeTable h b)(e:h.get? b=some o)(e0:h.get? b=some (oP []))(m:∃ more,h'.get? b=some (oP more)):asItWas h h' b o:=by
 rw [e0] at e
 cases e
 obtain⟨more,m⟩:=m
 refine .inr (.inl ⟨T,rfl,⟨[]⟩,⟨more⟩,rfl,?_⟩)
 rw [show(⟨[]⟩:Array Value)++⟨more⟩=⟨more⟩ from by simp]
 exact m
theorem holds02:PySem.Challenge.rw_rk0007_02.Holds:=by
 refine top02Z ?_
 intro w s₀ s₁ mg mb G y fa o pm cd doc dV kV ho hd hcd hD hmg hg args vals as L hpre hlay hrd hwl hlo
 obtain⟨ZA,ZI,ZN,ZT⟩:=z_facts keysZ_eq y
 have KX:(He w.params).In s₁.heap:=InK.keeps w s₀.heap s₁.heap ZI L.keeps
 refine Ground.open G ?_
 intro T B D TE TW
 wrow_args hpre hlay hrd hwl hlo
 obtain⟨hat,hsz⟩:=script_at L
 rw [ZN] at hat hsz
 subst hat
 x_fa T KX hmg
 clear hd hcd hD ho
 rename_i ns _ _ _ _ _ _ _ vs _ _ hI _ hl _ hL _ _
 obtain⟨l1,l2⟩:=FK hI
 obtain⟨z1,z2,z3⟩:=objZ_tail ZA
 refine wpAny_call (law_call (fun a o e=>?_) hsz (script_obj L hL) l2 (ω9h hl l1) (L.keeps _ _ z2) (L.keeps _ _ z1) fun s' e1 g1 k1 m5 m2=>?_)
 ·unfold lkX at e
  split at e
  ·rename_i q; cases e; exact L.keeps _ _ (IW z3 q)
  ·cases e
 ·have T:=tabC z3
  have T1:isCodeTable s₁.heap 520:=T.1.imp fun c ⟨o,vs,e,r⟩=>⟨o,vs,L.keeps _ _ e,r⟩
  have T2:isCodeTable s₁.heap 225:=T.2.imp fun c ⟨o,vs,e,r⟩=>⟨o,vs,L.keeps _ _ e,r⟩
  refine⟨.inl ⟨_,.bool true,[],rfl,fun _=>rfl,.bool true,?_,fun q=>?_⟩,⟨fun b o e=>?_,fun b o e=>?_⟩,by rw [e1],fun y hy=>?_⟩
  ·first | rfl | wrow_post
  ·exact⟨ιN,Aa⟩
  ·by_cases q1:b=520
   ·subst q1; exact HM T1 e (L.keeps _ _ z2) m5
   ·by_cases q2:b=225
    ·subst q2; exact HM T2 e (L.keeps _ _ z1) m2
    ·exact .inl (k1 b o e q1 q2)
  ·by_cases q1:b=520
   ·subst q1; exact m5.imp' _ fun _ e=>e
   ·by_cases q2:b=225
    ·subst q2; exact m2.imp' _ fun _ e=>e
    ·exact⟨o,k1 b o e q1 q2⟩
  ·obtain⟨i,hi⟩:=Array.getElem?_of_mem hy
   rcases g1.bare i y hi with q | q
   ·rw [hg] at q; simp at q
   ·exact q
end
end Mine
theorem PySem.Challenge.cw_rk0007_02_holds : PySem.Challenge.rw_rk0007_02.Holds := by
  exact Mine.holds02
