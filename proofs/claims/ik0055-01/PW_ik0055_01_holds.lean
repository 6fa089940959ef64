import PyProof.Rows.All
import Wide.All
import OpenK.AllK
import Wide.FinOn
import KE.KSortAsk
import KE.KSortKey
import KE.KSortTup
import PyProof.PureInt
import PySem.Challenge.RW_ik0055_01
set_option Elab.async false
set_option maxRecDepth 100000
set_option maxHeartbeats 4000000
set_option linter.unusedVariables false
set_option synthInstance.maxHeartbeats 0
set_option synthInstance.maxSize 100000
set_option genInjectivity false
set_option genSizeOf false
set_option genSizeOfSpec false
namespace Mine
section
variable{G:Prop}
theorem x1{A:Sort _}{p:A→Prop}(h:∃a,p a)(k:∀a,p a→G):G:=h.elim fun a h1=>k a h1
theorem x2{p q:Prop}(h:p∧q)(k:p→q→G):G:=k h.1 h.2
theorem x23{A B:Sort _}{p:A→B→Prop}(h:∃a,∃b,p a b)(k:∀a,∀b,p a b→G):G:=h.elim fun a h1=>h1.elim fun b h2=>k a b h2
theorem x60{A:Sort _}{p:A→Prop}{q:Prop}(h:(∃a,p a)∧q)(k:∀a,p a→q→G):G:=h.1.elim fun a h1=>k a h1 h.2
theorem x0{A:Sort _}{p q:A→Prop}(h:∃a,p a∧q a)(k:∀a,p a→q a→G):G:=h.elim fun a h1=>k a h1.1 h1.2
theorem x8{A B C:Sort _}{p:A→B→C→Prop}(h:∃a,∃b,∃c,p a b c)(k:∀a,∀b,∀c,p a b c→G):G:=h.elim fun a h1=>h1.elim fun b h2=>h2.elim fun c h3=>k a b c h3
theorem x4{p q r:Prop}(h:p∧q∧r)(k:p→q→r→G):G:=k h.1 h.2.1 h.2.2
theorem x11{A B:Sort _}{p:Prop}{q:A→B→Prop}(h:p∧∃a,∃b,q a b)(k:p→∀a,∀b,q a b→G):G:=h.2.elim fun a h1=>h1.elim fun b h2=>k h.1 a b h2
theorem x3{p q r:Prop}(h:(p∧q)∧r)(k:p→q→r→G):G:=k h.1.1 h.1.2 h.2
theorem x12{A B:Sort _}{p q:A→B→Prop}(h:∃a,∃b,p a b∧q a b)(k:∀a,∀b,p a b→q a b→G):G:=h.elim fun a h1=>h1.elim fun b h2=>k a b h2.1 h2.2
theorem x45{A B C D:Sort _}{p:A→B→C→D→Prop}(h:∃a,∃b,∃c,∃d,p a b c d)(k:∀a,∀b,∀c,∀d,p a b c d→G):G:=h.elim fun a h1=>h1.elim fun b h2=>h2.elim fun c h3=>h3.elim fun d h4=>k a b c d h4
theorem x27{A:Sort _}{p q:Prop}{r:A→Prop}(h:p∧q∧∃a,r a)(k:p→q→∀a,r a→G):G:=h.2.2.elim fun a h1=>k h.1 h.2.1 a h1
theorem x5{A:Sort _}{p q r:A→Prop}(h:∃a,p a∧q a∧r a)(k:∀a,p a→q a→r a→G):G:=h.elim fun a h1=>k a h1.1 h1.2.1 h1.2.2
theorem x52{A B C:Sort _}{p:A→Prop}{q:A→B→C→Prop}(h:∃a,p a∧∃b,∃c,q a b c)(k:∀a,p a→∀b,∀c,q a b c→G):G:=h.elim fun a h1=>h1.2.elim fun b h2=>h2.elim fun c h3=>k a h1.1 b c h3
theorem x20{A B C:Sort _}{p q:A→B→C→Prop}(h:∃a,∃b,∃c,p a b c∧q a b c)(k:∀a,∀b,∀c,p a b c→q a b c→G):G:=h.elim fun a h1=>h1.elim fun b h2=>h2.elim fun c h3=>k a b c h3.1 h3.2
theorem x13{p q r s:Prop}(h:p∧q∧r∧s)(k:p→q→r→s→G):G:=k h.1 h.2.1 h.2.2.1 h.2.2.2
theorem x44{A B:Sort _}{p q:Prop}{r:A→B→Prop}(h:p∧q∧∃a,∃b,r a b)(k:p→q→∀a,∀b,r a b→G):G:=h.2.2.elim fun a h1=>h1.elim fun b h2=>k h.1 h.2.1 a b h2
theorem x10{A B:Sort _}{p q r:A→B→Prop}(h:∃a,∃b,p a b∧q a b∧r a b)(k:∀a,∀b,p a b→q a b→r a b→G):G:=h.elim fun a h1=>h1.elim fun b h2=>k a b h2.1 h2.2.1 h2.2.2
theorem x73{A:Sort _}{p:Prop}{q r s:A→Prop}(h:p∧∃a,q a∧r a∧s a)(k:p→∀a,q a→r a→s a→G):G:=h.2.elim fun a h1=>k h.1 a h1.1 h1.2.1 h1.2.2
theorem x22{A:Sort _}{p q r s:A→Prop}(h:∃a,p a∧q a∧r a∧s a)(k:∀a,p a→q a→r a→s a→G):G:=h.elim fun a h1=>k a h1.1 h1.2.1 h1.2.2.1 h1.2.2.2
theorem x21{A B C:Sort _}{p q:A→Prop}{r:A→B→C→Prop}(h:∃a,p a∧q a∧∃b,∃c,r a b c)(k:∀a,p a→q a→∀b,∀c,r a b c→G):G:=h.elim fun a h1=>h1.2.2.elim fun b h2=>h2.elim fun c h3=>k a h1.1 h1.2.1 b c h3
theorem x25{A B C:Sort _}{p q r:A→B→C→Prop}(h:∃a,∃b,∃c,p a b c∧q a b c∧r a b c)(k:∀a,∀b,∀c,p a b c→q a b c→r a b c→G):G:=h.elim fun a h1=>h1.elim fun b h2=>h2.elim fun c h3=>k a b c h3.1 h3.2.1 h3.2.2
theorem x17{p q r s t:Prop}(h:p∧q∧r∧s∧t)(k:p→q→r→s→t→G):G:=k h.1 h.2.1 h.2.2.1 h.2.2.2.1 h.2.2.2.2
theorem x65{p q r s t:Prop}(h:p∧q∧(r∧s)∧t)(k:p→q→r→s→t→G):G:=k h.1 h.2.1 h.2.2.1.1 h.2.2.1.2 h.2.2.2
theorem x63{A B:Sort _}{p q:Prop}{r s:A→B→Prop}(h:p∧q∧∃a,∃b,r a b∧s a b)(k:p→q→∀a,∀b,r a b→s a b→G):G:=h.2.2.elim fun a h1=>h1.elim fun b h2=>k h.1 h.2.1 a b h2.1 h2.2
theorem x6{p q r s t:Prop}(h:(p∧q)∧(r∧s)∧t)(k:p→q→r→s→t→G):G:=k h.1.1 h.1.2 h.2.1.1 h.2.1.2 h.2.2
theorem x15{A B:Sort _}{p q r s:A→B→Prop}(h:∃a,∃b,p a b∧q a b∧r a b∧s a b)(k:∀a,∀b,p a b→q a b→r a b→s a b→G):G:=h.elim fun a h1=>h1.elim fun b h2=>k a b h2.1 h2.2.1 h2.2.2.1 h2.2.2.2
theorem x41{A B C D H I:Sort _}{p q:A→B→C→D→H→I→Prop}(h:∃a,∃b,∃c,∃d,∃e,∃f,p a b c d e f∧q a b c d e f)(k:∀a,∀b,∀c,∀d,∀e,∀f,p a b c d e f→q a b c d e f→G):G:=h.elim fun a h1=>h1.elim fun b h2=>h2.elim fun c h3=>h3.elim fun d h4=>h4.elim fun e h5=>h5.elim fun f h6=>k a b c d e f h6.1 h6.2
theorem x53{A B C D H:Sort _}{p q:Prop}{r:A→B→C→D→H→Prop}(h:p∧q∧∃a,∃b,∃c,∃d,∃e,r a b c d e)(k:p→q→∀a,∀b,∀c,∀d,∀e,r a b c d e→G):G:=h.2.2.elim fun a h1=>h1.elim fun b h2=>h2.elim fun c h3=>h3.elim fun d h4=>h4.elim fun e h5=>k h.1 h.2.1 a b c d e h5
theorem x16{A:Sort _}{p q r s t:A→Prop}(h:∃a,p a∧q a∧r a∧s a∧t a)(k:∀a,p a→q a→r a→s a→t a→G):G:=h.elim fun a h1=>k a h1.1 h1.2.1 h1.2.2.1 h1.2.2.2.1 h1.2.2.2.2
theorem x48{A B C:Sort _}{p q r s:A→B→C→Prop}(h:∃a,∃b,∃c,p a b c∧q a b c∧r a b c∧s a b c)(k:∀a,∀b,∀c,p a b c→q a b c→r a b c→s a b c→G):G:=h.elim fun a h1=>h1.elim fun b h2=>h2.elim fun c h3=>k a b c h3.1 h3.2.1 h3.2.2.1 h3.2.2.2
theorem x24{p q r s t u:Prop}(h:p∧q∧r∧s∧t∧u)(k:p→q→r→s→t→u→G):G:=k h.1 h.2.1 h.2.2.1 h.2.2.2.1 h.2.2.2.2.1 h.2.2.2.2.2
theorem x69{A B:Sort _}{p q r:Prop}{s t:A→B→Prop}(h:p∧q∧r∧∃a,∃b,s a b∧t a b)(k:p→q→r→∀a,∀b,s a b→t a b→G):G:=h.2.2.2.elim fun a h1=>h1.elim fun b h2=>k h.1 h.2.1 h.2.2.1 a b h2.1 h2.2
theorem x47{A B:Sort _}{p q:Prop}{r s t:A→B→Prop}(h:p∧q∧∃a,∃b,r a b∧s a b∧t a b)(k:p→q→∀a,∀b,r a b→s a b→t a b→G):G:=h.2.2.elim fun a h1=>h1.elim fun b h2=>k h.1 h.2.1 a b h2.1 h2.2.1 h2.2.2
theorem x40{A B:Sort _}{p q:A→Prop}{r s t:A→B→Prop}(h:∃a,p a∧q a∧∃b,r a b∧s a b∧t a b)(k:∀a,p a→q a→∀b,r a b→s a b→t a b→G):G:=h.elim fun a h1=>h1.2.2.elim fun b h2=>k a h1.1 h1.2.1 b h2.1 h2.2.1 h2.2.2
theorem x29{A B:Sort _}{p q r s t:A→B→Prop}(h:∃a,∃b,p a b∧q a b∧r a b∧s a b∧t a b)(k:∀a,∀b,p a b→q a b→r a b→s a b→t a b→G):G:=h.elim fun a h1=>h1.elim fun b h2=>k a b h2.1 h2.2.1 h2.2.2.1 h2.2.2.2.1 h2.2.2.2.2
theorem x26{A B C D H:Sort _}{p q:Prop}{r s:A→B→C→D→H→Prop}(h:p∧q∧∃a,∃b,∃c,∃d,∃e,r a b c d e∧s a b c d e)(k:p→q→∀a,∀b,∀c,∀d,∀e,r a b c d e→s a b c d e→G):G:=h.2.2.elim fun a h1=>h1.elim fun b h2=>h2.elim fun c h3=>h3.elim fun d h4=>h4.elim fun e h5=>k h.1 h.2.1 a b c d e h5.1 h5.2
theorem x61{A B C:Sort _}{p:A→Prop}{q r s t:A→B→C→Prop}(h:∃a,p a∧∃b,∃c,q a b c∧r a b c∧s a b c∧t a b c)(k:∀a,p a→∀b,∀c,q a b c→r a b c→s a b c→t a b c→G):G:=h.elim fun a h1=>h1.2.elim fun b h2=>h2.elim fun c h3=>k a h1.1 b c h3.1 h3.2.1 h3.2.2.1 h3.2.2.2
theorem x42{A B C:Sort _}{p q r s:A→B→Prop}{t:A→B→C→Prop}(h:∃a,∃b,p a b∧q a b∧r a b∧s a b∧∃c,t a b c)(k:∀a,∀b,p a b→q a b→r a b→s a b→∀c,t a b c→G):G:=h.elim fun a h1=>h1.elim fun b h2=>h2.2.2.2.2.elim fun c h3=>k a b h2.1 h2.2.1 h2.2.2.1 h2.2.2.2.1 c h3
theorem x28{A B C:Sort _}{p q r s t:A→B→C→Prop}(h:∃a,∃b,∃c,p a b c∧q a b c∧r a b c∧s a b c∧t a b c)(k:∀a,∀b,∀c,p a b c→q a b c→r a b c→s a b c→t a b c→G):G:=h.elim fun a h1=>h1.elim fun b h2=>h2.elim fun c h3=>k a b c h3.1 h3.2.1 h3.2.2.1 h3.2.2.2.1 h3.2.2.2.2
theorem x50{p q r s t u v:Prop}(h:p∧q∧r∧s∧t∧u∧v)(k:p→q→r→s→t→u→v→G):G:=k h.1 h.2.1 h.2.2.1 h.2.2.2.1 h.2.2.2.2.1 h.2.2.2.2.2.1 h.2.2.2.2.2.2
theorem x71{A B:Sort _}{p q r s:Prop}{t u:A→B→Prop}(h:p∧q∧r∧s∧∃a,∃b,t a b∧u a b)(k:p→q→r→s→∀a,∀b,t a b→u a b→G):G:=h.2.2.2.2.elim fun a h1=>h1.elim fun b h2=>k h.1 h.2.1 h.2.2.1 h.2.2.2.1 a b h2.1 h2.2
theorem x74{p q r s t u v:Prop}(h:p∧q∧(r∧s∧t∧u)∧v)(k:p→q→r→s→t→u→v→G):G:=k h.1 h.2.1 h.2.2.1.1 h.2.2.1.2.1 h.2.2.1.2.2.1 h.2.2.1.2.2.2 h.2.2.2
theorem x72{p q r s t u v:Prop}(h:p∧(q∧r∧s∧t)∧u∧v)(k:p→q→r→s→t→u→v→G):G:=k h.1 h.2.1.1 h.2.1.2.1 h.2.1.2.2.1 h.2.1.2.2.2 h.2.2.1 h.2.2.2
theorem x7{p q r s t u v:Prop}(h:(p∧q)∧(r∧s)∧(t∧u)∧v)(k:p→q→r→s→t→u→v→G):G:=k h.1.1 h.1.2 h.2.1.1 h.2.1.2 h.2.2.1.1 h.2.2.1.2 h.2.2.2
theorem x43{A B:Sort _}{p t u:Prop}{q r s:A→B→Prop}(h:(p∧∃a,∃b,q a b∧r a b∧s a b)∧t∧u)(k:p→∀a,∀b,q a b→r a b→s a b→t→u→G):G:=h.1.2.elim fun a h1=>h1.elim fun b h2=>k h.1.1 a b h2.1 h2.2.1 h2.2.2 h.2.1 h.2.2
theorem x34{A B C D H:Sort _}{p q t:Prop}{r s:A→B→C→D→H→Prop}(h:p∧q∧(∃a,∃b,∃c,∃d,∃e,r a b c d e∧s a b c d e)∧t)(k:p→q→∀a,∀b,∀c,∀d,∀e,r a b c d e→s a b c d e→t→G):G:=h.2.2.1.elim fun a h1=>h1.elim fun b h2=>h2.elim fun c h3=>h3.elim fun d h4=>h4.elim fun e h5=>k h.1 h.2.1 a b c d e h5.1 h5.2 h.2.2.2
theorem x68{p q r s t u v w:Prop}(h:p∧q∧r∧s∧(t∧u∧v)∧w)(k:p→q→r→s→t→u→v→w→G):G:=k h.1 h.2.1 h.2.2.1 h.2.2.2.1 h.2.2.2.2.1.1 h.2.2.2.2.1.2.1 h.2.2.2.2.1.2.2 h.2.2.2.2.2
theorem x70{p q r s t u v w:Prop}(h:p∧q∧(r∧s∧t)∧u∧v∧w)(k:p→q→r→s→t→u→v→w→G):G:=k h.1 h.2.1 h.2.2.1.1 h.2.2.1.2.1 h.2.2.1.2.2 h.2.2.2.1 h.2.2.2.2.1 h.2.2.2.2.2
theorem x31{A B C D H I:Sort _}{p q:Prop}{r s t:A→B→C→D→H→I→Prop}(h:p∧q∧∃a,∃b,∃c,∃d,∃e,∃f,r a b c d e f∧s a b c d e f∧t a b c d e f)(k:p→q→∀a,∀b,∀c,∀d,∀e,∀f,r a b c d e f→s a b c d e f→t a b c d e f→G):G:=h.2.2.elim fun a h1=>h1.elim fun b h2=>h2.elim fun c h3=>h3.elim fun d h4=>h4.elim fun e h5=>h5.elim fun f h6=>k h.1 h.2.1 a b c d e f h6.1 h6.2.1 h6.2.2
theorem x54{p q r s t u v w:Prop}(h:p∧(q∧r∧s∧t∧u)∧v∧w)(k:p→q→r→s→t→u→v→w→G):G:=k h.1 h.2.1.1 h.2.1.2.1 h.2.1.2.2.1 h.2.1.2.2.2.1 h.2.1.2.2.2.2 h.2.2.1 h.2.2.2
theorem x56{A:Sort _}{p q r s t u v w:A→Prop}(h:∃a,p a∧q a∧r a∧s a∧t a∧u a∧v a∧w a)(k:∀a,p a→q a→r a→s a→t a→u a→v a→w a→G):G:=h.elim fun a h1=>k a h1.1 h1.2.1 h1.2.2.1 h1.2.2.2.1 h1.2.2.2.2.1 h1.2.2.2.2.2.1 h1.2.2.2.2.2.2.1 h1.2.2.2.2.2.2.2
theorem x46{p q r s t u v w y:Prop}(h:p∧q∧(r∧s)∧(t∧u)∧(v∧w)∧y)(k:p→q→r→s→t→u→v→w→y→G):G:=k h.1 h.2.1 h.2.2.1.1 h.2.2.1.2 h.2.2.2.1.1 h.2.2.2.1.2 h.2.2.2.2.1.1 h.2.2.2.2.1.2 h.2.2.2.2.2
theorem x58{p q r s t u v w y:Prop}(h:p∧(q∧r∧s∧t∧u∧v∧w)∧y)(k:p→q→r→s→t→u→v→w→y→G):G:=k h.1 h.2.1.1 h.2.1.2.1 h.2.1.2.2.1 h.2.1.2.2.2.1 h.2.1.2.2.2.2.1 h.2.1.2.2.2.2.2.1 h.2.1.2.2.2.2.2.2 h.2.2
theorem x9{p q r s t u v w y:Prop}(h:(p∧q)∧(r∧s)∧(t∧u)∧(v∧w)∧y)(k:p→q→r→s→t→u→v→w→y→G):G:=k h.1.1 h.1.2 h.2.1.1 h.2.1.2 h.2.2.1.1 h.2.2.1.2 h.2.2.2.1.1 h.2.2.2.1.2 h.2.2.2.2
theorem x59{A B C D:Sort _}{p q r s t:A→B→C→D→Prop}{u v:Prop}(h:(∃a,∃b,∃c,∃d,p a b c d∧q a b c d∧r a b c d∧s a b c d∧t a b c d)∧u∧v)(k:∀a,∀b,∀c,∀d,p a b c d→q a b c d→r a b c d→s a b c d→t a b c d→u→v→G):G:=h.1.elim fun a h1=>h1.elim fun b h2=>h2.elim fun c h3=>h3.elim fun d h4=>k a b c d h4.1 h4.2.1 h4.2.2.1 h4.2.2.2.1 h4.2.2.2.2 h.2.1 h.2.2
theorem x57{A B C D H:Sort _}{p q:Prop}{r s t u v:A→B→C→D→H→Prop}(h:p∧q∧∃a,∃b,∃c,∃d,∃e,(r a b c d e∧s a b c d e)∧(t a b c d e∧u a b c d e)∧v a b c d e)(k:p→q→∀a,∀b,∀c,∀d,∀e,r a b c d e→s a b c d e→t a b c d e→u a b c d e→v a b c d e→G):G:=h.2.2.elim fun a h1=>h1.elim fun b h2=>h2.elim fun c h3=>h3.elim fun d h4=>h4.elim fun e h5=>k h.1 h.2.1 a b c d e h5.1.1 h5.1.2 h5.2.1.1 h5.2.1.2 h5.2.2
theorem x64{A B C D:Sort _}{p q r:Prop}{s t u v w:A→B→C→D→Prop}(h:p∧q∧r∧∃a,∃b,∃c,∃d,s a b c d∧t a b c d∧u a b c d∧v a b c d∧w a b c d)(k:p→q→r→∀a,∀b,∀c,∀d,s a b c d→t a b c d→u a b c d→v a b c d→w a b c d→G):G:=h.2.2.2.elim fun a h1=>h1.elim fun b h2=>h2.elim fun c h3=>h3.elim fun d h4=>k h.1 h.2.1 h.2.2.1 a b c d h4.1 h4.2.1 h4.2.2.1 h4.2.2.2.1 h4.2.2.2.2
theorem x67{A B C D:Sort _}{p q:Prop}{r s t u v w:A→B→C→D→Prop}(h:p∧q∧∃a,∃b,∃c,∃d,r a b c d∧s a b c d∧t a b c d∧u a b c d∧v a b c d∧w a b c d)(k:p→q→∀a,∀b,∀c,∀d,r a b c d→s a b c d→t a b c d→u a b c d→v a b c d→w a b c d→G):G:=h.2.2.elim fun a h1=>h1.elim fun b h2=>h2.elim fun c h3=>h3.elim fun d h4=>k h.1 h.2.1 a b c d h4.1 h4.2.1 h4.2.2.1 h4.2.2.2.1 h4.2.2.2.2.1 h4.2.2.2.2.2
theorem x30{A B C D H I:Sort _}{p q:Prop}{r s t u v:A→B→C→D→H→I→Prop}(h:p∧q∧∃a,∃b,∃c,∃d,∃e,∃f,r a b c d e f∧s a b c d e f∧t a b c d e f∧u a b c d e f∧v a b c d e f)(k:p→q→∀a,∀b,∀c,∀d,∀e,∀f,r a b c d e f→s a b c d e f→t a b c d e f→u a b c d e f→v a b c d e f→G):G:=h.2.2.elim fun a h1=>h1.elim fun b h2=>h2.elim fun c h3=>h3.elim fun d h4=>h4.elim fun e h5=>h5.elim fun f h6=>k h.1 h.2.1 a b c d e f h6.1 h6.2.1 h6.2.2.1 h6.2.2.2.1 h6.2.2.2.2
theorem x49{A B C D H:Sort _}{p q:Prop}{r s t u v w:A→B→C→D→H→Prop}(h:p∧q∧∃a,∃b,∃c,∃d,∃e,r a b c d e∧(s a b c d e∧t a b c d e)∧(u a b c d e∧v a b c d e)∧w a b c d e)(k:p→q→∀a,∀b,∀c,∀d,∀e,r a b c d e→s a b c d e→t a b c d e→u a b c d e→v a b c d e→w a b c d e→G):G:=h.2.2.elim fun a h1=>h1.elim fun b h2=>h2.elim fun c h3=>h3.elim fun d h4=>h4.elim fun e h5=>k h.1 h.2.1 a b c d e h5.1 h5.2.1.1 h5.2.1.2 h5.2.2.1.1 h5.2.2.1.2 h5.2.2.2
theorem x62{A B C D H I J:Sort _}{p q:Prop}{r s t u v:A→B→C→D→H→I→J→Prop}(h:p∧q∧∃a,∃b,∃c,∃d,∃e,∃f,∃g,r a b c d e f g∧s a b c d e f g∧t a b c d e f g∧u a b c d e f g∧v a b c d e f g)(k:p→q→∀a,∀b,∀c,∀d,∀e,∀f,∀g,r a b c d e f g→s a b c d e f g→t a b c d e f g→u a b c d e f g→v a b c d e f g→G):G:=h.2.2.elim fun a h1=>h1.elim fun b h2=>h2.elim fun c h3=>h3.elim fun d h4=>h4.elim fun e h5=>h5.elim fun f h6=>h6.elim fun g h7=>k h.1 h.2.1 a b c d e f g h7.1 h7.2.1 h7.2.2.1 h7.2.2.2.1 h7.2.2.2.2
theorem x37{A B C D H:Sort _}{p q r s t u v w:A→B→C→D→H→Prop}(h:∃a,∃b,∃c,∃d,∃e,p a b c d e∧q a b c d e∧r a b c d e∧s a b c d e∧t a b c d e∧u a b c d e∧v a b c d e∧w a b c d e)(k:∀a,∀b,∀c,∀d,∀e,p a b c d e→q a b c d e→r a b c d e→s a b c d e→t a b c d e→u a b c d e→v a b c d e→w a b c d e→G):G:=h.elim fun a h1=>h1.elim fun b h2=>h2.elim fun c h3=>h3.elim fun d h4=>h4.elim fun e h5=>k a b c d e h5.1 h5.2.1 h5.2.2.1 h5.2.2.2.1 h5.2.2.2.2.1 h5.2.2.2.2.2.1 h5.2.2.2.2.2.2.1 h5.2.2.2.2.2.2.2
theorem x38{A B C D H I:Sort _}{p q w:Prop}{r s t u v:A→B→C→D→H→I→Prop}(h:p∧q∧(∃a,∃b,∃c,∃d,∃e,∃f,r a b c d e f∧s a b c d e f∧t a b c d e f∧u a b c d e f∧v a b c d e f)∧w)(k:p→q→∀a,∀b,∀c,∀d,∀e,∀f,r a b c d e f→s a b c d e f→t a b c d e f→u a b c d e f→v a b c d e f→w→G):G:=h.2.2.1.elim fun a h1=>h1.elim fun b h2=>h2.elim fun c h3=>h3.elim fun d h4=>h4.elim fun e h5=>h5.elim fun f h6=>k h.1 h.2.1 a b c d e f h6.1 h6.2.1 h6.2.2.1 h6.2.2.2.1 h6.2.2.2.2 h.2.2.2
theorem x19{A B C D H I:Sort _}{p q:Prop}{r s t u v w:A→B→C→D→H→I→Prop}(h:p∧q∧∃a,∃b,∃c,∃d,∃e,∃f,r a b c d e f∧s a b c d e f∧t a b c d e f∧u a b c d e f∧v a b c d e f∧w a b c d e f)(k:p→q→∀a,∀b,∀c,∀d,∀e,∀f,r a b c d e f→s a b c d e f→t a b c d e f→u a b c d e f→v a b c d e f→w a b c d e f→G):G:=h.2.2.elim fun a h1=>h1.elim fun b h2=>h2.elim fun c h3=>h3.elim fun d h4=>h4.elim fun e h5=>h5.elim fun f h6=>k h.1 h.2.1 a b c d e f h6.1 h6.2.1 h6.2.2.1 h6.2.2.2.1 h6.2.2.2.2.1 h6.2.2.2.2.2
theorem x18{p q r s t u v w y z p0:Prop}(h:(p∧q)∧(r∧s)∧(t∧u)∧(v∧w)∧(y∧z)∧p0)(k:p→q→r→s→t→u→v→w→y→z→p0→G):G:=k h.1.1 h.1.2 h.2.1.1 h.2.1.2 h.2.2.1.1 h.2.2.1.2 h.2.2.2.1.1 h.2.2.2.1.2 h.2.2.2.2.1.1 h.2.2.2.2.1.2 h.2.2.2.2.2
theorem x35{A B C D H I J:Sort _}{p q w:Prop}{r s t u v:A→B→C→D→H→I→J→Prop}(h:p∧q∧(∃a,∃b,∃c,∃d,∃e,∃f,∃g,r a b c d e f g∧s a b c d e f g∧t a b c d e f g∧u a b c d e f g∧v a b c d e f g)∧w)(k:p→q→∀a,∀b,∀c,∀d,∀e,∀f,∀g,r a b c d e f g→s a b c d e f g→t a b c d e f g→u a b c d e f g→v a b c d e f g→w→G):G:=h.2.2.1.elim fun a h1=>h1.elim fun b h2=>h2.elim fun c h3=>h3.elim fun d h4=>h4.elim fun e h5=>h5.elim fun f h6=>h6.elim fun g h7=>k h.1 h.2.1 a b c d e f g h7.1 h7.2.1 h7.2.2.1 h7.2.2.2.1 h7.2.2.2.2 h.2.2.2
theorem x33{p q r s t u v w y z p0 p1:Prop}(h:p∧q∧(r∧s∧t∧u∧v∧w∧y∧z)∧p0∧p1)(k:p→q→r→s→t→u→v→w→y→z→p0→p1→G):G:=k h.1 h.2.1 h.2.2.1.1 h.2.2.1.2.1 h.2.2.1.2.2.1 h.2.2.1.2.2.2.1 h.2.2.1.2.2.2.2.1 h.2.2.1.2.2.2.2.2.1 h.2.2.1.2.2.2.2.2.2.1 h.2.2.1.2.2.2.2.2.2.2 h.2.2.2.1 h.2.2.2.2
theorem x39{p q r s t u v w y z p0 p1 p2:Prop}(h:p∧(q∧r∧s∧t∧u∧v∧w)∧y∧z∧p0∧p1∧p2)(k:p→q→r→s→t→u→v→w→y→z→p0→p1→p2→G):G:=k h.1 h.2.1.1 h.2.1.2.1 h.2.1.2.2.1 h.2.1.2.2.2.1 h.2.1.2.2.2.2.1 h.2.1.2.2.2.2.2.1 h.2.1.2.2.2.2.2.2 h.2.2.1 h.2.2.2.1 h.2.2.2.2.1 h.2.2.2.2.2.1 h.2.2.2.2.2.2
theorem x14{p q r s t u v w y z p0 p1 p2:Prop}(h:(p∧q)∧(r∧s)∧(t∧u)∧(v∧w)∧(y∧z)∧(p0∧p1)∧p2)(k:p→q→r→s→t→u→v→w→y→z→p0→p1→p2→G):G:=k h.1.1 h.1.2 h.2.1.1 h.2.1.2 h.2.2.1.1 h.2.2.1.2 h.2.2.2.1.1 h.2.2.2.1.2 h.2.2.2.2.1.1 h.2.2.2.2.1.2 h.2.2.2.2.2.1.1 h.2.2.2.2.2.1.2 h.2.2.2.2.2.2
theorem x66{A B C D H I J K L:Sort _}{p q r:Prop}{s t u v w y z:A→B→C→D→H→I→J→K→L→Prop}(h:p∧q∧r∧∃a,∃b,∃c,∃d,∃e,∃f,∃g,∃i,∃j,s a b c d e f g i j∧t a b c d e f g i j∧u a b c d e f g i j∧v a b c d e f g i j∧w a b c d e f g i j∧y a b c d e f g i j∧z a b c d e f g i j)(k:p→q→r→∀a,∀b,∀c,∀d,∀e,∀f,∀g,∀i,∀j,s a b c d e f g i j→t a b c d e f g i j→u a b c d e f g i j→v a b c d e f g i j→w a b c d e f g i j→y a b c d e f g i j→z a b c d e f g i j→G):G:=h.2.2.2.elim fun a h1=>h1.elim fun b h2=>h2.elim fun c h3=>h3.elim fun d h4=>h4.elim fun e h5=>h5.elim fun f h6=>h6.elim fun g h7=>h7.elim fun i h8=>h8.elim fun j h9=>k h.1 h.2.1 h.2.2.1 a b c d e f g i j h9.1 h9.2.1 h9.2.2.1 h9.2.2.2.1 h9.2.2.2.2.1 h9.2.2.2.2.2.1 h9.2.2.2.2.2.2
theorem x51{A B C D H I:Sort _}{p q:Prop}{r s t u v w y z p0 p1:A→B→C→D→H→I→Prop}(h:p∧q∧∃a,∃b,∃c,∃d,∃e,∃f,r a b c d e f∧((s a b c d e f∧t a b c d e f)∧(u a b c d e f∧v a b c d e f)∧w a b c d e f)∧y a b c d e f∧z a b c d e f∧p0 a b c d e f∧p1 a b c d e f)(k:p→q→∀a,∀b,∀c,∀d,∀e,∀f,r a b c d e f→s a b c d e f→t a b c d e f→u a b c d e f→v a b c d e f→w a b c d e f→y a b c d e f→z a b c d e f→p0 a b c d e f→p1 a b c d e f→G):G:=h.2.2.elim fun a h1=>h1.elim fun b h2=>h2.elim fun c h3=>h3.elim fun d h4=>h4.elim fun e h5=>h5.elim fun f h6=>k h.1 h.2.1 a b c d e f h6.1 h6.2.1.1.1 h6.2.1.1.2 h6.2.1.2.1.1 h6.2.1.2.1.2 h6.2.1.2.2 h6.2.2.1 h6.2.2.2.1 h6.2.2.2.2.1 h6.2.2.2.2.2
theorem x55{p q r s t u v w y z p0 p1 p2 p3 p4:Prop}(h:(p∧q)∧(r∧s)∧(t∧u)∧(v∧w)∧(y∧z)∧(p0∧p1)∧(p2∧p3)∧p4)(k:p→q→r→s→t→u→v→w→y→z→p0→p1→p2→p3→p4→G):G:=k h.1.1 h.1.2 h.2.1.1 h.2.1.2 h.2.2.1.1 h.2.2.1.2 h.2.2.2.1.1 h.2.2.2.1.2 h.2.2.2.2.1.1 h.2.2.2.2.1.2 h.2.2.2.2.2.1.1 h.2.2.2.2.2.1.2 h.2.2.2.2.2.2.1.1 h.2.2.2.2.2.2.1.2 h.2.2.2.2.2.2.2
theorem x36{A B C D H I J K L:Sort _}{p q r p0:Prop}{s t u v w y z:A→B→C→D→H→I→J→K→L→Prop}(h:p∧q∧(r∧∃a,∃b,∃c,∃d,∃e,∃f,∃g,∃i,∃j,s a b c d e f g i j∧t a b c d e f g i j∧u a b c d e f g i j∧v a b c d e f g i j∧w a b c d e f g i j∧y a b c d e f g i j∧z a b c d e f g i j)∧p0)(k:p→q→r→∀a,∀b,∀c,∀d,∀e,∀f,∀g,∀i,∀j,s a b c d e f g i j→t a b c d e f g i j→u a b c d e f g i j→v a b c d e f g i j→w a b c d e f g i j→y a b c d e f g i j→z a b c d e f g i j→p0→G):G:=h.2.2.1.2.elim fun a h1=>h1.elim fun b h2=>h2.elim fun c h3=>h3.elim fun d h4=>h4.elim fun e h5=>h5.elim fun f h6=>h6.elim fun g h7=>h7.elim fun i h8=>h8.elim fun j h9=>k h.1 h.2.1 h.2.2.1.1 a b c d e f g i j h9.1 h9.2.1 h9.2.2.1 h9.2.2.2.1 h9.2.2.2.2.1 h9.2.2.2.2.2.1 h9.2.2.2.2.2.2 h.2.2.2
theorem x32{p q r s t u v w y z p0 p1 p2 p3 p4 p5 p6:Prop}(h:(p∧q)∧(r∧s)∧(t∧u)∧(v∧w)∧(y∧z)∧(p0∧p1)∧(p2∧p3)∧(p4∧p5)∧p6)(k:p→q→r→s→t→u→v→w→y→z→p0→p1→p2→p3→p4→p5→p6→G):G:=k h.1.1 h.1.2 h.2.1.1 h.2.1.2 h.2.2.1.1 h.2.2.1.2 h.2.2.2.1.1 h.2.2.2.1.2 h.2.2.2.2.1.1 h.2.2.2.2.1.2 h.2.2.2.2.2.1.1 h.2.2.2.2.2.1.2 h.2.2.2.2.2.2.1.1 h.2.2.2.2.2.2.1.2 h.2.2.2.2.2.2.2.1.1 h.2.2.2.2.2.2.2.1.2 h.2.2.2.2.2.2.2.2
end
theorem lt2{P:Nat→Prop}{j:Nat}(h:j<2)(a:P 0)(b:P 1):P j:=by match j,h with|0,_=>exact a|1,_=>exact b
theorem lt3{P:Nat→Prop}{j:Nat}(h:j<3)(a:P 0)(b:P 1)(c:P 2):P j:=by match j,h with|0,_=>exact a|1,_=>exact b|2,_=>exact c
theorem lt4{P:Nat→Prop}{j:Nat}(h:j<4)(a:P 0)(b:P 1)(c:P 2)(d:P 3):P j:=by match j,h with|0,_=>exact a|1,_=>exact b|2,_=>exact c|3,_=>exact d
theorem lt6{P:Nat→Prop}{j:Nat}(h:j<6)(a:P 0)(b:P 1)(c:P 2)(d:P 3)(e:P 4)(f:P 5):P j:=by match j,h with|0,_=>exact a|1,_=>exact b|2,_=>exact c|3,_=>exact d|4,_=>exact e|5,_=>exact f
theorem kbE{P:Nat→Bool→Prop}(a:P 0 false)(b:P 1 true)(c:P 2 false)(d:P 3 false){k:Nat}(h:k<4){x:Bool}(e:(x != (k==1))=false):P k x:=by
 have:x=(k==1):=by revert e;cases x<;>cases(k==1)<;>decide
 rw[this]
 exact lt4 (P:=fun k=>P k (k==1)) h a b c d
theorem kbN{P:Nat→Bool→Prop}(a:P 0 true)(b:P 1 false)(c:P 2 true)(d:P 3 true){k:Nat}(h:k<4){x:Bool}(e:(x != (k==1))=true):P k x:=by
 have:x=(!(k==1)):=by revert e;cases x<;>cases(k==1)<;>decide
 rw[this]
 exact lt4 (P:=fun k=>P k (!(k==1))) h a b c d
theorem ne_ff{x y:Bool}(e:(x==y)=true):(x != y)=false:=by unfold bne;rw[e];rfl
theorem ne_tt{x y:Bool}(e:(x==y)=false):(x != y)=true:=by unfold bne;rw[e];rfl
theorem mx{α:Type}{l:List α}{y:α}(i:Nat)(h:l[i]? =some y):y∈l:=List.mem_of_getElem? h
end Mine
namespace Mine
open PySem PySem.W PySem.W.X
noncomputable def alt {α:Type} :List α→List α×List α
 | []=>([],[])
 | x::l=>(x::(alt l).2,(alt l).1)
theorem alt_len {α:Type} : ∀ l:List α,(alt l).1.length≤l.length∧(alt l).2.length≤l.length
 | []=>⟨Nat.le_refl _,Nat.le_refl _⟩
 | x::l=>⟨Nat.succ_le_succ (alt_len l).2,Nat.le_succ_of_le (alt_len l).1⟩
theorem alt_get {α:Type} : ∀ (l:List α) (i:Nat),(alt l).1[i]? =l[2 * i]? ∧(alt l).2[i]? =l[2 * i+1]?
 | [],i=>by simp [alt]
 | x::l,0=>by
  refine ⟨rfl,?_⟩
  show (alt l).1[0]? =l[0]?
  exact (alt_get l 0).1
 | x::l,i+1=>by
  refine ⟨?_,?_⟩
  ·show (alt l).2[i]? =l[2 * i+1]?
   exact (alt_get l i).2
  ·show (alt l).1[i+1]? =l[2 * (i+1)]?
   exact (alt_get l (i+1)).1
noncomputable def treeL:Nat→List Obj→BT
 | 0,_=>.nil
 | _+1,[]=>.nil
 | n+1,o::l=>.node o (treeL n (alt l).1) (treeL n (alt l).2)
theorem treeL_nil (n:Nat) (i:Nat):(treeL n []).get i=none:=by cases n<;>rfl
theorem treeL_get (n:Nat): ∀ (l:List Obj) (i:Nat),l.length≤n→(treeL n l).get i=l[i]? :=by
 induction n with
 | zero=>
  intro l i h
  rw [List.length_eq_zero_iff.mp (Nat.le_zero.mp h),treeL_nil]
  rfl
 | succ n ih=>
  intro l i h
  cases l with
  | nil=>rw [treeL_nil]; rfl
  | cons o l=>
   have h':l.length≤n:=Nat.le_of_succ_le_succ h
   unfold treeL
   rw [BT.get_node,ih _ _ (Nat.le_trans (alt_len l).1 h'),ih _ _ (Nat.le_trans (alt_len l).2 h'),(alt_get l _).1,(alt_get l _).2]
   rcases i with _ | i
   ·rfl
   ·rw [if_neg (Nat.succ_ne_zero i),List.getElem?_cons_succ]
    by_cases p:(i+1) % 2=1
    ·rw [if_pos p]
     congr 1
     lia
    ·rw [if_neg p]
     congr 1
     lia
noncomputable def toT (s:Shared):SharedT:=⟨treeL s.heap.objs.toList.length s.heap.objs.toList,s.heap.objs.toList.length,s.heap.life,s.gens,s.drawn,s.toks,s.os⟩
theorem toT_abs (s:Shared):(toT s).abs=s:=by
 obtain ⟨⟨objs,life⟩,gens,drawn,toks,os⟩:=s
 have:absHeap (treeL objs.toList.length objs.toList) objs.toList.length life=⟨objs,life⟩:=by
  have e:(absHeap (treeL objs.toList.length objs.toList) objs.toList.length life).objs=objs:=by
   apply Array.ext_getElem?
   intro i
   rw [absHeap_at,treeL_get _ _ _ (Nat.le_refl _),Array.getElem?_toList]
   by_cases h:i<objs.toList.length
   ·rw [if_pos h,Array.getElem?_eq_getElem (by simpa using h)]; rfl
   ·rw [if_neg h,Array.getElem?_eq_none (by simpa using h)]
  exact congrArg (Heap.mk · life) e
 exact congrArg (Shared.mk · gens drawn toks os) this
noncomputable section
noncomputable def StOk (p:Program) (w:World) (st:SharedT→Thread→Option (SharedT×Thread)):Prop:=∀ s t r,st s t=some r→PySem.step (denote treeTable) p w s.abs t= .go r.1.abs r.2
noncomputable def stF (p:Program) (w:World):SharedT→Thread→Option (SharedT×Thread):=PySem.W.Fast.tw10156331382660048174 (PySem.W.Fast.tw11892475500146522536 PySem.W.Fast.tw14364793385576792824) p w
theorem stF_ok (p:Program) (w:World):StOk p w (stF p w):=fun s t r h=>by
 unfold stF at h
 rw [←PySem.W.Fast.te10156331382660048174,←PySem.W.Fast.te11892475500146522536,←PySem.W.Fast.te14364793385576792824] at h
 exact stepT_spec h
noncomputable def impT (st:SharedT→Thread→Option (SharedT×Thread)):Nat→SharedT→Thread→Option SharedT
 | 0,_,_=>none
 | n+1,s,t=>match t.atExitBegin with
  | some l=>match l with
   | []=>some s
   | _::_=>none
  | none=>(st s t).bind fun r=>impT st n r.1 r.2
noncomputable def topT (so:Thread→Bool) (st:SharedT→Thread→Option (SharedT×Thread)):Nat→SharedT→Thread→Option SharedT
 | 0,_,_=>none
 | n+1,s,t=>match through t with
  | true=>some s
  | false=>match so t with
   | false=>none
   | true=>(st s t).bind fun r=>topT so st n r.1 r.2
theorem impT_of {q:Program} {w:World} {st:SharedT→Thread→Option (SharedT×Thread)} (hst:StOk q w st) (n:Nat): ∀ {s s':SharedT} {t:Thread},impT st n s t=some s'→importEnds treeTable q w n s.abs t=some s'.abs:=by
 induction n with
 | zero=>exact fun h=>nomatch h
 | succ n ih=>
  intro s s' t h
  unfold impT at h
  unfold importEnds
  cases he:t.atExitBegin with
  | some l=>
   rw [he] at h
   cases l with
   | nil=>cases h; rfl
   | cons _ _=>cases h
  | none=>
   rw [he] at h
   refine x2 (Option.bind_eq_some_iff.mp h).choose_spec fun h1 h2=>?_
   dsimp only
   rw [hst _ _ _ h1]
   exact ih h2
theorem topT_of {p:Program} {w:World} {n₀:Nat} {ann:Option Value} {so:Thread→Bool} (hso:so=stepOk n₀ ann) {st:SharedT→Thread→Option (SharedT×Thread)} (hst:StOk p w st) (n:Nat): ∀ {s s':SharedT} {t:Thread},topT so st n s t=some s'→topRun treeTable p w n₀ ann n s.abs t=some s'.abs:=by
 induction n with
 | zero=>exact fun h=>nomatch h
 | succ n ih=>
  intro s s' t h
  unfold topT at h
  unfold topRun
  cases he:through t with
  | true=>rw [he] at h; cases h; rfl
  | false=>
   rw [he] at h
   rw [←hso]
   cases hk:so t with
   | false=>rw [hk] at h; cases h
   | true=>
    rw [hk] at h
    refine x2 (Option.bind_eq_some_iff.mp h).choose_spec fun h1 h2=>?_
    dsimp only
    rw [hst _ _ _ h1]
    exact ih h2
noncomputable def opT (p:Program) (w:World) (N:Nat):Option Shared:=
 (impT (stF (opening p) w) N (toT (start (opening p)).1) (start (opening p)).2).bind fun s=>PySem.W.Fast.tw14289696077712309145 p s.abs
theorem opT_of {p:Program} {w:World} {N:Nat} {s:Shared} (h:opT p w N=some s):fencedOpening treeTable p w N=some s:=by
 unfold opT at h
 unfold fencedOpening
 rw [←PySem.W.Fast.te14289696077712309145] at h
 refine x2 (Option.bind_eq_some_iff.mp h).choose_spec fun h1 h2=>?_
 have:=impT_of (stF_ok _ _) _ h1
 rw [toT_abs] at this
 rw [this]
 exact h2
end
noncomputable section
noncomputable abbrev q (l:List Nat):Str:=Str.mk (Array.mk l)
noncomputable abbrev pw:Program:=PySem.Challenge.pw_ik0055_01
noncomputable def nthS:List Stmt→Nat→Stmt
 | [],_=>.Pass ⟨0,0,0,0⟩
 | x::l,i=>match Nat.beq i 0 with | true=>x | false=>nthS l (Nat.pred i)
structure FD where
 name:Str
 params:Arguments
 body:List Stmt
 scope:Scope
noncomputable def fdS:Stmt→FD
 | .FunctionDef n a b _ _ _ sc _ _ _=>⟨n,a,b,sc⟩
 | _=>⟨q [],⟨[],[],none,[],[],none,[]⟩,[],⟨.function,[],false,false,[]⟩⟩
noncomputable def clsB:Stmt→List Stmt
 | .ClassDef _ _ _ b _ _ _ _ _ _ _=>b
 | _=> []
noncomputable def topS (i:Nat):Stmt:=nthS pw.main.body i
noncomputable def fn (i:Nat):FD:=fdS (topS i)
noncomputable def meth (i:Nat):FD:=fdS (nthS (clsB (topS 17)) i)
noncomputable def fnO (f:FD) (qual:Str) (dflt pm cd:Value):Obj:=
 Obj.mk (Value.type SL.s7174869446012820540x8) none (Data.func (FuncData.mk f.name qual f.params (.stmts f.body) f.scope 3 [] dflt .none .none pm none cd .none 0)) (List.toArray [])
noncomputable def o2 (P:Params):Obj:=(Obj.mk Value.none Option.none (Data.dict (List.toArray [(DictEntry.mk (PyData.keyHash P (q [105,109,112,111,114,116,46,108,111,97,100,101,100,46,95,115,114,101])) (Value.str (q [105,109,112,111,114,116,46,108,111,97,100,101,100,46,95,115,114,101]) 183) (Value.bool Bool.true)),(DictEntry.mk (PyData.keyHash P (q [99,108,97,115,115,46,95,102,114,111,122,101,110,95,105,109,112,111,114,116,108,105,98,46,66,117,105,108,116,105,110,73,109,112,111,114,116,101,114])) (Value.str (q [99,108,97,115,115,46,95,102,114,111,122,101,110,95,105,109,112,111,114,116,108,105,98,46,66,117,105,108,116,105,110,73,109,112,111,114,116,101,114]) 185) (Value.ref 14)),(DictEntry.mk (PyData.keyHash P (q [119,97,116,99,104,101,100,46,105,109,112,111,114,116])) (Value.str (q [119,97,116,99,104,101,100,46,105,109,112,111,114,116]) 206) (Value.ref 18)),(DictEntry.mk (PyData.keyHash P (q [99,108,97,115,115,46,95,102,114,111,122,101,110,95,105,109,112,111,114,116,108,105,98,46,77,111,100,117,108,101,83,112,101,99])) (Value.str (q [99,108,97,115,115,46,95,102,114,111,122,101,110,95,105,109,112,111,114,116,108,105,98,46,77,111,100,117,108,101,83,112,101,99]) 216) (Value.ref 22)),(DictEntry.mk (PyData.keyHash P (q [115,121,115,46,109,111,100,117,108,101,115,46,98,111,111,107,101,100,45,101,112,111,99,104])) (Value.str (q [115,121,115,46,109,111,100,117,108,101,115,46,98,111,111,107,101,100,45,101,112,111,99,104]) 245) (Value.int 3 0)),(DictEntry.mk (PyData.keyHash P (q [105,109,112,111,114,116,46,108,97,116,101,114,45,108,97,105,100,46,95,115,114,101])) (Value.str (q [105,109,112,111,114,116,46,108,97,116,101,114,45,108,97,105,100,46,95,115,114,101]) 270) (Value.bool Bool.true)),(DictEntry.mk (PyData.keyHash P (q [119,97,116,99,104,101,100,46,108,105,98,114,97,114,121])) (Value.str (q [119,97,116,99,104,101,100,46,108,105,98,114,97,114,121]) 272) (Value.ref 27)),(DictEntry.mk (PyData.keyHash P (q [119,97,116,99,104,101,100,46,108,105,98,114,97,114,121,45,111,98,106,101,99,116,115])) (Value.str (q [119,97,116,99,104,101,100,46,108,105,98,114,97,114,121,45,111,98,106,101,99,116,115]) 0) (Value.str (q [12]) 0)),(DictEntry.mk (PyData.keyHash P (q [119,97,116,99,104,101,100,46,108,105,98,114,97,114,121,45,100,101,101,112,46,95,115,114,101])) (Value.str (q [119,97,116,99,104,101,100,46,108,105,98,114,97,114,121,45,100,101,101,112,46,95,115,114,101]) 273) (Value.str (q [4,0,0,11,4,0,0,11,4,0,0,3,4,0,0,11,8,4,100,105,99,116,2]) 0))]) 9) (List.toArray []))
noncomputable def o3 (P:Params):Obj:=(Obj.mk (Value.type SL.s14018661285674007319x4) Option.none (Data.dict (List.toArray [(DictEntry.mk (PyData.keyHash P (q [95,95,110,97,109,101,95,95])) (Value.str (q [95,95,110,97,109,101,95,95]) 165) (Value.str (q [108,97,119,95,105,107,48,48,53,53,95,48,49]) 792)),(DictEntry.mk (PyData.keyHash P (q [95,95,100,111,99,95,95])) (Value.str (q [95,95,100,111,99,95,95]) 166) Value.none),(DictEntry.mk (PyData.keyHash P (q [95,95,112,97,99,107,97,103,101,95,95])) (Value.str (q [95,95,112,97,99,107,97,103,101,95,95]) 167) Value.none),(DictEntry.mk (PyData.keyHash P (q [95,95,108,111,97,100,101,114,95,95])) (Value.str (q [95,95,108,111,97,100,101,114,95,95]) 168) (Value.builtin SL.s7097527257260152453x26)),(DictEntry.mk (PyData.keyHash P (q [95,95,115,112,101,99,95,95])) (Value.str (q [95,95,115,112,101,99,95,95]) 169) Value.none),(DictEntry.mk (PyData.keyHash P (q [95,95,97,110,110,111,116,97,116,105,111,110,115,95,95])) (Value.str (q [95,95,97,110,110,111,116,97,116,105,111,110,115,95,95]) 170) (Value.ref 6)),(DictEntry.mk (PyData.keyHash P (q [95,95,98,117,105,108,116,105,110,115,95,95])) (Value.str (q [95,95,98,117,105,108,116,105,110,115,95,95]) 171) (Value.ref 4)),(DictEntry.mk (PyData.keyHash P (q [95,95,102,105,108,101,95,95])) (Value.str (q [95,95,102,105,108,101,95,95]) 173) (Value.str (q [47,99,108,97,105,109,47,99,117,116,46,112,121]) 172)),(DictEntry.mk (PyData.keyHash P (q [95,95,99,97,99,104,101,100,95,95])) (Value.str (q [95,95,99,97,99,104,101,100,95,95]) 174) Value.none),(DictEntry.mk (PyData.keyHash P (q [95,115,114,101])) (Value.str (q [95,115,114,101]) 275) (Value.ref 12)),(DictEntry.mk (PyData.keyHash P (q [95,119,97,108,108])) (Value.str (q [95,119,97,108,108]) 288) (Value.ref 38)),(DictEntry.mk (PyData.keyHash P (q [99,109,112,95,116,111,95,107,101,121])) (Value.str (q [99,109,112,95,116,111,95,107,101,121]) 299) (Value.ref 45)),(DictEntry.mk (PyData.keyHash P (q [95,105,110,105,116,105,97,108,95,109,105,115,115,105,110,103])) (Value.str (q [95,105,110,105,116,105,97,108,95,109,105,115,115,105,110,103]) 300) (Value.ref 46)),(DictEntry.mk (PyData.keyHash P (q [114,101,100,117,99,101])) (Value.str (q [114,101,100,117,99,101]) 312) (Value.ref 54)),(DictEntry.mk (PyData.keyHash P (q [95,116,119,105,110,95,114,101,95,49])) (Value.str (q [95,116,119,105,110,95,114,101,95,49]) 350) (Value.ref 59)),(DictEntry.mk (PyData.keyHash P (q [95,115,112,101,99,105,97,108,95,99,104,97,114,115,95,109,97,112])) (Value.str (q [95,115,112,101,99,105,97,108,95,99,104,97,114,115,95,109,97,112]) 498) (Value.ref 61)),(DictEntry.mk (PyData.keyHash P (q [101,115,99,97,112,101])) (Value.str (q [101,115,99,97,112,101]) 505) (Value.ref 71)),(DictEntry.mk (PyData.keyHash P (q [95,116,114,97,110,115,108,97,116,101])) (Value.str (q [95,116,114,97,110,115,108,97,116,101]) 526) (Value.ref 78)),(DictEntry.mk (PyData.keyHash P (q [116,115,112,101,99,105,97,108,115])) (Value.str (q [116,115,112,101,99,105,97,108,115]) 562) (Value.ref 83)),(DictEntry.mk (PyData.keyHash P (q [95,110,97,109,101,95,100,105,115,97,108,108,111,119,101,100,95,114,101])) (Value.str (q [95,110,97,109,101,95,100,105,115,97,108,108,111,119,101,100,95,114,101]) 588) (Value.ref 88)),(DictEntry.mk (PyData.keyHash P (q [95,118,97,108,117,101,95,100,105,115,97,108,108,111,119,101,100,95,114,101])) (Value.str (q [95,118,97,108,117,101,95,100,105,115,97,108,108,111,119,101,100,95,114,101]) 622) (Value.ref 93)),(DictEntry.mk (PyData.keyHash P (q [95,102,111,114,109,97,116,112,97,114,97,109])) (Value.str (q [95,102,111,114,109,97,116,112,97,114,97,109]) 632) (Value.ref 101)),(DictEntry.mk (PyData.keyHash P (q [72,101,97,100,101,114,115])) (Value.str (q [72,101,97,100,101,114,115]) 791) (Value.ref 224)),(DictEntry.mk (PyData.keyHash P (q [95,108,97,119,95,112,97,116,116,101,114,110,115])) (Value.str (q [95,108,97,119,95,112,97,116,116,101,114,110,115]) 799) (Value.ref 235)),(DictEntry.mk (PyData.keyHash P (q [95,108,97,119,95,115,105,103,110])) (Value.str (q [95,108,97,119,95,115,105,103,110]) 807) (Value.ref 242)),(DictEntry.mk (PyData.keyHash P (q [95,108,97,119,95,116,97,107,101,115])) (Value.str (q [95,108,97,119,95,116,97,107,101,115]) 813) (Value.ref 247)),(DictEntry.mk (PyData.keyHash P (q [95,108,97,119,95,114,117,108,101,100])) (Value.str (q [95,108,97,119,95,114,117,108,101,100]) 819) (Value.ref 252)),(DictEntry.mk (PyData.keyHash P (q [95,108,97,119,95,116,111,108,100])) (Value.str (q [95,108,97,119,95,116,111,108,100]) 825) (Value.ref 257)),(DictEntry.mk (PyData.keyHash P (q [95,108,97,119,95,112,108,97,105,110])) (Value.str (q [95,108,97,119,95,112,108,97,105,110]) 834) (Value.ref 264)),(DictEntry.mk (PyData.keyHash P (q [95,108,97,119,95,99,111,109,112,97,114,101,100])) (Value.str (q [95,108,97,119,95,99,111,109,112,97,114,101,100]) 842) (Value.ref 271)),(DictEntry.mk (PyData.keyHash P (q [108,97,119])) (Value.str (q [108,97,119]) 848) (Value.ref 276))]) 31) (List.toArray []))
noncomputable def o4 (P:Params):Obj:=(Obj.mk (Value.type SL.s6658869562736209489x6) (Option.some 0) Data.plain (List.toArray []))
noncomputable def o44 (P:Params):Obj:=(Obj.mk (Value.type SL.s5856160107412720595x4) Option.none (Data.fields (List.toArray [(Value.str (q [99,109,112,95,116,111,95,107,101,121]) 291),(Value.str (q [99,109,112,95,116,111,95,107,101,121]) 292),(Value.str (q [47,99,108,97,105,109,47,99,117,116,46,112,121]) 293),(Value.int 6 0),(Value.int 1 0),(Value.int 0 0),(Value.int 0 0),(Value.int 3 0),(Value.ref 39),(Value.bool Bool.true),(Value.int 276 0),(Value.ref 40),Value.none,(Value.ref 41),(Value.ref 42),(Value.ref 43),(Value.int 297 0),(Value.int 6 0),(Value.str (q [47,99,108,97,105,109,47,99,117,116,46,112,121]) 298)])) (List.toArray []))
noncomputable def o45 (P:Params):Obj:=fnO (fn 3) (q [99,109,112,95,116,111,95,107,101,121]) Value.none (Value.str (q [99,112,121,51,49,51,46,102,117,110,99,116,111,111,108,115]) 289) (Value.ref 44)
noncomputable def o46 (P:Params):Obj:=(Obj.mk (Value.type SL.s2742458400755230247x6) Option.none Data.plain (List.toArray []))
noncomputable def o47 (P:Params):Obj:=(Obj.mk (Value.type SL.s2766695959194262286x5) Option.none (Data.seq (List.toArray [(Value.ref 46)]) 0) (List.toArray []))
noncomputable def o53 (P:Params):Obj:=(Obj.mk (Value.type SL.s5856160107412720595x4) Option.none (Data.fields (List.toArray [(Value.str (q [114,101,100,117,99,101]) 301),(Value.str (q [114,101,100,117,99,101]) 302),(Value.str (q [47,99,108,97,105,109,47,99,117,116,46,112,121]) 303),(Value.int 32 0),(Value.int 3 0),(Value.int 0 0),(Value.int 0 0),(Value.int 3 0),(Value.ref 48),(Value.bool Bool.true),(Value.int 276 0),(Value.ref 49),Value.none,(Value.ref 50),(Value.ref 51),(Value.ref 52),(Value.int 310 0),(Value.int 32 0),(Value.str (q [47,99,108,97,105,109,47,99,117,116,46,112,121]) 311)])) (List.toArray []))
noncomputable def o54 (P:Params):Obj:=fnO (fn 5) (q [114,101,100,117,99,101]) (Value.ref 47) (Value.str (q [99,112,121,51,49,51,46,102,117,110,99,116,111,111,108,115]) 289) (Value.ref 53)
noncomputable def o58 (P:Params):Obj:=(Obj.mk (Value.type SL.s2766695959194262286x5) Option.none (Data.seq (List.toArray [(Value.int 14 0),(Value.int 14 0),(Value.int 4 0),(Value.int 1 0),(Value.int 1 0),(Value.int 9 0),(Value.int 0 0),(Value.int 64 0),(Value.int 0 0),(Value.int 1342177280 0),(Value.int 0 0),(Value.int 0 0),(Value.int 0 0),(Value.int 0 0),(Value.int 0 0),(Value.int 17 0),(Value.int 0 0),(Value.int 13 0),(Value.int 11 0),(Value.int 9 0),(Value.int 0 0),(Value.int 64 0),(Value.int 0 0),(Value.int 1342177280 0),(Value.int 0 0),(Value.int 0 0),(Value.int 0 0),(Value.int 0 0),(Value.int 0 0),(Value.int 17 0),(Value.int 1 0),(Value.int 1 0)]) 0) (List.toArray []))
noncomputable def o59 (P:Params):Obj:=(Obj.mk (Value.type SL.s12171344214640291687x10) Option.none (Data.fields (List.toArray [(Value.str (q [40,91,38,126,124,93,41]) 314),(Value.int 32 349),(Value.int 1 0),Value.none,Value.none,(Value.ref 58),(Value.int 0 0)])) (List.toArray []))
noncomputable def o61 (P:Params):Obj:=(Obj.mk (Value.type SL.s14018661285674007319x4) Option.none (Data.dict (List.toArray [(DictEntry.mk 40 (Value.int 40 354) (Value.str (q [92,40]) 358)),(DictEntry.mk 41 (Value.int 41 360) (Value.str (q [92,41]) 364)),(DictEntry.mk 91 (Value.int 91 366) (Value.str (q [92,91]) 370)),(DictEntry.mk 93 (Value.int 93 372) (Value.str (q [92,93]) 376)),(DictEntry.mk 123 (Value.int 123 378) (Value.str (q [92,123]) 382)),(DictEntry.mk 125 (Value.int 125 384) (Value.str (q [92,125]) 388)),(DictEntry.mk 63 (Value.int 63 390) (Value.str (q [92,63]) 394)),(DictEntry.mk 42 (Value.int 42 396) (Value.str (q [92,42]) 400)),(DictEntry.mk 43 (Value.int 43 402) (Value.str (q [92,43]) 406)),(DictEntry.mk 45 (Value.int 45 408) (Value.str (q [92,45]) 412)),(DictEntry.mk 124 (Value.int 124 414) (Value.str (q [92,124]) 418)),(DictEntry.mk 94 (Value.int 94 420) (Value.str (q [92,94]) 424)),(DictEntry.mk 36 (Value.int 36 426) (Value.str (q [92,36]) 430)),(DictEntry.mk 92 (Value.int 92 432) (Value.str (q [92,92]) 436)),(DictEntry.mk 46 (Value.int 46 438) (Value.str (q [92,46]) 442)),(DictEntry.mk 38 (Value.int 38 444) (Value.str (q [92,38]) 448)),(DictEntry.mk 126 (Value.int 126 450) (Value.str (q [92,126]) 454)),(DictEntry.mk 35 (Value.int 35 456) (Value.str (q [92,35]) 460)),(DictEntry.mk 32 (Value.int 32 462) (Value.str (q [92,32]) 466)),(DictEntry.mk 9 (Value.int 9 468) (Value.str (q [92,9]) 472)),(DictEntry.mk 10 (Value.int 10 474) (Value.str (q [92,10]) 478)),(DictEntry.mk 13 (Value.int 13 480) (Value.str (q [92,13]) 484)),(DictEntry.mk 11 (Value.int 11 486) (Value.str (q [92,11]) 490)),(DictEntry.mk 12 (Value.int 12 492) (Value.str (q [92,12]) 496))]) 24) (List.toArray []))
noncomputable def o70 (P:Params):Obj:=(Obj.mk (Value.type SL.s5856160107412720595x4) Option.none (Data.fields (List.toArray [(Value.str (q [101,115,99,97,112,101]) 499),(Value.str (q [101,115,99,97,112,101]) 500),(Value.str (q [47,99,108,97,105,109,47,99,117,116,46,112,121]) 501),(Value.int 47 0),(Value.int 1 0),(Value.int 0 0),(Value.int 0 0),(Value.int 3 0),(Value.ref 65),(Value.bool Bool.true),(Value.int 276 0),(Value.ref 66),Value.none,(Value.ref 67),(Value.ref 68),(Value.ref 69),(Value.int 503 0),(Value.int 47 0),(Value.str (q [47,99,108,97,105,109,47,99,117,116,46,112,121]) 504)])) (List.toArray []))
noncomputable def o71 (P:Params):Obj:=fnO (fn 9) (q [101,115,99,97,112,101]) Value.none (Value.str (q [114,101]) 351) (Value.ref 70)
noncomputable def o77 (P:Params):Obj:=(Obj.mk (Value.type SL.s5856160107412720595x4) Option.none (Data.fields (List.toArray [(Value.str (q [95,116,114,97,110,115,108,97,116,101]) 508),(Value.str (q [95,116,114,97,110,115,108,97,116,101]) 509),(Value.str (q [47,99,108,97,105,109,47,99,117,116,46,112,121]) 510),(Value.int 54 0),(Value.int 3 0),(Value.int 0 0),(Value.int 0 0),(Value.int 3 0),(Value.ref 72),(Value.bool Bool.true),(Value.int 276 0),(Value.ref 73),Value.none,(Value.ref 74),(Value.ref 75),(Value.ref 76),(Value.int 524 0),(Value.int 54 0),(Value.str (q [47,99,108,97,105,109,47,99,117,116,46,112,121]) 525)])) (List.toArray []))
noncomputable def o78 (P:Params):Obj:=fnO (fn 11) (q [95,116,114,97,110,115,108,97,116,101]) Value.none (Value.str (q [99,112,121,51,49,51,46,102,110,109,97,116,99,104]) 506) (Value.ref 77)
noncomputable def o87 (P:Params):Obj:=(Obj.mk (Value.type SL.s2766695959194262286x5) Option.none (Data.seq (List.toArray [(Value.int 14 0),(Value.int 10 0),(Value.int 4 0),(Value.int 1 0),(Value.int 1 0),(Value.int 22 0),(Value.int 0 0),(Value.int 31 0),(Value.int 16 0),(Value.int 127 0),(Value.int 0 0),(Value.int 13 0),(Value.int 7 0),(Value.int 22 0),(Value.int 0 0),(Value.int 31 0),(Value.int 16 0),(Value.int 127 0),(Value.int 0 0),(Value.int 1 0)]) 0) (List.toArray []))
noncomputable def o88 (P:Params):Obj:=(Obj.mk (Value.type SL.s12171344214640291687x10) Option.none (Data.fields (List.toArray [(Value.str (q [91,92,120,48,48,45,92,120,49,70,92,120,55,70,93]) 564),(Value.int 32 587),(Value.int 0 0),Value.none,Value.none,(Value.ref 87),(Value.int 0 0)])) (List.toArray []))
noncomputable def o92 (P:Params):Obj:=(Obj.mk (Value.type SL.s2766695959194262286x5) Option.none (Data.seq (List.toArray [(Value.int 14 0),(Value.int 14 0),(Value.int 4 0),(Value.int 1 0),(Value.int 1 0),(Value.int 9 0),(Value.int 4294966783 0),(Value.int 0 0),(Value.int 0 0),(Value.int 2147483648 0),(Value.int 0 0),(Value.int 0 0),(Value.int 0 0),(Value.int 0 0),(Value.int 0 0),(Value.int 13 0),(Value.int 11 0),(Value.int 9 0),(Value.int 4294966783 0),(Value.int 0 0),(Value.int 0 0),(Value.int 2147483648 0),(Value.int 0 0),(Value.int 0 0),(Value.int 0 0),(Value.int 0 0),(Value.int 0 0),(Value.int 1 0)]) 0) (List.toArray []))
noncomputable def o93 (P:Params):Obj:=(Obj.mk (Value.type SL.s12171344214640291687x10) Option.none (Data.fields (List.toArray [(Value.str (q [91,92,120,48,48,45,92,120,48,56,92,120,48,65,45,92,120,49,70,92,120,55,70,93]) 590),(Value.int 32 621),(Value.int 0 0),Value.none,Value.none,(Value.ref 92),(Value.int 0 0)])) (List.toArray []))
noncomputable def o94 (P:Params):Obj:=(Obj.mk (Value.type SL.s2766695959194262286x5) Option.none (Data.seq (List.toArray [Value.none,(Value.int 1 623)]) 0) (List.toArray []))
noncomputable def o100 (P:Params):Obj:=(Obj.mk (Value.type SL.s5856160107412720595x4) Option.none (Data.fields (List.toArray [(Value.str (q [95,102,111,114,109,97,116,112,97,114,97,109]) 624),(Value.str (q [95,102,111,114,109,97,116,112,97,114,97,109]) 625),(Value.str (q [47,99,108,97,105,109,47,99,117,116,46,112,121]) 626),(Value.int 120 0),(Value.int 3 0),(Value.int 0 0),(Value.int 0 0),(Value.int 3 0),(Value.ref 95),(Value.bool Bool.true),(Value.int 276 0),(Value.ref 96),Value.none,(Value.ref 97),(Value.ref 98),(Value.ref 99),(Value.int 630 0),(Value.int 120 0),(Value.str (q [47,99,108,97,105,109,47,99,117,116,46,112,121]) 631)])) (List.toArray []))
noncomputable def o101 (P:Params):Obj:=fnO (fn 16) (q [95,102,111,114,109,97,116,112,97,114,97,109]) (Value.ref 94) (Value.str (q [99,112,121,51,49,51,46,119,115,103,105,114,101,102,46,104,101,97,100,101,114,115]) 527) (Value.ref 100)
noncomputable def o109 (P:Params):Obj:=(Obj.mk (Value.type SL.s2766695959194262286x5) Option.none (Data.seq (List.toArray [Value.none]) 0) (List.toArray []))
noncomputable def o115 (P:Params):Obj:=(Obj.mk (Value.type SL.s5856160107412720595x4) Option.none (Data.fields (List.toArray [(Value.str (q [95,95,105,110,105,116,95,95]) 645),(Value.str (q [72,101,97,100,101,114,115,46,95,95,105,110,105,116,95,95]) 646),(Value.str (q [47,99,108,97,105,109,47,99,117,116,46,112,121]) 647),(Value.int 131 0),(Value.int 2 0),(Value.int 0 0),(Value.int 0 0),(Value.int 3 0),(Value.ref 110),(Value.bool Bool.true),(Value.int 276 0),(Value.ref 111),Value.none,(Value.ref 112),(Value.ref 113),(Value.ref 114),(Value.int 652 0),(Value.int 131 0),(Value.str (q [47,99,108,97,105,109,47,99,117,116,46,112,121]) 653)])) (List.toArray []))
noncomputable def o116 (P:Params):Obj:=fnO (meth 0) (q [72,101,97,100,101,114,115,46,95,95,105,110,105,116,95,95]) (Value.ref 109) (Value.str (q [99,112,121,51,49,51,46,119,115,103,105,114,101,102,46,104,101,97,100,101,114,115]) 527) (Value.ref 115)
noncomputable def o122 (P:Params):Obj:=(Obj.mk (Value.type SL.s5856160107412720595x4) Option.none (Data.fields (List.toArray [(Value.str (q [95,99,111,110,118,101,114,116,95,115,116,114,105,110,103,95,116,121,112,101]) 655),(Value.str (q [72,101,97,100,101,114,115,46,95,99,111,110,118,101,114,116,95,115,116,114,105,110,103,95,116,121,112,101]) 656),(Value.str (q [47,99,108,97,105,109,47,99,117,116,46,112,121]) 657),(Value.int 141 0),(Value.int 2 0),(Value.int 0 0),(Value.int 1 0),(Value.int 3 0),(Value.ref 117),(Value.bool Bool.true),(Value.int 276 0),(Value.ref 118),Value.none,(Value.ref 119),(Value.ref 120),(Value.ref 121),(Value.int 662 0),(Value.int 141 0),(Value.str (q [47,99,108,97,105,109,47,99,117,116,46,112,121]) 663)])) (List.toArray []))
noncomputable def o123 (P:Params):Obj:=fnO (meth 1) (q [72,101,97,100,101,114,115,46,95,99,111,110,118,101,114,116,95,115,116,114,105,110,103,95,116,121,112,101]) Value.none (Value.str (q [99,112,121,51,49,51,46,119,115,103,105,114,101,102,46,104,101,97,100,101,114,115]) 527) (Value.ref 122)
noncomputable def o136 (P:Params):Obj:=(Obj.mk (Value.type SL.s5856160107412720595x4) Option.none (Data.fields (List.toArray [(Value.str (q [95,95,115,101,116,105,116,101,109,95,95]) 672),(Value.str (q [72,101,97,100,101,114,115,46,95,95,115,101,116,105,116,101,109,95,95]) 673),(Value.str (q [47,99,108,97,105,109,47,99,117,116,46,112,121]) 674),(Value.int 152 0),(Value.int 3 0),(Value.int 0 0),(Value.int 0 0),(Value.int 3 0),(Value.ref 131),(Value.bool Bool.true),(Value.int 276 0),(Value.ref 132),Value.none,(Value.ref 133),(Value.ref 134),(Value.ref 135),(Value.int 678 0),(Value.int 152 0),(Value.str (q [47,99,108,97,105,109,47,99,117,116,46,112,121]) 679)])) (List.toArray []))
noncomputable def o137 (P:Params):Obj:=fnO (meth 3) (q [72,101,97,100,101,114,115,46,95,95,115,101,116,105,116,101,109,95,95]) Value.none (Value.str (q [99,112,121,51,49,51,46,119,115,103,105,114,101,102,46,104,101,97,100,101,114,115]) 527) (Value.ref 136)
noncomputable def o141 (P:Params):Obj:=(Obj.mk (Value.type SL.s5856160107412720595x4) Option.none (Data.fields (List.toArray [(Value.str (q [95,95,100,101,108,105,116,101,109,95,95]) 681),(Value.str (q [72,101,97,100,101,114,115,46,95,95,100,101,108,105,116,101,109,95,95]) 682),(Value.str (q [47,99,108,97,105,109,47,99,117,116,46,112,121]) 683),(Value.int 156 0),(Value.int 2 0),(Value.int 0 0),(Value.int 0 0),(Value.int 3 0),(Value.ref 138),(Value.bool Bool.true),(Value.int 276 0),(Value.ref 139),Value.none,Value.none,Value.none,(Value.ref 140),(Value.int 684 0),(Value.int 156 0),(Value.str (q [47,99,108,97,105,109,47,99,117,116,46,112,121]) 685)])) (List.toArray []))
noncomputable def o142 (P:Params):Obj:=fnO (meth 4) (q [72,101,97,100,101,114,115,46,95,95,100,101,108,105,116,101,109,95,95]) Value.none (Value.str (q [99,112,121,51,49,51,46,119,115,103,105,114,101,102,46,104,101,97,100,101,114,115]) 527) (Value.ref 141)
noncomputable def o175 (P:Params):Obj:=(Obj.mk (Value.type SL.s5856160107412720595x4) Option.none (Data.fields (List.toArray [(Value.str (q [107,101,121,115]) 722),(Value.str (q [72,101,97,100,101,114,115,46,107,101,121,115]) 723),(Value.str (q [47,99,108,97,105,109,47,99,117,116,46,112,121]) 724),(Value.int 176 0),(Value.int 1 0),(Value.int 0 0),(Value.int 0 0),(Value.int 3 0),(Value.ref 172),(Value.bool Bool.true),(Value.int 276 0),(Value.ref 173),Value.none,Value.none,Value.none,(Value.ref 174),(Value.int 725 0),(Value.int 176 0),(Value.str (q [47,99,108,97,105,109,47,99,117,116,46,112,121]) 726)])) (List.toArray []))
noncomputable def o176 (P:Params):Obj:=fnO (meth 9) (q [72,101,97,100,101,114,115,46,107,101,121,115]) Value.none (Value.str (q [99,112,121,51,49,51,46,119,115,103,105,114,101,102,46,104,101,97,100,101,114,115]) 527) (Value.ref 175)
noncomputable def o187 (P:Params):Obj:=(Obj.mk (Value.type SL.s5856160107412720595x4) Option.none (Data.fields (List.toArray [(Value.str (q [105,116,101,109,115]) 734),(Value.str (q [72,101,97,100,101,114,115,46,105,116,101,109,115]) 735),(Value.str (q [47,99,108,97,105,109,47,99,117,116,46,112,121]) 736),(Value.int 182 0),(Value.int 1 0),(Value.int 0 0),(Value.int 0 0),(Value.int 3 0),(Value.ref 182),(Value.bool Bool.true),(Value.int 276 0),(Value.ref 183),Value.none,(Value.ref 184),(Value.ref 185),(Value.ref 186),(Value.int 738 0),(Value.int 182 0),(Value.str (q [47,99,108,97,105,109,47,99,117,116,46,112,121]) 739)])) (List.toArray []))
noncomputable def o188 (P:Params):Obj:=fnO (meth 11) (q [72,101,97,100,101,114,115,46,105,116,101,109,115]) Value.none (Value.str (q [99,112,121,51,49,51,46,119,115,103,105,114,101,102,46,104,101,97,100,101,114,115]) 527) (Value.ref 187)
noncomputable def o220 (P:Params):Obj:=(Obj.mk (Value.type SL.s5856160107412720595x4) Option.none (Data.fields (List.toArray [(Value.str (q [97,100,100,95,104,101,97,100,101,114]) 770),(Value.str (q [72,101,97,100,101,114,115,46,97,100,100,95,104,101,97,100,101,114]) 771),(Value.str (q [47,99,108,97,105,109,47,99,117,116,46,112,121]) 772),(Value.int 197 0),(Value.int 3 0),(Value.int 0 0),(Value.int 0 0),(Value.int 11 0),(Value.ref 215),(Value.bool Bool.true),(Value.int 276 0),(Value.ref 216),Value.none,(Value.ref 217),(Value.ref 218),(Value.ref 219),(Value.int 780 0),(Value.int 197 0),(Value.str (q [47,99,108,97,105,109,47,99,117,116,46,112,121]) 781)])) (List.toArray []))
noncomputable def o221 (P:Params):Obj:=fnO (meth 16) (q [72,101,97,100,101,114,115,46,97,100,100,95,104,101,97,100,101,114]) Value.none (Value.str (q [99,112,121,51,49,51,46,119,115,103,105,114,101,102,46,104,101,97,100,101,114,115]) 527) (Value.ref 220)
noncomputable def o223 (P:Params):Obj:=(Obj.mk (Value.type SL.s14018661285674007319x4) Option.none (Data.dict (List.toArray [(DictEntry.mk (PyData.keyHash P (q [95,95,109,111,100,117,108,101,95,95])) (Value.str (q [95,95,109,111,100,117,108,101,95,95]) 640) (Value.str (q [99,112,121,51,49,51,46,119,115,103,105,114,101,102,46,104,101,97,100,101,114,115]) 527)),(DictEntry.mk (PyData.keyHash P (q [95,95,102,105,114,115,116,108,105,110,101,110,111,95,95])) (Value.str (q [95,95,102,105,114,115,116,108,105,110,101,110,111,95,95]) 644) (Value.int 129 643)),(DictEntry.mk (PyData.keyHash P (q [95,95,105,110,105,116,95,95])) (Value.str (q [95,95,105,110,105,116,95,95]) 654) (Value.ref 116)),(DictEntry.mk (PyData.keyHash P (q [95,99,111,110,118,101,114,116,95,115,116,114,105,110,103,95,116,121,112,101])) (Value.str (q [95,99,111,110,118,101,114,116,95,115,116,114,105,110,103,95,116,121,112,101]) 664) (Value.ref 123)),(DictEntry.mk (PyData.keyHash P (q [95,95,108,101,110,95,95])) (Value.str (q [95,95,108,101,110,95,95]) 671) (Value.ref 130)),(DictEntry.mk (PyData.keyHash P (q [95,95,115,101,116,105,116,101,109,95,95])) (Value.str (q [95,95,115,101,116,105,116,101,109,95,95]) 680) (Value.ref 137)),(DictEntry.mk (PyData.keyHash P (q [95,95,100,101,108,105,116,101,109,95,95])) (Value.str (q [95,95,100,101,108,105,116,101,109,95,95]) 686) (Value.ref 142)),(DictEntry.mk (PyData.keyHash P (q [95,95,103,101,116,105,116,101,109,95,95])) (Value.str (q [95,95,103,101,116,105,116,101,109,95,95]) 694) (Value.ref 149)),(DictEntry.mk (PyData.keyHash P (q [95,95,99,111,110,116,97,105,110,115,95,95])) (Value.str (q [95,95,99,111,110,116,97,105,110,115,95,95]) 702) (Value.ref 156)),(DictEntry.mk (PyData.keyHash P (q [103,101,116,95,97,108,108])) (Value.str (q [103,101,116,95,97,108,108]) 710) (Value.ref 163)),(DictEntry.mk (PyData.keyHash P (q [103,101,116])) (Value.str (q [103,101,116]) 721) (Value.ref 171)),(DictEntry.mk (PyData.keyHash P (q [107,101,121,115])) (Value.str (q [107,101,121,115]) 727) (Value.ref 176)),(DictEntry.mk (PyData.keyHash P (q [118,97,108,117,101,115])) (Value.str (q [118,97,108,117,101,115]) 733) (Value.ref 181)),(DictEntry.mk (PyData.keyHash P (q [105,116,101,109,115])) (Value.str (q [105,116,101,109,115]) 740) (Value.ref 188)),(DictEntry.mk (PyData.keyHash P (q [95,95,114,101,112,114,95,95])) (Value.str (q [95,95,114,101,112,114,95,95]) 747) (Value.ref 195)),(DictEntry.mk (PyData.keyHash P (q [95,95,115,116,114,95,95])) (Value.str (q [95,95,115,116,114,95,95]) 753) (Value.ref 200)),(DictEntry.mk (PyData.keyHash P (q [95,95,98,121,116,101,115,95,95])) (Value.str (q [95,95,98,121,116,101,115,95,95]) 760) (Value.ref 207)),(DictEntry.mk (PyData.keyHash P (q [115,101,116,100,101,102,97,117,108,116])) (Value.str (q [115,101,116,100,101,102,97,117,108,116]) 769) (Value.ref 214)),(DictEntry.mk (PyData.keyHash P (q [97,100,100,95,104,101,97,100,101,114])) (Value.str (q [97,100,100,95,104,101,97,100,101,114]) 782) (Value.ref 221)),(DictEntry.mk (PyData.keyHash P (q [95,95,115,116,97,116,105,99,95,97,116,116,114,105,98,117,116,101,115,95,95])) (Value.str (q [95,95,115,116,97,116,105,99,95,97,116,116,114,105,98,117,116,101,115,95,95]) 784) (Value.ref 222)),(DictEntry.mk (PyData.keyHash P (q [95,95,100,105,99,116,95,95])) (Value.str (q [95,95,100,105,99,116,95,95]) 786) (Value.ref 225)),(DictEntry.mk (PyData.keyHash P (q [95,95,119,101,97,107,114,101,102,95,95])) (Value.str (q [95,95,119,101,97,107,114,101,102,95,95]) 788) (Value.ref 226)),(DictEntry.mk (PyData.keyHash P (q [95,95,100,111,99,95,95])) (Value.str (q [95,95,100,111,99,95,95]) 789) Value.none)]) 4) (List.toArray []))
noncomputable def o224 (P:Params):Obj:=(Obj.mk (Value.type SL.s17162191345867700912x4) Option.none (Data.cls (ClassData.mk (q [72,101,97,100,101,114,115]) [(Value.type SL.s2742458400755230247x6)] [(Value.ref 224),(Value.type SL.s2742458400755230247x6)] 223 (q [72,101,97,100,101,114,115]) Bool.true [] [] Bool.false Option.none Bool.false)) (List.toArray [Option.none,Option.none,(Option.some (Value.str (q [72,101,97,100,101,114,115]) 633)),(Option.some (Value.str (q [72,101,97,100,101,114,115]) 641)),(Option.some (Value.builtin SL.s11443829558043349243x14)),(Option.some (Value.bool Bool.true))]))
noncomputable def o234 (P:Params):Obj:=(Obj.mk (Value.type SL.s5856160107412720595x4) Option.none (Data.fields (List.toArray [(Value.str (q [95,108,97,119,95,112,97,116,116,101,114,110,115]) 794),(Value.str (q [95,108,97,119,95,112,97,116,116,101,114,110,115]) 795),(Value.str (q [47,99,108,97,105,109,47,99,117,116,46,112,121]) 796),(Value.int 211 0),(Value.int 0 0),(Value.int 0 0),(Value.int 0 0),(Value.int 3 0),(Value.ref 229),(Value.bool Bool.true),(Value.int 276 0),(Value.ref 230),Value.none,(Value.ref 231),(Value.ref 232),(Value.ref 233),(Value.int 797 0),(Value.int 211 0),(Value.str (q [47,99,108,97,105,109,47,99,117,116,46,112,121]) 798)])) (List.toArray []))
noncomputable def o235 (P:Params):Obj:=fnO (fn 19) (q [95,108,97,119,95,112,97,116,116,101,114,110,115]) Value.none (Value.str (q [108,97,119,95,105,107,48,48,53,53,95,48,49]) 792) (Value.ref 234)
noncomputable def o241 (P:Params):Obj:=(Obj.mk (Value.type SL.s5856160107412720595x4) Option.none (Data.fields (List.toArray [(Value.str (q [95,108,97,119,95,115,105,103,110]) 800),(Value.str (q [95,108,97,119,95,115,105,103,110]) 801),(Value.str (q [47,99,108,97,105,109,47,99,117,116,46,112,121]) 802),(Value.int 213 0),(Value.int 2 0),(Value.int 0 0),(Value.int 0 0),(Value.int 3 0),(Value.ref 236),(Value.bool Bool.true),(Value.int 276 0),(Value.ref 237),Value.none,(Value.ref 238),(Value.ref 239),(Value.ref 240),(Value.int 805 0),(Value.int 213 0),(Value.str (q [47,99,108,97,105,109,47,99,117,116,46,112,121]) 806)])) (List.toArray []))
noncomputable def o242 (P:Params):Obj:=fnO (fn 20) (q [95,108,97,119,95,115,105,103,110]) Value.none (Value.str (q [108,97,119,95,105,107,48,48,53,53,95,48,49]) 792) (Value.ref 241)
noncomputable def o246 (P:Params):Obj:=(Obj.mk (Value.type SL.s5856160107412720595x4) Option.none (Data.fields (List.toArray [(Value.str (q [95,108,97,119,95,116,97,107,101,115]) 808),(Value.str (q [95,108,97,119,95,116,97,107,101,115]) 809),(Value.str (q [47,99,108,97,105,109,47,99,117,116,46,112,121]) 810),(Value.int 217 0),(Value.int 3 0),(Value.int 0 0),(Value.int 0 0),(Value.int 3 0),(Value.ref 243),(Value.bool Bool.true),(Value.int 276 0),(Value.ref 244),Value.none,Value.none,Value.none,(Value.ref 245),(Value.int 811 0),(Value.int 217 0),(Value.str (q [47,99,108,97,105,109,47,99,117,116,46,112,121]) 812)])) (List.toArray []))
noncomputable def o247 (P:Params):Obj:=fnO (fn 21) (q [95,108,97,119,95,116,97,107,101,115]) Value.none (Value.str (q [108,97,119,95,105,107,48,48,53,53,95,48,49]) 792) (Value.ref 246)
noncomputable def o251 (P:Params):Obj:=(Obj.mk (Value.type SL.s5856160107412720595x4) Option.none (Data.fields (List.toArray [(Value.str (q [95,108,97,119,95,114,117,108,101,100]) 814),(Value.str (q [95,108,97,119,95,114,117,108,101,100]) 815),(Value.str (q [47,99,108,97,105,109,47,99,117,116,46,112,121]) 816),(Value.int 225 0),(Value.int 2 0),(Value.int 0 0),(Value.int 0 0),(Value.int 3 0),(Value.ref 248),(Value.bool Bool.true),(Value.int 276 0),(Value.ref 249),Value.none,Value.none,Value.none,(Value.ref 250),(Value.int 817 0),(Value.int 225 0),(Value.str (q [47,99,108,97,105,109,47,99,117,116,46,112,121]) 818)])) (List.toArray []))
noncomputable def o252 (P:Params):Obj:=fnO (fn 22) (q [95,108,97,119,95,114,117,108,101,100]) Value.none (Value.str (q [108,97,119,95,105,107,48,48,53,53,95,48,49]) 792) (Value.ref 251)
noncomputable def o256 (P:Params):Obj:=(Obj.mk (Value.type SL.s5856160107412720595x4) Option.none (Data.fields (List.toArray [(Value.str (q [95,108,97,119,95,116,111,108,100]) 820),(Value.str (q [95,108,97,119,95,116,111,108,100]) 821),(Value.str (q [47,99,108,97,105,109,47,99,117,116,46,112,121]) 822),(Value.int 242 0),(Value.int 2 0),(Value.int 0 0),(Value.int 0 0),(Value.int 3 0),(Value.ref 253),(Value.bool Bool.true),(Value.int 276 0),(Value.ref 254),Value.none,Value.none,Value.none,(Value.ref 255),(Value.int 823 0),(Value.int 242 0),(Value.str (q [47,99,108,97,105,109,47,99,117,116,46,112,121]) 824)])) (List.toArray []))
noncomputable def o257 (P:Params):Obj:=fnO (fn 23) (q [95,108,97,119,95,116,111,108,100]) Value.none (Value.str (q [108,97,119,95,105,107,48,48,53,53,95,48,49]) 792) (Value.ref 256)
noncomputable def o263 (P:Params):Obj:=(Obj.mk (Value.type SL.s5856160107412720595x4) Option.none (Data.fields (List.toArray [(Value.str (q [95,108,97,119,95,112,108,97,105,110]) 826),(Value.str (q [95,108,97,119,95,112,108,97,105,110]) 827),(Value.str (q [47,99,108,97,105,109,47,99,117,116,46,112,121]) 828),(Value.int 251 0),(Value.int 2 0),(Value.int 0 0),(Value.int 0 0),(Value.int 3 0),(Value.ref 258),(Value.bool Bool.true),(Value.int 276 0),(Value.ref 259),Value.none,(Value.ref 260),(Value.ref 261),(Value.ref 262),(Value.int 832 0),(Value.int 251 0),(Value.str (q [47,99,108,97,105,109,47,99,117,116,46,112,121]) 833)])) (List.toArray []))
noncomputable def o264 (P:Params):Obj:=fnO (fn 24) (q [95,108,97,119,95,112,108,97,105,110]) Value.none (Value.str (q [108,97,119,95,105,107,48,48,53,53,95,48,49]) 792) (Value.ref 263)
noncomputable def o270 (P:Params):Obj:=(Obj.mk (Value.type SL.s5856160107412720595x4) Option.none (Data.fields (List.toArray [(Value.str (q [95,108,97,119,95,99,111,109,112,97,114,101,100]) 835),(Value.str (q [95,108,97,119,95,99,111,109,112,97,114,101,100]) 836),(Value.str (q [47,99,108,97,105,109,47,99,117,116,46,112,121]) 837),(Value.int 255 0),(Value.int 2 0),(Value.int 0 0),(Value.int 0 0),(Value.int 3 0),(Value.ref 265),(Value.bool Bool.true),(Value.int 276 0),(Value.ref 266),Value.none,(Value.ref 267),(Value.ref 268),(Value.ref 269),(Value.int 840 0),(Value.int 255 0),(Value.str (q [47,99,108,97,105,109,47,99,117,116,46,112,121]) 841)])) (List.toArray []))
noncomputable def o271 (P:Params):Obj:=fnO (fn 25) (q [95,108,97,119,95,99,111,109,112,97,114,101,100]) Value.none (Value.str (q [108,97,119,95,105,107,48,48,53,53,95,48,49]) 792) (Value.ref 270)
noncomputable def o275 (P:Params):Obj:=(Obj.mk (Value.type SL.s5856160107412720595x4) Option.none (Data.fields (List.toArray [(Value.str (q [108,97,119]) 843),(Value.str (q [108,97,119]) 844),(Value.str (q [47,99,108,97,105,109,47,99,117,116,46,112,121]) 845),(Value.int 257 0),(Value.int 1 0),(Value.int 0 0),(Value.int 0 0),(Value.int 3 0),(Value.ref 272),(Value.bool Bool.true),(Value.int 276 0),(Value.ref 273),Value.none,Value.none,Value.none,(Value.ref 274),(Value.int 846 0),(Value.int 257 0),(Value.str (q [47,99,108,97,105,109,47,99,117,116,46,112,121]) 847)])) (List.toArray []))
noncomputable def o276 (P:Params):Obj:=fnO (fn 26) (q [108,97,119]) Value.none (Value.str (q [108,97,119,95,105,107,48,48,53,53,95,48,49]) 792) (Value.ref 275)
noncomputable def o0 (P:Params):Obj:=boot_o_0 P
noncomputable def kt (P:Params):KT:=(KT.node (some (o0 P)) (KT.node none (KT.node (some (o3 P)) (KT.node none (KT.node none (KT.node none KT.nil (KT.node none KT.nil (KT.node (some (o223 P)) KT.nil KT.nil))) (KT.node (some (o47 P)) (KT.node none (KT.node none (KT.node (some (o271 P)) KT.nil KT.nil) KT.nil) KT.nil) (KT.node none (KT.node (some (o175 P)) KT.nil KT.nil) KT.nil))) (KT.node none (KT.node none (KT.node (some (o71 P)) (KT.node none (KT.node (some (o263 P)) KT.nil KT.nil) KT.nil) KT.nil) KT.nil) (KT.node none (KT.node (some (o87 P)) KT.nil KT.nil) (KT.node none KT.nil (KT.node (some (o247 P)) KT.nil KT.nil))))) (KT.node none (KT.node none KT.nil (KT.node none (KT.node none (KT.node none (KT.node (some (o275 P)) KT.nil KT.nil) KT.nil) KT.nil) (KT.node (some (o115 P)) KT.nil KT.nil))) (KT.node none (KT.node none KT.nil (KT.node none KT.nil (KT.node (some (o235 P)) KT.nil KT.nil))) (KT.node (some (o59 P)) KT.nil (KT.node (some (o123 P)) (KT.node (some (o187 P)) KT.nil KT.nil) (KT.node (some (o251 P)) KT.nil KT.nil)))))) (KT.node none (KT.node none (KT.node none (KT.node none (KT.node none (KT.node none (KT.node (some (o257 P)) KT.nil KT.nil) KT.nil) KT.nil) KT.nil) (KT.node none KT.nil (KT.node none KT.nil (KT.node (some (o241 P)) KT.nil KT.nil)))) (KT.node none (KT.node none (KT.node none (KT.node (some (o137 P)) KT.nil KT.nil) KT.nil) KT.nil) KT.nil)) (KT.node none (KT.node none (KT.node none KT.nil (KT.node (some (o101 P)) KT.nil KT.nil)) (KT.node (some (o53 P)) KT.nil KT.nil)) (KT.node none (KT.node (some (o45 P)) (KT.node (some (o77 P)) (KT.node (some (o141 P)) KT.nil KT.nil) KT.nil) (KT.node (some (o109 P)) KT.nil KT.nil)) (KT.node (some (o61 P)) (KT.node (some (o93 P)) KT.nil (KT.node (some (o221 P)) KT.nil KT.nil)) KT.nil))))) (KT.node (some (o2 P)) (KT.node (some (o4 P)) (KT.node none (KT.node none (KT.node none (KT.node none (KT.node none (KT.node (some (o256 P)) KT.nil KT.nil) KT.nil) KT.nil) (KT.node none KT.nil (KT.node (some (o224 P)) KT.nil KT.nil))) (KT.node none KT.nil (KT.node none (KT.node (some (o176 P)) KT.nil KT.nil) KT.nil))) (KT.node none (KT.node none (KT.node none (KT.node (some (o136 P)) (KT.node (some (o264 P)) KT.nil KT.nil) KT.nil) KT.nil) KT.nil) (KT.node none (KT.node (some (o88 P)) KT.nil KT.nil) KT.nil))) (KT.node none (KT.node none (KT.node none KT.nil (KT.node (some (o100 P)) KT.nil KT.nil)) (KT.node none (KT.node none (KT.node none (KT.node (some (o276 P)) KT.nil KT.nil) KT.nil) KT.nil) (KT.node (some (o116 P)) KT.nil KT.nil))) (KT.node none (KT.node (some (o44 P)) KT.nil KT.nil) (KT.node none (KT.node (some (o92 P)) KT.nil (KT.node (some (o220 P)) KT.nil KT.nil)) (KT.node none (KT.node (some (o188 P)) KT.nil KT.nil) (KT.node (some (o252 P)) KT.nil KT.nil)))))) (KT.node none (KT.node none (KT.node none KT.nil (KT.node none KT.nil (KT.node none KT.nil (KT.node (some (o242 P)) KT.nil KT.nil)))) (KT.node none (KT.node none KT.nil (KT.node none KT.nil (KT.node (some (o234 P)) KT.nil KT.nil))) (KT.node (some (o58 P)) KT.nil (KT.node (some (o122 P)) KT.nil KT.nil)))) (KT.node none (KT.node none (KT.node none (KT.node (some (o70 P)) KT.nil KT.nil) KT.nil) (KT.node (some (o54 P)) KT.nil (KT.node none KT.nil (KT.node (some (o246 P)) KT.nil KT.nil)))) (KT.node none (KT.node (some (o46 P)) (KT.node (some (o78 P)) (KT.node (some (o142 P)) (KT.node (some (o270 P)) KT.nil KT.nil) KT.nil) KT.nil) KT.nil) (KT.node none (KT.node (some (o94 P)) KT.nil KT.nil) KT.nil))))))
end
noncomputable section
noncomputable def chk {α:Type} (b:Bool) (x:Option α):Option α:=match b with
 | true=>x
 | false=>none
theorem chk_some {α:Type} {b:Bool} {x:Option α} {a:α} (h:chk b x=some a):b=true∧x=some a:=by
 cases b with
 | true=>exact ⟨rfl,h⟩
 | false=>cases h
noncomputable def refA (v:Value):Option Addr:=match v with
 | .ref a=>some a
 | _=>none
theorem refA_some {v:Value} {a:Addr} (h:refA v=some a):v= .ref a:=by
 cases v<;>first | (cases h; rfl) | cases h
noncomputable def topX (p:Program) (w:World) (N m:Nat):Option Shared:=
 (opT p w N).bind fun s₀=>chk (s₀.heap.isNs mainGlobals&&s₀.gens.size==0) (chk (Nat.beq s₀.heap.objs.size m) ((s₀.heap.nsMap mainGlobals (Str.ofString "__annotations__")).bind fun v=>(refA v).bind fun a=>
  (topT (PySem.W.Fast.tw6613529449190102663 m (some (.ref a))) (stF p w) N (toT s₀) (topStub p)).bind fun s₁=>chk (staticsOk (importedModules p.main.body) s₀.heap s₁.abs.heap&&namesBound p s₁.abs.heap&&gensDone s₁.abs&&laidKept s₀.heap s₁.abs.heap) (some s₁.abs)))
theorem topX_of {p:Program} {w:World} {N m:Nat} {s:Shared} (h:topX p w N m=some s):openEnds treeTable p w N=some s:=by
 refine x0 (Option.bind_eq_some_iff.mp h) fun s₀ h0 h=>?_
 refine x2 (chk_some h) fun h1 h=>?_
 refine x2 (chk_some h) fun h2 h=>?_
 refine x0 (Option.bind_eq_some_iff.mp h) fun v h3 h=>?_
 refine x0 (Option.bind_eq_some_iff.mp h) fun a h4 h=>?_
 refine x0 (Option.bind_eq_some_iff.mp h) fun s₁ h5 h=>?_
 refine x2 (chk_some h) fun h6 h=>?_
 have z:=topT_of (congrFun (congrFun PySem.W.Fast.te6613529449190102663 _) _).symm (stF_ok _ _) _ h5
 rw [toT_abs,←Nat.eq_of_beq_eq_true h2,←refA_some h4,←h3] at z
 unfold openEnds
 rw [opT_of h0]
 show topFrom treeTable p w N s₀=some s
 unfold topFrom
 rw [h1]
 dsimp only
 rw [z]
 dsimp only [Option.bind]
 rw [h6]
 exact h
end
noncomputable section
noncomputable def qv:Program:= {pw with main:= {pw.main with body:= [topS 26]}}
noncomputable def lawN:Str:=q [108,97,119]
noncomputable def qlo:List Str:=(pw.main.scope.names.map (·.1)).filter fun n=> !PySem.W.Fast.sEq n lawN
noncomputable def Xt (s:Shared):Bool:=match s.heap.nsMap mainGlobals lawN with
 | some v=>match v with
  | .ref a=>Nat.beq a 276
  | _=>false
 | none=>false
noncomputable def ktItems:KT→Nat→Nat→Frag→Frag
 | .nil,_,_,acc=>acc
 | .node v l r,s,b,acc=>match v with
  | some o=>(b,o)::ktItems l (2 * s) (s+b) (ktItems r (2 * s) (2 * s+b) acc)
  | none=>ktItems l (2 * s) (s+b) (ktItems r (2 * s) (2 * s+b) acc)
theorem ktItems_ok {h:Heap} : ∀ {t:KT} {s b:Nat} {acc:Frag},AllIn h (ktItems t s b acc)→KT.Holds h s b t∧AllIn h acc
 | .nil,_,_,_,z=>⟨trivial,z⟩
 | .node none l r,s,b,acc,z=>
  have x:=ktItems_ok (t:=l) z
  have y:=ktItems_ok (t:=r) x.2
  ⟨⟨fun zz e=>(nomatch e),x.1,y.1⟩,y.2⟩
 | .node (some o) l r,s,b,acc,z=>
  have x:=ktItems_ok (t:=l) z.2
  have y:=ktItems_ok (t:=r) x.2
  ⟨⟨fun zz e=>Option.some.inj e▸z.1,x.1,y.1⟩,y.2⟩
noncomputable def tabO0:Obj:=Obj.mk Value.none none (Data.fields (List.toArray [])) (List.toArray [])
noncomputable def asL:List Nat:= [40,73,273,0,3,223,47,271,175,71,263,87,247,275,115,235,59,123,187,251,257,241,137,101,53,45,77,141,109,61,93,221,2,4,256,224,176,136,264,88,100,276,116,44,92,220,188,252,242,234,58,122,70,54,246,46,78,142,270,94]
noncomputable def KF (P:Params):Frag:=(40,tabO0)::(73,tabO0)::(273,tabO0)::ktItems (kt P) 1 0 []
theorem asL_ok (P:Params):asL=(KF P).map (·.1):=by kernel_rfl
theorem zt_of {h:Heap} {P:Params} (z:AllIn h (KF P)):h.get? 40=some tabO0∧h.get? 73=some tabO0∧h.get? 273=some tabO0∧KT.Holds h 1 0 (kt P):=
 ⟨z.1,z.2.1,z.2.2.1,(ktItems_ok z.2.2.2).1⟩
noncomputable def seenX (s:Shared):=(PySem.W.Fast.tw4187177175401517315 qv qlo (PySem.W.Fast.tw5923862056798008813 pw.main.body) Xt true s,obsZ asL s)
noncomputable def Key (w:World):Prop:=(topX pw w 6000 28).map seenX=some (openGood qv qlo,valZ KF 277 849 w)
noncomputable abbrev wff (b c:Bool) (w:World):World:=(w.withFollow "comprehension-iter-twice" b).withFollow "special-get-raises" c
theorem keyFF (w:World):Key (wff false false w):=by unfold Key; kernel_rfl
theorem keyTF (w:World):Key (wff true false w):=by unfold Key; kernel_rfl
theorem keyFT (w:World):Key (wff false true w):=by unfold Key; kernel_rfl
theorem keyTT (w:World):Key (wff true true w):=by unfold Key; kernel_rfl
theorem key: ∀ w,Key w:=by
 refine byRow2 "special-get-raises" (P:=Key) (byRow2 "comprehension-iter-twice" (P:=fun w=>Key (w.withFollow "special-get-raises" false)) keyFF keyTF) (byRow2 "comprehension-iter-twice" (P:=fun w=>Key (w.withFollow "special-get-raises" true)) keyFT keyTT)
theorem left:LeftO pw qv qlo Xt (obsZ asL) (valZ KF 277 849) 6000:=fun w=>by
 have h:=key w
 unfold Key seenX at h
 rw [←PySem.W.Fast.te4187177175401517315,←PySem.W.Fast.te5923862056798008813] at h
 obtain ⟨s,hs,e⟩:=Option.map_eq_some_iff.mp h
 rw [topX_of hs]
 exact congrArg some e
end
end Mine
namespace Mine
open PySem PySem.W PyProof.Rows
noncomputable def krun {α:Type} (lt:Nat→Nat→Bool):KasT α→α
 | .ret a=>a
 | .ask i j k=>krun lt (k (lt i j))
theorem krun_bind {α β:Type} {lt:Nat→Nat→Bool} {f:α→KasT β} : ∀ t:KasT α,krun lt (t.bind f)=krun lt (f (krun lt t))
 | .ret _=>rfl
 | .ask i j k=>krun_bind (k (lt i j))
structure Weak (lt:Nat→Nat→Bool):Prop where
 asym: ∀ i j,lt i j=true→lt j i=false
 trans: ∀ i j k,lt i j=false→lt j k=false→lt i k=false
noncomputable def Bef (lt:Nat→Nat→Bool) (i j:Nat):Prop:=lt i j=true∨(lt j i=false∧i<j)
section
variable {lt:Nat→Nat→Bool} (W:Weak lt)
include W
theorem Weak.irr (i:Nat):lt i i=false:=by
 cases e:lt i i with
 | false=>rfl
 | true=>have:=W.asym i i e; rw [e] at this; cases this
theorem Bef.le {i j:Nat} (h:Bef lt i j):lt j i=false:=h.elim (W.asym _ _) And.left
theorem Weak.lt_le {i j k:Nat} (h:lt i j=true) (h':lt k j=false):lt i k=true:=by
 cases e:lt i k with
 | true=>rfl
 | false=>rw [W.trans i k j e h'] at h; cases h
theorem Weak.le_lt {i j k:Nat} (h:lt j i=false) (h':lt j k=true):lt i k=true:=by
 cases e:lt i k with
 | true=>rfl
 | false=>rw [W.trans j i k h e] at h'; cases h'
theorem Bef.trans {i j k:Nat} (h:Bef lt i j) (h':Bef lt j k):Bef lt i k:=by
 have l1:=h.le W
 have l2:=h'.le W
 rcases h with h | ⟨-,h⟩
 ·exact .inl (W.lt_le h l2)
 ·rcases h' with h' | ⟨-,h'⟩
  ·exact .inl (W.le_lt l1 h')
  ·exact .inr ⟨W.trans _ _ _ l2 l1,Nat.lt_trans h h'⟩
end
noncomputable def gA (p:Array Nat) (i:Nat):Nat:=p.getD i 0
theorem gA_eq (p:Array Nat) (i:Nat):gA p i=(p[i]?).getD 0:=by unfold gA; simp
theorem gA_rev {p:Array Nat} {i j:Nat} (hj:j≤p.size) (k:Nat):gA (kas_rev p i j) k=if i≤k∧k<j then gA p (i+j - 1 - k) else gA p k:=by
 unfold kas_rev
 rw [gA_eq,getElem?_mirror_all hj]
 split<;>rw [gA_eq]
theorem gA_bubble {p:Array Nat} {k l:Nat} (hs:k<p.size) (hl:l≤k) (i:Nat):gA (bubble p k (k - l)) i=if i=l then gA p k else if l<i∧i≤k then gA p (i - 1) else gA p i:=by
 rw [gA_eq,getElem?_bubble hs _ (by lia),show k - (k - l)=l by lia]
 split
 ·rw [gA_eq]
 ·split<;>rw [gA_eq]
structure Inv (p:Array Nat) (n m:Nat):Prop where
 size:p.size=n
 perm:p.toList.Perm (List.range n)
 le:m≤n
 low: ∀ i,i<m→gA p i<m
 id: ∀ i,m≤i→i<n→gA p i=i
theorem Inv.up {p:Array Nat} {n m m':Nat} (I:Inv p n m) (h:m≤m') (h':m'≤n):Inv p n m':=
 ⟨I.size,I.perm,h',fun i hi=>by
  by_cases q:i<m
  ·exact Nat.lt_of_lt_of_le (I.low i q) h
  ·rw [I.id i (by lia) (by lia)]; exact hi,fun i h1 h2=>I.id i (by lia) h2⟩
theorem Inv.rev {p:Array Nat} {n m i j:Nat} (I:Inv p n m) (hj:j≤m):Inv (kas_rev p i j) n m:=by
 have hs:j≤p.size:=by rw [I.size]; exact Nat.le_trans hj I.le
 refine ⟨(mirror_size _ _ _ _).trans I.size,(Array.perm_iff_toList_perm.mp (mirror_perm p i j ((j - i) / 2))).trans I.perm,I.le,fun k hk=>?_,fun k h1 h2=>?_⟩
 ·rw [gA_rev hs]
  split
  ·exact I.low _ (by lia)
  ·exact I.low _ hk
 ·rw [gA_rev hs,if_neg (by lia)]
  exact I.id k h1 h2
noncomputable def Srtd (lt:Nat→Nat→Bool) (p:Array Nat) (m:Nat):Prop:=∀ i j,i<j→j<m→Bef lt (gA p i) (gA p j)
noncomputable def RevS (lt:Nat→Nat→Bool) (p:Array Nat) (m:Nat):Prop:=∀ i j,i<j→j<m→Bef lt (gA p j) (gA p i)
section
variable {lt:Nat→Nat→Bool} (W:Weak lt) {p:Array Nat} {n:Nat}
include W
theorem asc_run: ∀ (f m:Nat),Inv p n m→Srtd lt p m→1≤m→m+f=n→
  m≤krun lt (kas_asc p f m)∧krun lt (kas_asc p f m)≤n∧Srtd lt p (krun lt (kas_asc p f m))∧
   (krun lt (kas_asc p f m)=n∨lt (gA p (krun lt (kas_asc p f m))) (gA p (krun lt (kas_asc p f m) - 1))=true)
 | 0,m,I,S,_,e=>⟨Nat.le_refl _,by show m≤n; lia,S,.inl (by show m=n; lia)⟩
 | f+1,m,I,S,h1,e=>by
  cases c:lt (gA p m) (gA p (m - 1)) with
  | true=>
   have z:krun lt (kas_asc p (f+1) m)=m:=by
    show krun lt (if lt (gA p m) (gA p (m - 1))=true then KasT.ret m else kas_asc p f (m+1))=m
    rw [if_pos c]; rfl
   rw [z]
   exact ⟨Nat.le_refl _,by lia,S,.inr c⟩
  | false=>
   have z:krun lt (kas_asc p (f+1) m)=krun lt (kas_asc p f (m+1)):=by
    show krun lt (if lt (gA p m) (gA p (m - 1))=true then KasT.ret m else kas_asc p f (m+1))=_
    rw [if_neg (by rw [c]; decide)]
   rw [z]
   have last:Bef lt (gA p (m - 1)) (gA p m):=.inr ⟨c,by rw [I.id m (Nat.le_refl _) (by lia)]; exact I.low _ (by lia)⟩
   have S':Srtd lt p (m+1):=fun i j hij hj=>by
    by_cases q:j<m
    ·exact S i j hij q
    ·have:j=m:=by lia
     subst this
     by_cases q2:i=j - 1
     ·subst q2; exact last
     ·exact (S i (j - 1) (by lia) (by lia)).trans W last
   refine x13 (asc_run f (m+1) (I.up (by lia) (by lia)) S' (by lia) (by lia)) fun a b c d=>?_
   exact ⟨by lia,b,c,d⟩
theorem place_run {k:Nat} (S:Srtd lt p k): ∀ (f l r:Nat),l≤r→r≤k→r - l≤f→(∀ i,i<l→lt (gA p k) (gA p i)=false)→(∀ i,r≤i→i<k→lt (gA p k) (gA p i)=true)→
  krun lt (kas_place p k f l r)≤k∧(∀ i,i<krun lt (kas_place p k f l r)→lt (gA p k) (gA p i)=false)∧(∀ i,krun lt (kas_place p k f l r)≤i→i<k→lt (gA p k) (gA p i)=true)
 | 0,l,r,h1,h2,h3,a,b=>⟨by show l≤k; lia,a,fun i hi hk=>b i (by have:l≤i:=hi; lia) hk⟩
 | f+1,l,r,h1,h2,h3,a,b=>by
  by_cases q:l ≥ r
  ·have z:krun lt (kas_place p k (f+1) l r)=l:=by
    show krun lt (if l ≥ r then _ else _)=l
    rw [if_pos q]; rfl
   rw [z]
   exact ⟨by lia,a,fun i hi hk=>b i (by lia) hk⟩
  ·cases c:lt (gA p k) (gA p ((l+r) / 2)) with
   | true=>
    have z:krun lt (kas_place p k (f+1) l r)=krun lt (kas_place p k f l ((l+r) / 2)):=by
     show krun lt (if l ≥ r then KasT.ret l else .ask (gA p k) (gA p ((l+r) / 2)) fun c=>if c=true then kas_place p k f l ((l+r) / 2) else kas_place p k f ((l+r) / 2+1) r)=_
     rw [if_neg q]
     show krun lt (if lt (gA p k) (gA p ((l+r) / 2))=true then _ else _)=_
     rw [if_pos c]
    rw [z]
    refine place_run S f l _ (by lia) (by lia) (by lia) a fun i hi hk=>?_
    by_cases e:i=(l+r) / 2
    ·rw [e]; exact c
    ·exact W.lt_le c ((S _ i (by lia) hk).le W)
   | false=>
    have z:krun lt (kas_place p k (f+1) l r)=krun lt (kas_place p k f ((l+r) / 2+1) r):=by
     show krun lt (if l ≥ r then KasT.ret l else .ask (gA p k) (gA p ((l+r) / 2)) fun c=>if c=true then kas_place p k f l ((l+r) / 2) else kas_place p k f ((l+r) / 2+1) r)=_
     rw [if_neg q]
     show krun lt (if lt (gA p k) (gA p ((l+r) / 2))=true then _ else _)=_
     rw [if_neg (by rw [c]; decide)]
    rw [z]
    refine place_run S f _ r (by lia) (by lia) (by lia) (fun i hi=>?_) b
    by_cases e:i=(l+r) / 2
    ·rw [e]; exact c
    ·exact W.trans _ _ _ c ((S i ((l+r) / 2) (by lia) (by lia)).le W)
theorem bin_run: ∀ (f:Nat) (p:Array Nat) (k:Nat),Inv p n k→Srtd lt p k→k+f=n→Inv (krun lt (kas_bin f p k)) n n∧Srtd lt (krun lt (kas_bin f p k)) n
 | 0,p,k,I,S,e=>by
  have:k=n:=by lia
  subst this
  exact ⟨I,S⟩
 | f+1,p,k,I,S,e=>by
  have z:krun lt (kas_bin (f+1) p k)=krun lt (kas_bin f (bubble p k (k - krun lt (kas_place p k k 0 k))) (k+1)):=krun_bind _
  rw [z]
  refine x4 (place_run W S k 0 k (Nat.zero_le _) (Nat.le_refl _) (Nat.le_refl _) (fun i hi=>by lia) (fun i h1 h2=>by lia)) fun a b c=>?_
  generalize krun lt (kas_place p k k 0 k)=l at a b c ⊢
  have hk:k<p.size:=by rw [I.size]; lia
  have idk:gA p k=k:=I.id k (Nat.le_refl _) (by lia)
  refine bin_run f _ (k+1) ⟨(bubble_size _ _ _).trans I.size,(Array.perm_iff_toList_perm.mp (bubble_perm p k (k - l))).trans I.perm,by lia,fun i hi=>?_,fun i h1 h2=>?_⟩ (fun i j hij hj=>?_) (by lia)
  ·rw [gA_bubble hk a]
   split
   ·lia
   ·split
    ·have:=I.low (i - 1) (by lia); lia
    ·have:=I.low i (by lia); lia
  ·rw [gA_bubble hk a,if_neg (by lia),if_neg (by lia)]
   exact I.id i (by lia) h2
  ·rw [gA_bubble hk a,gA_bubble hk a]
   by_cases e1:i=l
   ·rw [if_pos e1,if_neg (by lia),if_pos (by lia)]
    exact .inl (c (j - 1) (by lia) (by lia))
   ·rw [if_neg e1]
    by_cases e2:j=l
    ·rw [if_neg (by lia),if_pos e2]
     exact .inr ⟨b i (by lia),by rw [idk]; exact I.low i (by lia)⟩
    ·rw [if_neg e2]
     split
     ·rw [if_pos (by lia)]
      exact S _ _ (by lia) (by lia)
     ·split
      ·by_cases e3:i<l
       ·exact S _ _ (by lia) (by lia)
       ·lia
      ·exact S _ _ hij (by lia)
end
structure DInv (lt:Nat→Nat→Bool) (p:Array Nat) (n m q:Nat):Prop where
 hq:q+1≤m
 inv:Inv p n (m - (q+1))
 le:m≤n
 d: ∀ i j,i<j→j<m→i<m - (q+1)→Bef lt (gA p j) (gA p i)
 e: ∀ i,m - (q+1)≤i→i<m→lt i (m - 1)=false∧lt (m - 1) i=false
section
variable {lt:Nat→Nat→Bool} (W:Weak lt) {p:Array Nat} {n:Nat}
include W
theorem DInv.fix {m q:Nat} (D:DInv lt p n m q):Inv (kas_rev p (m - (q+1)) m) n m∧RevS lt (kas_rev p (m - (q+1)) m) m:=by
 have hs:m≤p.size:=by rw [D.inv.size]; exact D.le
 have hq:=D.hq
 have hle:=D.le
 refine ⟨(D.inv.up (by lia) D.le).rev (Nat.le_refl _),fun i j hij hj=>?_⟩
 rw [gA_rev hs,gA_rev hs]
 by_cases h1:m - (q+1)≤i
 ·rw [if_pos ⟨by lia,hj⟩,if_pos ⟨h1,by lia⟩,D.inv.id _ (by lia) (by lia),D.inv.id _ (by lia) (by lia)]
  have a:=D.e (m - (q+1)+m - 1 - j) (by lia) (by lia)
  have b:=D.e (m - (q+1)+m - 1 - i) (by lia) (by lia)
  exact .inr ⟨W.trans _ _ _ b.1 a.2,by lia⟩
 ·rw [if_neg (by lia: ¬ (m - (q+1)≤i∧i<m))]
  split
  ·exact D.d _ _ (by lia) (by lia) (by lia)
  ·exact D.d _ _ hij hj (by lia)
theorem DInv.fix0 {m:Nat} (D:DInv lt p n m 0):Inv p n m∧RevS lt p m:=by
 have hq:=D.hq
 exact ⟨D.inv.up (by lia) D.le,fun i j hij hj=>D.d i j hij hj (by lia)⟩
theorem DInv.start {m:Nat} (I:Inv p n m) (S:RevS lt p m) (hm:m<n) (hl: ∀ i,i<m→lt m (gA p i)=true):DInv lt p n (m+1) 0:=by
 have e:m+1 - (0+1)=m:=by lia
 refine ⟨by lia,by rw [e]; exact I,hm,fun i j hij hj hi=>?_,fun i h1 h2=>?_⟩
 ·rw [e] at hi
  by_cases q:j<m
  ·exact S i j hij q
  ·have:j=m:=by lia
   subst this
   rw [I.id j (Nat.le_refl _) hm]
   exact .inl (hl i hi)
 ·have:i=m:=by lia
  subst this
  have:=W.irr i
  exact ⟨this,this⟩
theorem DInv.next {m q:Nat} (D:DInv lt p n m q) (hm:m<n) (h1:lt m (m - 1)=false) (h2:lt (m - 1) m=false):DInv lt p n (m+1) (q+1):=by
 have hq:=D.hq
 have e:m+1 - (q+1+1)=m - (q+1):=by lia
 refine ⟨by lia,by rw [e]; exact D.inv,hm,fun i j hij hj hi=>?_,fun i h3 h4=>?_⟩
 ·rw [e] at hi
  by_cases z:j<m
  ·exact D.d i j hij z hi
  ·have:j=m:=by lia
   subst this
   have a:=D.d i (j - 1) (by lia) (by lia) hi
   rw [D.inv.id (j - 1) (by lia) (by lia)] at a
   rw [D.inv.id j (by lia) hm]
   have b:=D.inv.low i hi
   rcases a with a | ⟨-,a⟩
   ·exact .inl (W.le_lt h2 a)
   ·lia
 ·rw [e] at h3
  rw [show m+1 - 1=m from rfl]
  by_cases z:i=m
  ·subst z
   have:=W.irr i
   exact ⟨this,this⟩
  ·refine x2 (D.e i h3 (by lia)) fun a b=>?_
   exact ⟨W.trans _ _ _ a h2,W.trans _ _ _ h1 b⟩
theorem DInv.less {m q:Nat} (D:DInv lt p n m q) (hm:m<n) (h:lt m (m - 1)=true) {p':Array Nat} (hp:Inv p' n m∧RevS lt p' m)
  (hr:p'=kas_rev p (m - (q+1)) m∨p'=p):DInv lt p' n (m+1) 0:=by
 have hq:=D.hq
 have key: ∀ i,i<m→lt m (gA p i)=true:=fun i hi=>by
  by_cases z:m - (q+1)≤i
  ·rw [D.inv.id i z (by lia)]
   exact W.lt_le h (D.e i z hi).1
  ·by_cases y:i=m - 1
   ·lia
   ·have a:=(D.d i (m - 1) (by lia) (by lia) (by lia)).le W
    rw [D.inv.id (m - 1) (by lia) (by lia)] at a
    exact W.lt_le h a
 refine DInv.start W hp.1 hp.2 hm fun i hi=>?_
 rcases hr with rfl | rfl
 ·rw [gA_rev (by rw [D.inv.size]; exact D.le)]
  split
  ·exact key _ (by lia)
  ·exact key i hi
 ·exact key i hi
theorem desc_run: ∀ (f:Nat) (p:Array Nat) (m q:Nat),DInv lt p n m q→m+f=n→
  ∃ p' m' q',krun lt (kas_desc f p m q)=(p',m',q')∧DInv lt p' n m' q'∧m≤m'
 | 0,p,m,q,D,_=>⟨p,m,q,rfl,D,Nat.le_refl _⟩
 | f+1,p,m,q,D,e=>by
  have hq:=D.hq
  have im:gA p m=m:=D.inv.id m (by lia) (by lia)
  have il:gA p (m - 1)=m - 1:=D.inv.id _ (by lia) (by lia)
  have unf:krun lt (kas_desc (f+1) p m q)=krun lt (if lt (gA p m) (gA p (m - 1))=true then (if q > 0 then kas_desc f (kas_rev p (m - (q+1)) m) (m+1) 0 else kas_desc f p (m+1) 0)
   else .ask (gA p (m - 1)) (gA p m) fun d=>if d=true then .ret (p,m,q) else kas_desc f p (m+1) (q+1)):=rfl
  rw [unf,im,il]
  cases c:lt m (m - 1) with
  | true=>
   rw [if_pos rfl]
   split
   ·refine x25 (desc_run f _ (m+1) 0 (D.less W (by lia) c (D.fix W) (.inl rfl)) (by lia)) fun p' m' q' a b g=>?_
    exact ⟨p',m',q',a,b,by lia⟩
   ·have:q=0:=by lia
    subst this
    refine x25 (desc_run f p (m+1) 0 (D.less W (by lia) c (D.fix0 W) (.inr rfl)) (by lia)) fun p' m' q' a b g=>?_
    exact ⟨p',m',q',a,b,by lia⟩
  | false=>
   rw [if_neg (by decide)]
   show ∃ p' m' q',krun lt (if lt (m - 1) m=true then KasT.ret (p,m,q) else kas_desc f p (m+1) (q+1))=(p',m',q')∧DInv lt p' n m' q'∧m≤m'
   cases c':lt (m - 1) m with
   | true=>
    rw [if_pos rfl]
    exact ⟨p,m,q,rfl,D,Nat.le_refl _⟩
   | false=>
    rw [if_neg (by decide)]
    refine x25 (desc_run f p (m+1) (q+1) (D.next W (by lia) c c') (by lia)) fun p' m' q' a b g=>?_
    exact ⟨p',m',q',a,b,by lia⟩
theorem tail_run {m:Nat} (I:Inv p n m) (S:RevS lt p m) (h1:1≤m): ∃ m' p',krun lt (kas_tail3 m n p)=(m',p')∧Inv p' n m'∧Srtd lt p' m'∧1≤m':=by
 have hs:m≤p.size:=by rw [I.size]; exact I.le
 have S':Srtd lt (kas_rev p 0 m) m:=fun i j hij hj=>by
  rw [gA_rev hs,gA_rev hs,if_pos ⟨by lia,by lia⟩,if_pos ⟨by lia,hj⟩]
  exact S _ _ (by lia) (by lia)
 have I':Inv (kas_rev p 0 m) n m:=I.rev (Nat.le_refl _)
 have hle:=I.le
 refine x13 (asc_run W (n - m) m I' S' h1 (by lia)) fun a b c zz=>?_
 refine ⟨_,_,krun_bind _,I'.up a b,c,Nat.le_trans h1 a⟩
theorem descPart_run {m:Nat} (I:Inv p n m) (S:RevS lt p m) (hm:m<n) (hl: ∀ i,i<m→lt m (gA p i)=true): ∃ m' p',krun lt (kas_descPart m n p)=(m',p')∧Inv p' n m'∧Srtd lt p' m'∧1≤m':=by
 refine x25 (desc_run W (n - (m+1)) p (m+1) 0 (DInv.start W I S hm hl) (by lia)) fun p' m' q' a b c=>?_
 have z:krun lt (kas_descPart m n p)=krun lt (if q' > 0 then kas_tail3 m' n (kas_rev p' (m' - (q'+1)) m') else kas_tail3 m' n p'):=by
  unfold kas_descPart
  rw [krun_bind,a]
 rw [z]
 split
 ·exact tail_run W (b.fix W).1 (b.fix W).2 (by lia)
 ·have:q'=0:=by lia
  subst this
  exact tail_run W (b.fix0 W).1 (b.fix0 W).2 (by lia)
omit W in
theorem gA_range {n i:Nat} (h:i<n):gA (List.toArray (List.range n)) i=i:=by
 rw [gA_eq]
 simp [h]
omit W in
theorem Inv.range (n:Nat):Inv (List.toArray (List.range n)) n 0:=⟨by simp,.refl _,Nat.zero_le _,fun i hi=>by lia,fun i zz h=>gA_range h⟩
theorem count_run {n:Nat} (hn:1≤n): ∃ m' p',krun lt (kas_count n (List.toArray (List.range n)))=(m',p')∧Inv p' n m'∧Srtd lt p' m'∧1≤m':=by
 have I1:Inv (List.toArray (List.range n)) n 1:=(Inv.range n).up (by lia) hn
 refine x13 (asc_run W (n - 1) 1 I1 (fun i j hij hj=>by lia) (Nat.le_refl _) (by lia)) fun a b c d=>?_
 have z:krun lt (kas_count n (List.toArray (List.range n)))=krun lt (if (krun lt (kas_asc (List.toArray (List.range n)) (n - 1) 1)==n)=true then .ret (krun lt (kas_asc (List.toArray (List.range n)) (n - 1) 1),List.toArray (List.range n)) else if krun lt (kas_asc (List.toArray (List.range n)) (n - 1) 1) > 1 then .ask (gA (List.toArray (List.range n)) 0) (gA (List.toArray (List.range n)) (krun lt (kas_asc (List.toArray (List.range n)) (n - 1) 1) - 1)) fun c=>if c=true then .ret (krun lt (kas_asc (List.toArray (List.range n)) (n - 1) 1),List.toArray (List.range n)) else kas_descPart (krun lt (kas_asc (List.toArray (List.range n)) (n - 1) 1)) n (kas_rev (List.toArray (List.range n)) 0 (krun lt (kas_asc (List.toArray (List.range n)) (n - 1) 1)))
  else kas_descPart (krun lt (kas_asc (List.toArray (List.range n)) (n - 1) 1)) n (List.toArray (List.range n))):=by
  unfold kas_count
  rw [krun_bind]
  rfl
 rw [z]
 generalize krun lt (kas_asc (List.toArray (List.range n)) (n - 1) 1)=m at a b c d ⊢
 by_cases q:m=n
 ·rw [if_pos (by rw [q]; simp)]
  exact ⟨_,_,rfl,I1.up a b,c,a⟩
 ·rw [if_neg (by simpa using q)]
  have d:=d.resolve_left q
  rw [gA_range (by lia),gA_range (by lia)] at d
  split
  ·show ∃ m' p',krun lt (if lt (gA (List.toArray (List.range n)) 0) (gA (List.toArray (List.range n)) (m - 1))=true then KasT.ret (m,List.toArray (List.range n)) else kas_descPart m n (kas_rev (List.toArray (List.range n)) 0 m))=(m',p')∧Inv p' n m'∧Srtd lt p' m'∧1≤m'
   rw [gA_range (by lia),gA_range (by lia)]
   cases e:lt 0 (m - 1) with
   | true=>
    rw [if_pos rfl]
    exact ⟨_,_,rfl,I1.up a b,c,a⟩
   | false=>
    rw [if_neg (by decide)]
    have hs:m≤(List.toArray (List.range n)).size:=by simp; lia
    have same: ∀ i,i<m→lt i (m - 1)=false∧lt (m - 1) i=false:=fun i hi=>by
     have x:lt i 0=false:=by
      by_cases y:i=0
      ·subst y; exact W.irr 0
      ·have:=(c 0 i (by lia) hi).le W
       rwa [gA_range (by lia),gA_range (by lia)] at this
     have y:lt (m - 1) i=false:=by
      by_cases y:i=m - 1
      ·subst y; exact W.irr _
      ·have:=(c i (m - 1) (by lia) (by lia)).le W
       rwa [gA_range (by lia),gA_range (by lia)] at this
     exact ⟨W.trans _ _ _ x e,y⟩
    have gr: ∀ i,i<m→gA (kas_rev (List.toArray (List.range n)) 0 m) i=m - 1 - i:=fun i hi=>by
     rw [gA_rev hs,if_pos ⟨by lia,hi⟩,gA_range (by lia)]
     lia
    refine descPart_run W ((I1.up a b).rev (Nat.le_refl _)) (fun i j hij hj=>?_) (by lia) fun i hi=>?_
    ·rw [gr i (by lia),gr j hj]
     have x:=same (m - 1 - i) (by lia)
     have y:=same (m - 1 - j) (by lia)
     exact .inr ⟨W.trans _ _ _ x.1 y.2,by lia⟩
    ·rw [gr i hi]
     exact W.lt_le d (same _ (by lia)).1
  ·have:m=1:=by lia
   subst this
   refine descPart_run W (I1.up a b) (fun i j hij hj=>by lia) (by lia) fun i hi=>?_
   have:i=0:=by lia
   subst this
   rw [gA_range (by lia)]
   exact d
theorem sort_run {n:Nat} (hn:1≤n):Inv (krun lt (kas_sort n)) n n∧Srtd lt (krun lt (kas_sort n)) n:=by
 refine x15 (count_run W hn) fun m p a b c d=>?_
 have hle:=b.le
 have z:krun lt (kas_sort n)=krun lt (if m<n then kas_bin (n - max m 1) p (max m 1) else .ret p):=by
  unfold kas_sort
  rw [krun_bind,a]
 rw [z,show max m 1=m by lia]
 split
 ·exact bin_run W (n - m) p m b c (by lia)
 ·have:m=n:=by lia
  subst this
  exact ⟨b,c⟩
theorem sort_pairwise {n:Nat} (hn:1≤n):(krun lt (kas_sort n)).size=n∧(krun lt (kas_sort n)).toList.Perm (List.range n)∧(krun lt (kas_sort n)).toList.Pairwise (Bef lt):=by
 refine x2 (sort_run W hn) fun I S=>?_
 refine ⟨I.size,I.perm,?_⟩
 rw [List.pairwise_iff_getElem]
 intro i j hi hj hij
 have hj':j<n:=by rw [←I.size]; simpa using hj
 have:=S i j hij hj'
 rw [gA_eq,gA_eq] at this
 have h1:i<(krun lt (kas_sort n)).size:=by simpa using hi
 have h2:j<(krun lt (kas_sort n)).size:=by simpa using hj
 simpa [h1,h2] using this
end
theorem bef_uniq {R:Nat→Nat→Prop} (as: ∀ i j,R i j→R j i→False): ∀ {a b:List Nat},a.Perm b→a.Pairwise R→b.Pairwise R→a=b
 | [],_,p,_,_=>p.nil_eq
 | x::r,b,p,ha,hb=>by
  cases b with
  | nil=>exact absurd p.length_eq (by simp)
  | cons y t=>
   have hx:x∈y::t:=p.mem_iff.mp (.head _)
   have hy:y∈x::r:=p.mem_iff.mpr (.head _)
   have e:x=y:=by
    rcases List.mem_cons.mp hx with h | h
    ·exact h
    ·rcases List.mem_cons.mp hy with h' | h'
     ·exact h'.symm
     ·exact (as _ _ ((List.pairwise_cons.mp ha).1 y h') ((List.pairwise_cons.mp hb).1 x h)).elim
   subst e
   rw [bef_uniq as (List.Perm.cons_inv p) (List.pairwise_cons.mp ha).2 (List.pairwise_cons.mp hb).2]
theorem sort_same {lt lt':Nat→Nat→Bool} (W:Weak lt) (W':Weak lt') {n:Nat} (hn:1≤n) (h: ∀ i j,i<n→j<n→Bef lt' i j→Bef lt i j):krun lt (kas_sort n)=krun lt' (kas_sort n):=by
 refine x4 (sort_pairwise W hn) fun zz p1 s1=>?_
 refine x4 (sort_pairwise W' hn) fun zz p2 s2=>?_
 apply Array.toList_inj.mp
 refine bef_uniq (R:=Bef lt) (fun i j a b=>?_) (p1.trans p2.symm) s1 ?_
 ·have x:=a.le W
  have y:=b.le W
  rcases a with a | ⟨-,a⟩
  ·rw [y] at a; cases a
  ·rcases b with b | ⟨-,b⟩
   ·rw [x] at b; cases b
   ·lia
 ·refine s2.imp_of_mem fun {a b} ha hb r=>h a b ?_ ?_ r
  ·exact List.mem_range.mp (p2.mem_iff.mp ha)
  ·exact List.mem_range.mp (p2.mem_iff.mp hb)
noncomputable def Asks {α:Type} (n:Nat) (P:α→Prop):KasT α→Prop
 | .ret a=>P a
 | .ask i j k=>i<n∧j<n∧∀ b,Asks n P (k b)
theorem Asks.bind {α β:Type} {n:Nat} {P:α→Prop} {Q:β→Prop} {f:α→KasT β} : ∀ {t:KasT α},Asks n P t→(∀ a,P a→Asks n Q (f a))→Asks n Q (t.bind f)
 | .ret a,h,hf=>hf a h
 | .ask _ _ _,h,hf=>⟨h.1,h.2.1,fun b=>Asks.bind (h.2.2 b) hf⟩
noncomputable def Bd (n:Nat) (p:Array Nat):Prop:=∀ x∈p.toList,x<n
theorem Bd.at {n:Nat} {p:Array Nat} (h:Bd n p) (hn:0<n) (i:Nat):p.getD i 0<n:=by
 by_cases q:i<p.size
 ·have e:p.getD i 0=p[i]:=by simp [Array.getD,q]
  rw [e]
  exact h _ (by simp)
 ·have e:p.getD i 0=0:=by simp [Array.getD,q]
  rw [e]; exact hn
theorem Bd.rev {n:Nat} {p:Array Nat} (h:Bd n p) (i j:Nat):Bd n (kas_rev p i j):=fun x hx=>h x ((Array.perm_iff_toList_perm.mp (mirror_perm p i j ((j - i) / 2))).mem_iff.mp hx)
theorem Bd.bubble {n:Nat} {p:Array Nat} (h:Bd n p) (k d:Nat):Bd n (bubble p k d):=fun x hx=>h x ((Array.perm_iff_toList_perm.mp (bubble_perm p k d)).mem_iff.mp hx)
section
variable {n:Nat} (hn:0<n)
include hn
theorem asks_asc {p:Array Nat} (B:Bd n p): ∀ f m,Asks n (fun zz=>True) (kas_asc p f m)
 | 0,_=>trivial
 | f+1,m=>⟨B.at hn _,B.at hn _,fun b=>by
  dsimp only
  split
  ·trivial
  ·exact asks_asc B f _⟩
theorem asks_desc: ∀ f (p:Array Nat) m q,Bd n p→Asks n (fun r=>Bd n r.1) (kas_desc f p m q)
 | 0,_,_,_,B=>B
 | f+1,p,m,q,B=>⟨B.at hn _,B.at hn _,fun b=>by
  dsimp only
  split
  ·split
   ·exact asks_desc f _ _ _ (B.rev _ _)
   ·exact asks_desc f _ _ _ B
  ·refine ⟨B.at hn _,B.at hn _,fun b=>?_⟩
   dsimp only
   split
   ·exact B
   ·exact asks_desc f _ _ _ B⟩
theorem asks_tail {p:Array Nat} (B:Bd n p) (a b:Nat):Asks n (fun r=>Bd n r.2) (kas_tail3 a b p):=
 (asks_asc hn (B.rev _ _) _ _).bind fun zz zz=>B.rev _ _
theorem asks_descPart {p:Array Nat} (B:Bd n p) (a b:Nat):Asks n (fun r=>Bd n r.2) (kas_descPart a b p):=
 (asks_desc hn _ _ _ _ B).bind fun r hr=>by
  split
  ·exact asks_tail hn (hr.rev _ _) _ _
  ·exact asks_tail hn hr _ _
theorem asks_count {p:Array Nat} (B:Bd n p) (m:Nat):Asks n (fun r=>Bd n r.2) (kas_count m p):=
 (asks_asc hn B _ _).bind fun r zz=>by
  split
  ·exact B
  ·split
   ·refine ⟨B.at hn _,B.at hn _,fun b=>?_⟩
    dsimp only
    split
    ·exact B
    ·exact asks_descPart hn (B.rev _ _) _ _
   ·exact asks_descPart hn B _ _
theorem asks_place {p:Array Nat} (B:Bd n p) (k:Nat): ∀ f l r,Asks n (fun zz=>True) (kas_place p k f l r)
 | 0,_,_=>trivial
 | f+1,l,r=>by
  unfold kas_place
  split
  ·trivial
  ·refine ⟨B.at hn _,B.at hn _,fun b=>?_⟩
   dsimp only
   split
   ·exact asks_place B k f _ _
   ·exact asks_place B k f _ _
theorem asks_bin: ∀ f (p:Array Nat) k,Bd n p→Asks n (Bd n) (kas_bin f p k)
 | 0,_,_,B=>B
 | f+1,p,k,B=>(asks_place hn B _ _ _ _).bind fun l zz=>asks_bin f _ _ (B.bubble _ _)
theorem asks_sort:Asks n (fun zz=>True) (kas_sort n):=by
 have B:Bd n (List.toArray (List.range n)):=fun x hx=>by simpa using hx
 refine (asks_count hn B n).bind fun r hr=>?_
 have mono: ∀ {t:KasT (Array Nat)},Asks n (Bd n) t→Asks n (fun zz=>True) t:=fun {t} =>by
  induction t with
  | ret a=>exact fun zz=>trivial
  | ask i j k ih=>exact fun h=>⟨h.1,h.2.1,fun b=>ih b (h.2.2 b)⟩
 split
 ·exact mono (asks_bin hn _ _ _ hr)
 ·trivial
end
theorem krun_wp {α:Type} {n:Nat} {lt:Nat→Nat→Bool} {cmp:Nat→Nat→(Bool→Shared→Prop)→Shared→Prop} {I:Shared→Prop} {P:α→Prop} {Q:α→Shared→Prop}
  (hc: ∀ i j s (C:Bool→Shared→Prop),i<n→j<n→I s→(∀ s',I s'→C (lt i j) s')→cmp i j C s): ∀ (t:KasT α) (s:Shared),Asks n P t→I s→(∀ s',I s'→Q (krun lt t) s')→t.kasWp cmp Q s
 | .ret _,s,_,hI,h=>h s hI
 | .ask i j k,s,ha,hI,h=>hc i j s _ ha.1 ha.2.1 hI fun s' hI'=>krun_wp hc (k (lt i j)) s' (ha.2.2 _) hI' h
end Mine
namespace Mine
open PySem PySem.W PySem.W.X
noncomputable abbrev eF:Sem Unit:=Fast.tw15066281185411960212 0
noncomputable def bcS (name qual:Str) (given:List Value) (kw:List (Str×Value)) (body:List Stmt) (scope:Scope) (statics:List Str) (fl:Nat) (env:Env) (pos:Pos) (tp:Option Value):
  PSigma fun F:Sem Unit→Sem Value=>∀ y:Sem Unit,eF=y→Fast.tw1785580099245652887 name qual given kw body scope statics fl env pos tp=F y:=by
 apply PSigma.mk
 intro y h
 unfold Fast.tw1785580099245652887
 unfold eF at h
 rw [h]
noncomputable def bcF (name qual:Str) (given:List Value) (kw:List (Str×Value)) (body:List Stmt) (scope:Scope) (statics:List Str) (fl:Nat) (env:Env) (pos:Pos) (tp:Option Value) (y:Sem Unit):Sem Value:=(bcS name qual given kw body scope statics fl env pos tp).1 y
theorem bcF_eq (name qual:Str) (given:List Value) (kw:List (Str×Value)) (body:List Stmt) (scope:Scope) (statics:List Str) (fl:Nat) (env:Env) (pos:Pos) (tp:Option Value):
  buildClass name qual given kw body scope statics fl env pos tp=bcF name qual given kw body scope statics fl env pos tp eF:=by
 rw [Fast.te1785580099245652887]
 exact (bcS name qual given kw body scope statics fl env pos tp).2 eF rfl
section
variable {M:Model} {Γ:Ctx} {α β:Type}
noncomputable def LeS (M:Model) (Γ:Ctx) (t' t:Sem α):Prop:=∀ (Q:α→Pos→Shared→Prop) (E:Value→Pos→Shared→Prop) (p:Pos) (s:Shared),Sem.wp M Γ t' Q E p s→Sem.wp M Γ t Q E p s
theorem LeS.refl (t:Sem α):LeS M Γ t t:=fun zz zz zz zz h=>h
theorem LeS.bind {t' t:Sem α} {f' f:α→Sem β} (h:LeS M Γ t' t) (hf: ∀ a,LeS M Γ (f' a) (f a)):LeS M Γ (@bind Sem (@Monad.toBind Sem Fast.tw12456147031677567982) _ _ t' f') (@bind Sem (@Monad.toBind Sem Fast.tw12456147031677567982) _ _ t f):=fun Q E p s q=>by
 have e:Sem.instMonad=Fast.tw12456147031677567982:=Fast.te12456147031677567982
 rw [←e] at q ⊢
 rw [Sem.wp_bind'] at q ⊢
 exact Sem.wp_mono M Γ _ (fun a p s q=>hf a Q E p s q) (fun zz zz zz e=>e) p s (h _ _ p s q)
theorem LeS.hold {vs:List Value} {t' t:Sem α} (h:LeS M Γ t' t):LeS M Γ (Fast.tw17359229931016689406 vs t') (Fast.tw17359229931016689406 vs t):=fun Q E p s q=>by
 have e: @holding= @Fast.tw17359229931016689406:=Fast.te17359229931016689406
 rw [←e] at q ⊢
 rw [Sem.wp_holding] at q ⊢
 exact h Q E p s q
theorem LeS.ite {c:Prop} [Decidable c] {a' a b' b:Sem α} (h1:LeS M Γ a' a) (h2:LeS M Γ b' b):LeS M Γ (if c then a' else b') (if c then a else b):=by
 split
 ·exact h1
 ·exact h2
theorem LeS.mref {F' F:Addr→Sem α} {G:Value→Sem α} (v:Value) (h: ∀ a,LeS M Γ (F' a) (F a)):LeS M Γ (match v with | .ref a=>F' a | v=>G v) (match v with | .ref a=>F a | v=>G v):=by
 cases v with
 | ref a=>exact h a
 | _=>exact .refl _
theorem LeS.mby {F' F:Array UInt8→Tok→Sem α} {G' G:Sem α} (v:Value) (h: ∀ a t,LeS M Γ (F' a t) (F a t)) (k:LeS M Γ G' G):LeS M Γ (match v with | .bytes a t=>F' a t | _=>G') (match v with | .bytes a t=>F a t | _=>G):=by
 cases v with
 | bytes a=>exact h a _
 | _=>exact k
theorem LeS.mstr {F' F:Str→Tok→Sem α} {G' G:Sem α} (v:Value) (h: ∀ a t,LeS M Γ (F' a t) (F a t)) (k:LeS M Γ G' G):LeS M Γ (match v with | .str a t=>F' a t | _=>G') (match v with | .str a t=>F a t | _=>G):=by
 cases v with
 | str a t=>exact h a t
 | _=>exact k
theorem bc_le {y' y:Sem Unit} (hy:LeS M Γ y' y) (name qual:Str) (given:List Value) (kw:List (Str×Value)) (body:List Stmt) (scope:Scope) (statics:List Str) (fl:Nat) (env:Env) (pos:Pos) (tp:Option Value):
  LeS M Γ (bcF name qual given kw body scope statics fl env pos tp y') (bcF name qual given kw body scope statics fl env pos tp y):=by
 delta bcF bcS
 dsimp -zeta only
 refine LeS.bind (.refl _) fun givenT=>?_
 extract_lets b1 r1 b2 r2
 refine LeS.bind (.refl _) fun s1=>?_
 extract_lets b3 r3 ji' jo' ji jo
 have hi: ∀ u m,LeS M Γ (ji' u m) (ji u m):=by
  intro u m
  dsimp -zeta only [ji',ji]
  refine LeS.bind (.refl _) fun nameV=>?_
  extract_lets k1' k1
  have hk: ∀ bT,LeS M Γ (k1' bT) (k1 bT):=by
   intro bT
   dsimp -zeta only [k1',k1]
   refine LeS.hold (LeS.bind (.refl _) fun prep=>?_)
   extract_lets k2' k2
   have hk2: ∀ ns,LeS M Γ (k2' ns) (k2 ns):=by
    intro ns
    dsimp -zeta only [k2',k2]
    extract_lets k3' k4' k3 k4
    have h3: ∀ u,LeS M Γ (k3' u) (k3 u):=by
     intro u
     dsimp -zeta only [k3',k3]
     clear_value k4' k4
     refine LeS.mref ns fun nsA=>?_
     refine LeS.bind (.refl _) fun zz=>LeS.bind (.refl _) fun gi=>?_
     extract_lets k6' k5' k6 k5
     have h6: ∀ u,LeS M Γ (k6' u) (k6 u):=by
      intro cell
      dsimp -zeta only [k6',k6]
      clear_value k5' k5
      extract_lets q7 k7' k7
      have h7: ∀ u,LeS M Γ (k7' u) (k7 u):=by
       intro dc
       dsimp -zeta only [k7',k7]
       refine LeS.bind (.refl _) fun code=>LeS.bind (.refl _) fun bi=>LeS.bind (.refl _) fun frame=>LeS.bind (.refl _) fun clo=>?_
       extract_lets cenv
       refine LeS.hold ?_
       exact LeS.bind hy fun zz=>.refl _
      clear_value k7' k7
      exact LeS.ite (LeS.bind (.refl _) fun x=>h7 x) (LeS.bind (.refl _) fun x=>h7 x)
     have h5: ∀ u,LeS M Γ (k5' u) (k5 u):=by
      intro u
      dsimp -zeta only [k5',k5]
      clear_value k6' k6
      exact LeS.hold (LeS.ite (LeS.bind (.refl _) fun x=>h6 x) (LeS.bind (.refl _) fun x=>h6 x))
     clear_value k5' k5
     clear_value k6' k6
     exact LeS.ite (LeS.bind (.refl _) fun x=>h5 x) (h5 _)
    have h4: ∀ u,LeS M Γ (k4' u) (k4 u):=by
     intro u
     dsimp -zeta only [k4',k4]
     clear_value k3' k3
     exact LeS.mby ns (fun b t=>LeS.bind (.refl _) fun x=>h3 x) (h3 _)
    clear_value k4' k4
    clear_value k3' k3
    exact LeS.mstr ns (fun b t=>LeS.bind (.refl _) fun x=>h4 x) (h4 _)
   clear_value k2' k2
   cases prep with
   | some prep=>exact LeS.bind (.refl _) fun ns=>hk2 ns
   | none=>exact LeS.bind (.refl _) fun ns=>hk2 ns
  clear_value k1' k1
  exact LeS.ite (LeS.bind (.refl _) fun x=>hk x) (LeS.bind (.refl _) fun x=>hk x)
 clear_value ji' ji
 have ho: ∀ m,LeS M Γ (jo' m) (jo m):=by
  intro m
  dsimp -zeta only [jo',jo]
  refine LeS.bind (.refl _) fun c=>?_
  refine LeS.ite (LeS.bind (.refl _) fun x=>?_) (hi _ _)
  extract_lets mc
  exact hi _ _
 clear_value jo' jo
 clear_value b3
 split
 ·exact LeS.bind (.refl _) fun x=>ho x
 ·exact LeS.bind (.refl _) fun x=>ho x
 ·exact LeS.bind (.refl _) fun x=>ho x
end
noncomputable def clsS (name:Str) (bases:List Expr) (kws:List Keyword) (body:List Stmt) (decs:List Expr) (scope:Scope) (x1:Option Scope) (bind:Str) (statics:List Str) (pos:Pos) (env:Env):
  PSigma fun F:Sem Unit→Sem Flow=>∀ y:Sem Unit,eF=y→exec (.ClassDef name bases kws body decs [] scope x1 bind statics pos) env=F y:=by
 apply PSigma.mk
 intro y h
 rewrite [arm_exec_ClassDef]
 simp only [bcF_eq]
 rewrite [Fast.te9800728527408917180,Fast.te10458482166411082596,Fast.te14857818083647630748,Fast.te17359229931016689406,Fast.te5911215902649259669,Fast.te4897270859577272712,Fast.te13897175071876407860,Fast.te621762911399731506,Fast.te11621922129505618389,Fast.te9498003681964393637,Fast.te7536695828754713326,Fast.te17798618104000559429,Fast.te12456147031677567982]
 rw [h]
noncomputable def clsF (name:Str) (bases:List Expr) (kws:List Keyword) (body:List Stmt) (decs:List Expr) (scope:Scope) (x1:Option Scope) (bind:Str) (statics:List Str) (pos:Pos) (env:Env) (y:Sem Unit):Sem Flow:=(clsS name bases kws body decs scope x1 bind statics pos env).1 y
theorem clsF_eq (name:Str) (bases:List Expr) (kws:List Keyword) (body:List Stmt) (decs:List Expr) (scope:Scope) (x1:Option Scope) (bind:Str) (statics:List Str) (pos:Pos) (env:Env):
  exec (.ClassDef name bases kws body decs [] scope x1 bind statics pos) env=clsF name bases kws body decs scope x1 bind statics pos env eF:=(clsS name bases kws body decs scope x1 bind statics pos env).2 eF rfl
theorem cls_le {M:Model} {Γ:Ctx} {y' y:Sem Unit} (hy:LeS M Γ y' y) (name:Str) (bases:List Expr) (kws:List Keyword) (body:List Stmt) (decs:List Expr) (scope:Scope) (x1:Option Scope) (bind:Str) (statics:List Str) (pos:Pos) (env:Env):
  LeS M Γ (clsF name bases kws body decs scope x1 bind statics pos env y') (clsF name bases kws body decs scope x1 bind statics pos env y):=by
 delta clsF clsS
 dsimp -zeta only
 refine LeS.bind (.refl _) fun decos=>LeS.bind (.refl _) fun zz=>LeS.bind (.refl _) fun zz=>LeS.bind ?_ fun zz=>.refl _
 refine LeS.hold (LeS.bind (.refl _) fun a=>LeS.bind (.refl _) fun zz=>LeS.hold (bc_le hy _ _ _ _ _ _ _ _ _ _ _))
noncomputable def limU (n:Nat):Sem Unit:=match Nat.beq n 1000 with
 | true=>.pure ()
 | false=>.unsupported "lim"
noncomputable def crlY:Sem Unit:=PySem.W.R.bindR Fast.tw2211186353215096513 limU
noncomputable def eqA (x c:Addr):Sem Bool:=
 .load x none fun o1=>.update c none (fun o=> {o with slots:=o.slots.push none}) fun zz=>.load x none fun o2=>
  .update c none (fun o=> {o with slots:=o.slots.pop}) fun zz=>.pure (Nat.beq o2.slots.size (Nat.succ o1.slots.size))
theorem heap_back (h:Heap) (c:Addr):(h.update c (fun o=> {o with slots:=o.slots.push none})).update c (fun o=> {o with slots:=o.slots.pop})=h:=by
 cases h with
 | mk objs=>
  unfold Heap.update
  simp only [Heap.mk.injEq,and_true]
  apply Array.ext
  ·simp
  ·intro i h1 h2
   simp only [Array.getElem_modify]
   split<;>simp
theorem LeS.pureB {M:Model} {Γ:Ctx} {α:Type} {t:Sem α} {v:α} (h:LeS M Γ t (.pure v)):LeS M Γ t (@pure Sem (@Applicative.toPure Sem (@Monad.toApplicative Sem Fast.tw12456147031677567982)) _ v):=by
 have e:Sem.instMonad=Fast.tw12456147031677567982:=Fast.te12456147031677567982
 rw [←e]
 exact h
theorem eqA_le {M:Model} {Γ:Ctx} (x c:Addr):LeS M Γ (eqA x c) (.pure (Nat.beq x c)):=fun Q E p s q=>by
 unfold eqA at q
 simp only [Sem.wp_load,Sem.wp_update,Sem.wp_pure] at q
 refine x40 q fun o1 h1 hc o2 h2 zz q=>?_
 rw [Sem.wp_pure]
 rw [heap_back] at q
 have:Nat.beq o2.slots.size (Nat.succ o1.slots.size)=Nat.beq x c:=by
  by_cases e:x=c
  ·subst e
   have:(s.heap.update x (fun o=> {o with slots:=o.slots.push none})).get? x=some {o1 with slots:=o1.slots.push none} :=Heap.get?_update_self _ h1 (by obtain ⟨a,b,d,sl⟩:=o1; have z:=(Heap.get?_some_iff.mp h1).2; cases d<;>first | rfl | cases z)
   rw [this] at h2
   cases h2
   simp
  ·rw [Heap.get?_update_other _ _ (Ne.symm e)] at h2
   rw [h2] at h1
   cases h1
   rw [show Nat.beq x c=false from Bool.eq_false_iff.mpr fun z=>e (Nat.eq_of_beq_eq_true z)]
   exact Bool.eq_false_iff.mpr fun z=>absurd (Nat.eq_of_beq_eq_true z) (by lia)
 rw [this] at q
 exact q
section
variable {M:Model} {Γ:Ctx} {α β:Type}
theorem LeS.trans {a b c:Sem α} (h:LeS M Γ a b) (k:LeS M Γ b c):LeS M Γ a c:=fun Q E p s q=>k Q E p s (h Q E p s q)
theorem LeS.no {w:String} {t:Sem α} :LeS M Γ (.unsupported w) t:=fun Q E p s q=>by
 rw [Sem.wp_unsupported] at q
 exact q.elim
theorem LeS.viaR {t' t:Sem α} {f' f:α→Sem β} (h:LeS M Γ t' t) (hf: ∀ a,LeS M Γ (f' a) (f a)):LeS M Γ (PySem.W.R.bindR t' f') (@Bind.bind Sem (@Monad.toBind Sem Fast.tw12456147031677567982) _ _ t f):=fun Q E p s q=>by
 have e:Sem.instMonad=Fast.tw12456147031677567982:=Fast.te12456147031677567982
 rw [←e]
 rw [←PySem.W.R.bindR_eq] at q
 rw [Sem.wp_bind] at q
 rw [Sem.wp_bind']
 exact Sem.wp_mono M Γ _ (fun a p s q=>hf a Q E p s q) (fun zz zz zz e=>e) p s (h _ _ p s q)
theorem LeS.bindP {t:Sem α} {f':Sem β} {v:α} (h:LeS M Γ t (.pure v)) {g:α→Sem β} (hf:LeS M Γ (g v) f'):LeS M Γ (PySem.W.R.bindR t g) f':=fun Q E p s q=>by
 rw [←PySem.W.R.bindR_eq,Sem.wp_bind] at q
 have:=h _ _ p s q
 rw [Sem.wp_pure] at this
 exact hf _ _ _ _ this
end
noncomputable def conA (v:Value):List Value→Sem Bool
 | []=>.pure false
 | x::r=>match v with
  | .ref b=>match x with
   | .ref a=>match Nat.ble b 276 with
    | true=>match Nat.beq b a with
     | true=>.pure true
     | false=>conA v r
    | false=>PySem.W.R.bindR (eqA b a) fun t=>match t with
     | true=>.pure true
     | false=>conA v r
   | .type _=>conA v r
   | _=>.unsupported "conA"
  | _=>.unsupported "conA"
theorem conA_le {M:Model} {Γ:Ctx} (v:Value): ∀ l:List Value,LeS M Γ (conA v l) (.pure (l.contains v))
 | []=>.refl _
 | x::r=>by
  unfold conA
  cases v with
  | ref b=>
   cases x with
   | ref a=>
    have key:LeS M Γ (match Nat.beq b a with
     | true=>Sem.pure true
     | false=>conA (.ref b) r) (.pure ((Value.ref a::r).contains (Value.ref b))):=by
     rw [List.contains_cons]
     cases e:Nat.beq b a with
     | true=>
      rw [Nat.eq_of_beq_eq_true e]
      simp only [beq_self_eq_true,Bool.true_or]
      exact .refl _
     | false=>
      have:(Value.ref b==Value.ref a)=false:=by
       rw [Bool.eq_false_iff]
       intro z
       have z:=eq_of_beq z
       cases z
       rw [show Nat.beq b b=true from Nat.beq_refl b] at e
       cases e
      rw [this,Bool.false_or]
      exact conA_le _ r
    dsimp only
    split
    ·exact key
    ·exact LeS.bindP (eqA_le b a) key
   | type n=>
    rw [List.contains_cons]
    have:(Value.ref b==Value.type n)=false:=by rw [Bool.eq_false_iff]; intro z; cases eq_of_beq z
    rw [this,Bool.false_or]
    exact conA_le _ r
   | _=>exact .no
  | _=>exact .no
noncomputable abbrev mroT:Value→Sem (List Value):=Fast.tw9541985092090588186
noncomputable abbrev subT:Value→Value→Sem Bool:=Fast.tw16098473122060591676
noncomputable abbrev instT:Value→Value→Sem Bool:=Fast.tw6571733998842723752
noncomputable def subY (t base:Value):Sem Bool:=match base with
 | .ref _=>PySem.W.R.bindR (mroT t) fun mro=>match t with
  | .ref _=>match mro with
   | []=>.unsupported "subY"
   | _::_=>conA base mro
  | .type _=>conA base mro
  | _=>.unsupported "subY"
 | _=>subT t base
theorem subY_le {M:Model} {Γ:Ctx} (t base:Value):LeS M Γ (subY t base) (subT t base):=by
 unfold subY
 cases base with
 | ref b=>
  unfold subT Fast.tw16098473122060591676
  refine LeS.viaR (.refl _) fun mro=>?_
  rw [←Fast.te3471404346716756564,show Fast.tw7966671052430208091=instDecidableEqValue from Subsingleton.elim _ _]
  cases t with
  | ref a=>
   cases mro with
   | nil=>exact .no
   | cons x l=>exact LeS.pureB (conA_le _ _)
  | type n=>exact LeS.pureB (conA_le _ _)
  | _=>exact .no
 | _=>exact .refl _
noncomputable def instY (v base:Value):Sem Bool:=PySem.W.R.bindR (Fast.tw14684505520029207082 v) fun t=>subY t base
theorem instY_le {M:Model} {Γ:Ctx} (v base:Value):LeS M Γ (instY v base) (instT v base):=by
 unfold instY instT Fast.tw6571733998842723752
 exact LeS.viaR (.refl _) fun t=>subY_le t base
noncomputable def chkS (d obj:Value):PSigma fun F:(Value→Value→Sem Bool)→Sem Unit=>∀ y,instT=y→Fast.tw10919682601858149601 d obj=F y:=by
 apply PSigma.mk
 intro y h
 unfold Fast.tw10919682601858149601
 unfold instT at h
 rw [h]
noncomputable def chkF (y:Value→Value→Sem Bool) (d obj:Value):Sem Unit:=(chkS d obj).1 y
theorem chk_le {M:Model} {Γ:Ctx} {y:Value→Value→Sem Bool} (hy: ∀ a b,LeS M Γ (y a b) (instT a b)) (d obj:Value):LeS M Γ (chkF y d obj) (Fast.tw10919682601858149601 d obj):=by
 rw [(chkS d obj).2 instT rfl]
 delta chkF chkS
 dsimp -zeta only
 refine LeS.bind (.refl _) fun x=>?_
 obtain ⟨name,cls⟩:=x
 exact LeS.bind (hy _ _) fun t=>.refl _
noncomputable abbrev chkT:Value→Value→Sem Unit:=Fast.tw10919682601858149601
noncomputable def dsiS (kind:String) (d obj:Value) (v:Option Value):PSigma fun F:(Value→Value→Sem Unit)→Sem Fin=>∀ y,chkT=y→Fast.tw14215438652452703452 kind d obj v=F y:=by
 apply PSigma.mk
 intro y h
 unfold Fast.tw14215438652452703452
 unfold chkT at h
 rw [h]
noncomputable def dsiF (y:Value→Value→Sem Unit) (kind:String) (d obj:Value) (v:Option Value):Sem Fin:=(dsiS kind d obj v).1 y
theorem dsi_le {M:Model} {Γ:Ctx} {y:Value→Value→Sem Unit} (hy: ∀ a b,LeS M Γ (y a b) (chkT a b)) (kind:String) (d obj:Value) (v:Option Value):LeS M Γ (dsiF y kind d obj v) (Fast.tw14215438652452703452 kind d obj v):=by
 rw [(dsiS kind d obj v).2 chkT rfl]
 delta dsiF dsiS
 dsimp -zeta only
 exact LeS.bind (hy _ _) fun t=>.refl _
noncomputable abbrev dsiT:String→Value→Value→Option Value→Sem Fin:=Fast.tw14215438652452703452
noncomputable def dsS (kind:String) (args:Args):PSigma fun F:(String→Value→Value→Option Value→Sem Fin)→Sem Fin=>∀ y,dsiT=y→Fast.tw18364946443445666648 kind args=F y:=by
 apply PSigma.mk
 intro y h
 unfold Fast.tw18364946443445666648
 unfold dsiT at h
 rw [h]
noncomputable def dsF (y:String→Value→Value→Option Value→Sem Fin) (kind:String) (args:Args):Sem Fin:=(dsS kind args).1 y
theorem ds_le {M:Model} {Γ:Ctx} {y:String→Value→Value→Option Value→Sem Fin} (hy: ∀ a b c d,LeS M Γ (y a b c d) (dsiT a b c d)) (kind:String) (args:Args):LeS M Γ (dsF y kind args) (Fast.tw18364946443445666648 kind args):=by
 rw [(dsS kind args).2 dsiT rfl]
 delta dsF dsS
 dsimp -zeta only
 extract_lets j' j
 have h: ∀ u,LeS M Γ (j' u) (j u):=by
  intro u
  dsimp -zeta only [j',j]
  split
  ·exact hy _ _ _ _
  ·exact .refl _
 clear_value j' j
 exact LeS.ite (LeS.bind (.refl _) fun x=>h x) (h _)
noncomputable def dgrS (d:Value) (x:Option Value):PSigma fun F:(Value→Value→Sem Unit)→Sem Fin=>∀ y,chkT=y→Fast.tw8488679203525710145 d x=F y:=by
 apply PSigma.mk
 intro y h
 unfold Fast.tw8488679203525710145
 unfold chkT at h
 rw [h]
noncomputable def dgrF (y:Value→Value→Sem Unit) (d:Value) (x:Option Value):Sem Fin:=(dgrS d x).1 y
theorem dgr_le {M:Model} {Γ:Ctx} {y:Value→Value→Sem Unit} (hy: ∀ a b,LeS M Γ (y a b) (chkT a b)) (d:Value) (x:Option Value):LeS M Γ (dgrF y d x) (Fast.tw8488679203525710145 d x):=by
 rw [(dgrS d x).2 chkT rfl]
 delta dgrF dgrS
 dsimp -zeta only
 cases x with
 | none=>exact .refl _
 | some o=>exact LeS.bind (hy _ _) fun t=>.refl _
noncomputable abbrev dgrT:Value→Option Value→Sem Fin:=Fast.tw8488679203525710145
noncomputable def dgF (y:Value→Option Value→Sem Fin) (args:Args):Sem Fin:=PySem.W.R.bindR (Fast.tw641254342931760273 args) fun x=>match x with
 | (d,obj,_)=>y d obj
theorem dg_le {M:Model} {Γ:Ctx} {y:Value→Option Value→Sem Fin} (hy: ∀ a b,LeS M Γ (y a b) (dgrT a b)) (args:Args):LeS M Γ (dgF y args) (Fast.tw5320362991156250742 args):=by
 unfold dgF Fast.tw5320362991156250742
 refine LeS.viaR (.refl _) fun x=>?_
 obtain ⟨d,o,r⟩:=x
 exact hy _ _
noncomputable def supS (cls obj:Value):PSigma fun F:(Value→Value→Sem Bool)→Sem Value=>∀ y,subT=y→Fast.tw1166467894219422925 cls obj=F y:=by
 apply PSigma.mk
 intro y h
 unfold Fast.tw1166467894219422925
 unfold subT at h
 rw [h]
noncomputable def supF (y:Value→Value→Sem Bool) (cls obj:Value):Sem Value:=(supS cls obj).1 y
theorem sup_le {M:Model} {Γ:Ctx} {y:Value→Value→Sem Bool} (hy: ∀ a b,LeS M Γ (y a b) (subT a b)) (cls obj:Value):LeS M Γ (supF y cls obj) (Fast.tw1166467894219422925 cls obj):=by
 rw [(supS cls obj).2 subT rfl]
 delta supF supS
 dsimp -zeta only
 refine LeS.bind (.refl _) fun it=>?_
 extract_lets -underBinder -merge j' j
 have h: ∀ u,LeS M Γ (j' u) (j u):=by
  intro u
  dsimp -zeta only [j',j]
  refine LeS.bind (.refl _) fun t=>LeS.bind (hy _ _) fun b=>LeS.ite (.refl _) ?_
  refine LeS.bind (.refl _) fun c=>?_
  cases c with
  | none=>exact .refl _
  | some c=>
   refine LeS.bind (.refl _) fun it=>LeS.ite (LeS.ite (LeS.bind (hy _ _) fun b=>.refl _) (.refl _)) (.refl _)
 clear_value j' j
 exact LeS.ite (LeS.bind (hy _ _) fun b=>LeS.ite (.refl _) (h _)) (h _)
noncomputable abbrev supT:Value→Value→Sem Value:=Fast.tw1166467894219422925
noncomputable def siS (args:Args):PSigma fun F:(Value→Value→Sem Value)→Sem Fin=>∀ y,supT=y→Fast.tw13830915341099135465 args=F y:=by
 apply PSigma.mk
 intro y h
 unfold Fast.tw13830915341099135465
 unfold supT at h
 rw [h]
noncomputable def siF (y:Value→Value→Sem Value) (args:Args):Sem Fin:=(siS args).1 y
theorem si_le {M:Model} {Γ:Ctx} {y:Value→Value→Sem Value} (hy: ∀ a b,LeS M Γ (y a b) (supT a b)) (args:Args):LeS M Γ (siF y args) (Fast.tw13830915341099135465 args):=by
 rw [(siS args).2 supT rfl]
 delta siF siS
 dsimp -zeta only
 refine LeS.bind (.refl _) fun zz=>?_
 split
 ·extract_lets -underBinder -merge j' j
  have h: ∀ u,LeS M Γ (j' u) (j u):=by
   intro u
   obtain ⟨cls,obj⟩:=u
   dsimp -zeta only [j',j]
   refine LeS.bind (.refl _) fun it=>?_
   extract_lets -underBinder -merge k' k
   have h: ∀ u,LeS M Γ (k' u) (k u):=by
    intro u
    dsimp -zeta only [k',k]
    extract_lets -underBinder -merge l
    exact LeS.ite (.refl _) (LeS.bind (hy _ _) fun x=>.refl _)
   clear_value k' k
   refine LeS.ite (LeS.bind (.refl _) fun zz=>?_) (h _)
   extract_lets -underBinder -merge l' l
   have h3: ∀ u,LeS M Γ (l' u) (l u):=by
    intro u
    dsimp -zeta only [l',l]
    exact LeS.bind (.refl _) fun x=>h x
   clear_value l' l
   exact LeS.ite (LeS.bind (.refl _) fun x=>h3 x) (LeS.bind (.refl _) fun x=>h3 x)
  clear_value j' j
  split
  ·exact LeS.bind (.refl _) fun x=>h x
  ·exact LeS.bind (.refl _) fun x=>h x
  ·exact LeS.bind (.refl _) fun x=>h x
  ·exact LeS.bind (.refl _) fun x=>LeS.bind (.refl _) fun x=>h x
 ·exact .refl _
noncomputable def tcS (args:Args):PSigma fun F:(Value→Value→Sem Bool)→Sem Fin=>∀ y,instT=y→Fast.tw215932591028220647 args=F y:=by
 apply PSigma.mk
 intro y h
 unfold Fast.tw215932591028220647
 unfold instT at h
 rw [h]
noncomputable def tcF (y:Value→Value→Sem Bool) (args:Args):Sem Fin:=(tcS args).1 y
theorem tc_le {M:Model} {Γ:Ctx} {y:Value→Value→Sem Bool} (hy: ∀ a b,LeS M Γ (y a b) (instT a b)) (args:Args):LeS M Γ (tcF y args) (Fast.tw215932591028220647 args):=by
 rw [(tcS args).2 instT rfl]
 delta tcF tcS
 dsimp -zeta only
 split
 ·rename_i cls rest _
  extract_lets -underBinder -merge j' a' j
  have h: ∀ u,LeS M Γ (j' u) (j u):=by
   intro u
   dsimp -zeta only [j',j]
   extract_lets -underBinder -merge k' k
   have h: ∀ u,LeS M Γ (k' u) (k u):=by
    intro u
    dsimp -zeta only [k',k]
    refine LeS.bind (.refl _) fun mro=>?_
    extract_lets -underBinder -merge l' l
    have h: ∀ u,LeS M Γ (l' u) (l u):=by
     intro u
     dsimp -zeta only [l',l]
     refine LeS.bind (.refl _) fun made=>?_
     extract_lets -underBinder -merge n' n
     have h: ∀ u,LeS M Γ (n' u) (n u):=by
      intro u
      dsimp -zeta only [n',n]
      exact LeS.bind (.refl _) fun obj=>LeS.bind (hy _ _) fun b=>.refl _
     clear_value n' n
     cases made with
     | some id=>exact LeS.bind (.refl _) fun x=>h x
     | none=>exact LeS.bind (.refl _) fun x=>h x
    clear_value l' l
    exact LeS.ite (LeS.bind (.refl _) fun x=>LeS.bind (.refl _) fun x=>LeS.bind (.refl _) fun x=>h x) (h _)
   clear_value k' k
   cases cls with
   | type n=>
    dsimp -zeta only
    extract_lets -underBinder -merge d' l' d l
    have h: ∀ u,LeS M Γ (l' u) (l u):=by
     intro u
     dsimp -zeta only [l',l]
     exact LeS.bind (.refl _) fun x=>h x
    clear_value l' l
    exact LeS.ite (LeS.bind (.refl _) fun x=>LeS.bind (.refl _) fun x=>h x) (h _)
   | _=>exact h _
  clear_value j' j
  refine LeS.ite (LeS.ite ?_ (LeS.ite (LeS.bind (.refl _) fun x=>LeS.bind (.refl _) fun x=>h x) (h _))) (h _)
  exact .refl _
 ·exact .refl _
section
variable {M:Model} {Γ:Ctx} {α β:Type}
theorem LeS.iteR {c:Prop} [Decidable c] {a b' b:Sem α} (h:LeS M Γ b' b):LeS M Γ (if c then .unsupported "" else b') (if c then a else b):=.ite .no h
theorem LeS.iteL {c:Prop} [Decidable c] {a a' b:Sem α} (h:LeS M Γ a' a):LeS M Γ (if c then a' else .unsupported "") (if c then a else b):=.ite h .no
noncomputable def optS {β α:Type} (x:Option β) (f:β→Sem α):Sem α:=match x with
 | some b=>f b
 | none=>.unsupported ""
noncomputable def optN {β α:Type} (x:Option β) (f:Sem α):Sem α:=match x with
 | some _=>.unsupported ""
 | none=>f
theorem LeS.some {x:Option β} {m:Option β→Sem α} {f':β→Sem α} (h: ∀ b,LeS M Γ (f' b) (m (some b))):LeS M Γ (optS x f') (m x):=by
 cases x with
 | none=>exact .no
 | some b=>exact h b
theorem LeS.none {x:Option β} {m:Option β→Sem α} {f':Sem α} (h:LeS M Γ f' (m none)):LeS M Γ (optN x f') (m x):=by
 cases x with
 | none=>exact h
 | some b=>exact .no
noncomputable def refV {α:Type} (x:Value) (f:Addr→Sem α):Sem α:=match x with
 | .ref b=>f b
 | _=>.unsupported ""
noncomputable def typV {α:Type} (x:Value) (f:String→Sem α):Sem α:=match x with
 | .type b=>f b
 | _=>.unsupported ""
theorem LeS.typ {x:Value} {m:Value→Sem α} {f':String→Sem α} (h: ∀ b,LeS M Γ (f' b) (m (.type b))):LeS M Γ (typV x f') (m x):=by
 cases x with
 | type b=>exact h b
 | _=>exact .no
theorem LeS.giv {x:β} {f':β→Sem α} {T:Sem α} (h: ∀ z,x=z→LeS M Γ (f' z) T):LeS M Γ (PySem.W.R.bindR (.pure x) f') T:=h x rfl
theorem LeS.run {t:Sem α} {v:α} {Y:Sem β} {f:α→Sem β} (e:t= .pure v) (h:LeS M Γ Y (f v)):LeS M Γ Y (@Bind.bind Sem (@Monad.toBind Sem Fast.tw12456147031677567982) _ _ t f):=fun Q E p s q=>by
 have z:Sem.instMonad=Fast.tw12456147031677567982:=Fast.te12456147031677567982
 rw [←z,e,Sem.wp_bind',Sem.wp_pure]
 exact h Q E p s q
theorem LeS.ref {x:Value} {m:Value→Sem α} {f':Addr→Sem α} (h: ∀ b,LeS M Γ (f' b) (m (.ref b))):LeS M Γ (refV x f') (m x):=by
 cases x with
 | ref b=>exact h b
 | _=>exact .no
noncomputable def eqV (a b:Value):Sem Bool:=match a with
 | .ref x=>match b with
  | .ref y=>eqA x y
  | .type _=>.pure false
  | .none=>.pure false
  | _=>.unsupported "eqV"
 | .type _=>match b with
  | .ref _=>.pure false
  | _=>.unsupported "eqV"
 | .none=>match b with
  | .ref _=>.pure false
  | _=>.unsupported "eqV"
 | _=>.unsupported "eqV"
theorem eqV_le (a b:Value):LeS M Γ (eqV a b) (.pure (a==b)):=by
 unfold eqV
 cases a with
 | ref x=>
  cases b with
  | ref y=>
   refine LeS.trans (eqA_le x y) ?_
   have:Nat.beq x y=(Value.ref x==Value.ref y):=by
    cases e:Nat.beq x y with
    | true=>rw [Nat.eq_of_beq_eq_true e,beq_self_eq_true]
    | false=>
     symm
     rw [Bool.eq_false_iff]
     intro z
     have z:=eq_of_beq z
     cases z
     rw [show Nat.beq x x=true from Nat.beq_refl x] at e
     cases e
   rw [this]
   exact .refl _
  | type n=>rw [show (Value.ref x==Value.type n)=false from Bool.eq_false_iff.mpr fun z=>by cases eq_of_beq z]; exact .refl _
  | none=>rw [show (Value.ref x==Value.none)=false from Bool.eq_false_iff.mpr fun z=>by cases eq_of_beq z]; exact .refl _
  | _=>exact .no
 | type n=>
  cases b with
  | ref y=>rw [show (Value.type n==Value.ref y)=false from Bool.eq_false_iff.mpr fun z=>by cases eq_of_beq z]; exact .refl _
  | _=>exact .no
 | none=>
  cases b with
  | ref y=>rw [show (Value.none==Value.ref y)=false from Bool.eq_false_iff.mpr fun z=>by cases eq_of_beq z]; exact .refl _
  | _=>exact .no
 | _=>exact .no
noncomputable def dropA (c:Value):List Value→Sem (List Value)
 | []=>.pure []
 | x::r=>PySem.W.R.bindR (eqV x c) fun t=>match t with
  | true=>.pure (x::r)
  | false=>dropA c r
theorem dropA_le (c:Value): ∀ l:List Value,LeS M Γ (dropA c l) (.pure (l.dropWhile fun x=>x != c))
 | []=>.refl _
 | x::r=>by
  unfold dropA
  refine LeS.bindP (eqV_le x c) ?_
  rw [List.dropWhile_cons]
  unfold bne
  cases e:x==c with
  | true=>exact .refl _
  | false=>exact dropA_le c r
theorem LeS.eqv {a b:Value} {f':Bool→Sem α} {T:Sem α} (h: ∀ t,(a==b)=t→LeS M Γ (f' t) T):LeS M Γ (PySem.W.R.bindR (eqV a b) f') T:=LeS.bindP (eqV_le a b) (h _ rfl)
theorem LeS.dropv {c:Value} {l:List Value} {f':List Value→Sem α} {T:Sem α} (h: ∀ t,(l.dropWhile fun x=>x != c)=t→LeS M Γ (f' t) T):LeS M Γ (PySem.W.R.bindR (dropA c l) f') T:=LeS.bindP (dropA_le c l) (h _ rfl)
end
theorem deq_eq:Fast.tw7966671052430208091=instDecidableEqValue:=Subsingleton.elim _ _
noncomputable def sgS (self:Value) (name:Str) (t:Tok):PSigma fun Y:Sem Fin=>∀ (M:Model) (Γ:Ctx),LeS M Γ Y (Fast.tw1054471737866971170 ⟨[self,.str name t],[]⟩):=by
 apply PSigma.mk
 intro M Γ
 unfold Fast.tw1054471737866971170
 rw [deq_eq]
 dsimp -zeta only
 apply LeS.run (v:=some name) rfl
 extract_lets -underBinder -merge j1
 dsimp -zeta only [Option.isNone]
 rw [if_neg (by decide)]
 dsimp -zeta only [j1]
 clear_value j1
 clear j1
 apply LeS.run (v:=some name) rfl
 dsimp -zeta only
 extract_lets -underBinder -merge j2
 dsimp -zeta only [j2]
 extract_lets -underBinder -merge j3
 apply LeS.bind (.refl _)
 intro cls
 apply LeS.bind (.refl _)
 intro obj
 apply LeS.bind (.refl _)
 intro start
 apply LeS.iteR
 apply LeS.bind (.refl _)
 intro _
 extract_lets -underBinder -merge j4
 apply LeS.iteR
 dsimp -zeta only [j4]
 apply LeS.bind (.refl _)
 intro mro
 apply LeS.dropv (c:=cls) (l:=mro)
 intro l hl
 rw [hl]
 apply LeS.eqv (a:=obj) (b:=start)
 intro t ht
 rw [ht]
 exact .refl _
theorem anyM_self {f:Value→Sem Bool} {self:Value} {l:List Value} : @List.anyM Sem Fast.tw12456147031677567982 _ f (R.filterR (fun x=>x != self) (self::l))= @List.anyM Sem Fast.tw12456147031677567982 _ f (R.filterR (fun x=>x != self) l):=by
 rw [←R.filterR_eq,List.filter_cons]
 have:(self != self)=false:=by unfold bne; rw [beq_self_eq_true]; rfl
 rw [this]
 rfl
noncomputable def tnS (mcls:Value) (name:Str) (nt:Tok) (bA nsA:Addr) (kw:List (Str×Value)):PSigma fun Y:Sem Fin=>∀ (M:Model) (Γ:Ctx),LeS M Γ Y (Fast.tw4202317264376624991 ⟨[mcls,.str name nt,.ref bA,.ref nsA],kw⟩):=by
 apply PSigma.mk
 intro M Γ
 unfold Fast.tw4202317264376624991
 rw [deq_eq]
 dsimp -zeta only
 extract_lets -underBinder -merge wrong
 apply LeS.run (v:=some name) rfl
 dsimp -zeta only
 apply LeS.bind (.refl _)
 intro it
 extract_lets -underBinder -merge j1
 apply LeS.iteR
 dsimp -zeta only [j1]
 clear_value j1
 apply LeS.bind (.refl _)
 intro it2
 extract_lets -underBinder -merge j2
 apply LeS.iteR
 dsimp -zeta only [j2]
 clear_value j2
 apply LeS.bind (.refl _)
 intro bs
 extract_lets -underBinder -merge given j3
 apply LeS.iteR
 dsimp -zeta only [j3]
 clear_value j3
 apply LeS.bind (.refl _)
 intro _
 extract_lets -underBinder -merge winner0
 apply LeS.bind (.refl _)
 intro winner
 extract_lets -underBinder -merge winner1 j4
 apply LeS.iteR
 dsimp -zeta only [j4]
 clear_value j4
 extract_lets -underBinder -merge mcls' bases
 apply LeS.bind (.refl _)
 intro _
 apply LeS.bind (.refl _)
 intro extended
 extract_lets -underBinder -merge j5
 apply LeS.iteR
 dsimp -zeta only [j5]
 clear_value j5
 apply LeS.bind (.refl _)
 intro stored
 apply LeS.bind (.refl _)
 intro walk
 extract_lets -underBinder -merge j6
 apply LeS.iteL
 apply LeS.run (v:=(stored,[])) rfl
 dsimp -zeta only [j6]
 clear_value j6
 extract_lets -underBinder -merge has
 apply LeS.bind (.refl _)
 intro slots
 apply LeS.bind (.refl _)
 intro nsV
 apply LeS.ref (x:=nsV)
 intro ns
 dsimp -zeta only
 extract_lets -underBinder -merge j7
 apply LeS.iteR
 dsimp -zeta only [j7]
 clear_value j7
 extract_lets -underBinder -merge intoC
 apply LeS.bind (.refl _)
 intro _
 extract_lets -underBinder -merge j8
 apply LeS.iteR
 dsimp -zeta only [j8]
 clear_value j8
 apply LeS.bind (.refl _)
 intro qn
 extract_lets -underBinder -merge qualnameV
 apply LeS.bind (.refl _)
 intro qn2
 extract_lets -underBinder -merge j9
 apply LeS.some (x:=qn2)
 intro q
 dsimp -zeta only
 apply LeS.bind (.refl _)
 intro qs
 apply LeS.some (x:=qs)
 intro s
 dsimp -zeta only
 apply LeS.run (v:=s) rfl
 dsimp -zeta only [j9]
 clear_value j9
 apply LeS.bind (.refl _)
 intro doc
 extract_lets -underBinder -merge j10
 apply LeS.none (x:=doc)
 dsimp -zeta only [j10]
 clear_value j10
 apply LeS.bind (.refl _)
 intro a
 extract_lets -underBinder -merge j11
 dsimp -zeta only [mcls',winner1]
 apply LeS.typ (x:=winner)
 intro mt
 dsimp -zeta only [j11]
 clear_value j11
 extract_lets -underBinder -merge self j12
 apply LeS.iteL
 apply LeS.bind (.refl _)
 intro _
 dsimp -zeta only [j12]
 clear_value j12
 apply LeS.bind (.refl _)
 intro _
 extract_lets -underBinder -merge j13
 apply LeS.giv (x:=qn.orElse fun zz=>Option.some (Value.str name nt))
 intro qv hqv
 dsimp -zeta only [qualnameV]
 rw [hqv]
 apply LeS.some (x:=qv)
 intro q2
 dsimp -zeta only
 apply LeS.bind (.refl _)
 intro _
 dsimp -zeta only [j13]
 clear_value j13
 apply LeS.bind (.refl _)
 intro _
 apply LeS.bind (.refl _)
 intro nw
 extract_lets -underBinder -merge j14
 apply LeS.none (x:=nw)
 dsimp -zeta only [j14]
 clear_value j14
 apply LeS.bind (.refl _)
 intro _
 apply LeS.bind (.refl _)
 intro cc
 extract_lets -underBinder -merge j15
 apply LeS.none (x:=cc)
 dsimp -zeta only [j15]
 clear_value j15
 apply LeS.bind (.refl _)
 intro cdc
 extract_lets -underBinder -merge j16
 apply LeS.none (x:=cdc)
 dsimp -zeta only [j16]
 clear_value j16
 apply LeS.bind (.refl _)
 intro own
 extract_lets -underBinder -merge j17
 apply LeS.none (x:=own)
 dsimp -zeta only
 apply LeS.bind (.refl _)
 intro lin
 apply LeS.run (v:=self::lin) rfl
 dsimp -zeta only [j17]
 clear_value j17
 rw [anyM_self]
 exact .refl _
inductive PT where
 | no
 | fin (f:Fin)
 | lib (t:Sem Flow) (k:Flow→PT)
 | cut (t:Sem Value) (k:Value→PT)
noncomputable def wpP (M:Model) (Γ:Ctx) (Q:Fin→Pos→Shared→Prop):PT→Pos→Shared→Prop
 | .no,_,_=>False
 | .fin f,p,s=>Q f p s
 | .lib t k,p,s=>Sem.wp M Γ t (fun f p s=>wpP M Γ Q (k f) p s) (fun zz zz zz=>False) p s
 | .cut t k,p,s=>Sem.wp M Γ t (fun v p s=>wpP M Γ Q (k v) p s) (fun zz zz zz=>False) p s
noncomputable section
noncomputable def lv (t:Sem Value) (k:Value→PT):PT:=.lib (PySem.W.R.bindR t fun v=>.pure (.ret v)) fun f=>match f with
 | .ret v=>k v
 | _=>.no
noncomputable def lb (t:Sem Bool) (k:Bool→PT):PT:=.lib (PySem.W.R.bindR t fun b=>.pure (match b with
 | true=>.brk
 | false=>.next)) fun f=>match f with
 | .brk=>k true
 | _=>k false
noncomputable def lu (t:Sem Unit) (k:PT):PT:=.lib (PySem.W.R.bindR t fun zz=>.pure .next) fun zz=>k
noncomputable def cutB (op:CmpOp) (a b:Value):Bool:=match op with
 | .IsNot=>(match a with
  | .str _ _=>(match b with
   | .str _ _=>true
   | _=>false)
  | _=>false)
 | .Eq=>(match a with
  | .ref _=>(match b with
   | .ref _=>true
   | _=>false)
  | _=>false)
 | .NotEq=>(match a with
  | .ref _=>(match b with
   | .ref _=>true
   | _=>false)
  | _=>false)
 | .NotIn=>(match a with
  | .str _ _=>(match b with
   | .ref _=>true
   | _=>false)
  | _=>false)
 | _=>false
noncomputable def cmpP (op:CmpOp) (a b:Value) (k:Value→PT):PT:=match cutB op a b with
 | true=>.cut (compareOp op a b) k
 | false=>lv (Fast.tw12886488535604756494 op a b) k
noncomputable def cmp1 (env:Env) (op:CmpOp) (pos:Pos) (l r:Expr) (k:Value→PT):PT:=
 lv (Fast.tw14044960220447912780 l env) fun a=>lv (Fast.tw17359229931016689406 [a] (Fast.tw10513115210890433525 op r (Fast.tw14044960220447912780 r env))) fun b=>lu (standAt pos) (cmpP op a b k)
noncomputable def isT1 (e:Expr) (env:Env) (k:Bool→PT):PT:=match e with
 | .Compare l ops rs pos=>(match ops with
  | [op]=>(match rs with
   | [r]=>cmp1 env op pos l r fun c=>lb (Fast.tw15245631507167962100 c) k
   | _=>lb (Fast.tw15418851999007992765 e env (Fast.tw14044960220447912780 e env)) k)
  | _=>lb (Fast.tw15418851999007992765 e env (Fast.tw14044960220447912780 e env)) k)
 | _=>lb (Fast.tw15418851999007992765 e env (Fast.tw14044960220447912780 e env)) k
noncomputable def allP (op:BoolOp) (env:Env) (k:Bool→PT):List Expr→PT
 | []=>k (match op with
  | .And=>true
  | .Or=>false)
 | x::rest=>isT1 x env fun c=>match op with
  | .And=>(match c with
   | false=>k false
   | true=>allP op env k rest)
  | .Or=>(match c with
   | true=>k true
   | false=>allP op env k rest)
noncomputable def isTP (e:Expr) (env:Env) (k:Bool→PT):PT:=match e with
 | .BoolOp op vs _=>allP op env k vs
 | _=>isT1 e env k
noncomputable def evalP (e:Expr) (env:Env) (k:Value→PT):PT:=match e with
 | .IfExp t b o _=>isTP t env fun c=>match c with
  | true=>lv (Fast.tw14044960220447912780 b env) k
  | false=>lv (Fast.tw14044960220447912780 o env) k
 | _=>lv (Fast.tw14044960220447912780 e env) k
noncomputable def thenP (k:Flow→PT) (f:Flow) (r:PT):PT:=match f with
 | .next=>r
 | _=>k f
noncomputable def stV (st:Stmt) (fi:Expr→List Stmt→List Stmt→Pos→PT) (fr:Expr→Pos→PT) (fc:Str→List Expr→List Keyword→List Stmt→List Expr→Scope→Option Scope→Str→List Str→Pos→PT) (fa:Str→Pos→Expr→Pos→PT) (d:PT):PT:=match st with
 | .If test body orelse pos=>fi test body orelse pos
 | .Return eo pos=>(match eo with
  | some e=>fr e pos
  | none=>d)
 | .ClassDef name bases kws body decs tps scope x1 bind statics pos=>(match tps with
  | []=>fc name bases kws body decs scope x1 bind statics pos
  | _=>d)
 | .Assign tgts value pos=>(match tgts with
  | [t]=>(match t with
   | .Name x pos'=>(match value with
    | .IfExp .. =>fa x pos' value pos
    | _=>d)
   | _=>d)
  | _=>d)
 | _=>d
theorem stV_ok {fi:Expr→List Stmt→List Stmt→Pos→PT} {fr:Expr→Pos→PT} {fc:Str→List Expr→List Keyword→List Stmt→List Expr→Scope→Option Scope→Str→List Str→Pos→PT} {fa:Str→Pos→Expr→Pos→PT} {d:PT} {R:Stmt→PT→Prop} (st:Stmt)
  (hi: ∀ t b o p,R (.If t b o p) (fi t b o p)) (hr: ∀ e p,R (.Return (some e) p) (fr e p)) (hc: ∀ a b c e f g h i j k,R (.ClassDef a b c e f [] g h i j k) (fc a b c e f g h i j k)) (ha: ∀ x p a b c q r,R (.Assign [.Name x p] (.IfExp a b c q) r) (fa x p (.IfExp a b c q) r)) (hd:R st d):R st (stV st fi fr fc fa d):=by
 cases st with
 | If=>exact hi ..
 | Return eo=>cases eo with
  | some e=>exact hr ..
  | none=>exact hd
 | ClassDef _ _ _ _ _ tps=>cases tps with
  | nil=>exact hc ..
  | cons _ _=>exact hd
 | Assign tgts value=>
  rcases tgts with _ | ⟨t,_ | ⟨_,_⟩⟩
  ·exact hd
  ·cases t with
   | Name=>cases value with
    | IfExp=>exact ha ..
    | _=>exact hd
   | _=>exact hd
  ·exact hd
 | _=>exact hd
noncomputable def execsP:Nat→List Stmt→Env→(Flow→PT)→PT
 | 0,l,env,k=>.lib (Fast.tw12563942051412417395 l env) k
 | n+1,l,env,k=>match l with
  | []=>k .next
  | st::rest=>stV st
   (fun test body orelse pos=>lu (standAt pos) (isTP test env fun c=>match c with
    | true=>execsP n body env fun f=>thenP k f (execsP n rest env k)
    | false=>execsP n orelse env fun f=>thenP k f (execsP n rest env k)))
   (fun e pos=>lu (standAt pos) (evalP e env fun v=>k (.ret v)))
   (fun name bases kws body decs scope x1 bind statics pos=>.lib (clsF name bases kws body decs scope x1 bind statics pos env crlY) fun f=>thenP k f (execsP n rest env k))
   (fun x pos' value pos=>lu (standAt pos) (lb (Fast.tw17223243974762974889 value (some (.Name x pos')) pos.line env) fun b=>match b with
    | true=>.no
    | false=>evalP value env fun v=>lu (standAt pos') (lu (Fast.tw7536695828754713326 env x v) (execsP n rest env k))))
   (.lib (Fast.tw12563942051412417395 [st] env) fun f=>thenP k f (execsP n rest env k))
noncomputable def funcP (b:List Stmt) (env:Env):PT:=lu point (execsP 60 b env fun f=>match f with
 | .ret v=>.fin (.done (.ret v))
 | _=>.fin (.done (.ret .none)))
noncomputable def loopEnd (c:Code) (f:Flow):PT:=match f with
 | .next=>.fin (.again c)
 | .cont=>.fin (.again c)
 | .brk=>.fin (.done .next)
 | .ret v=>.fin (.done (.ret v))
noncomputable def isTup (e:Expr):Bool:=match e with
 | .Tuple .. =>true
 | _=>false
noncomputable def ownP (t:Expr) (it v:Value) (k:PT):PT:=match isTup t with
 | true=>.cut (Sem.bind (letOwnedTupleGo t it v) fun zz=>.pure .none) fun zz=>k
 | false=>lu (Fast.tw1578499551869305889 t it v) k
noncomputable def forLP (t:Expr) (it:Value) (body orelse:List Stmt) (env:Env):PT:=
 lu (standAt t.pos) (.lib (PySem.W.R.bindR (Fast.tw9404975358583537561 it) fun o=>.pure (match o with
  | none=>.next
  | some v=>.ret v)) fun f=>match f with
  | .ret v=>ownP t it v (lu (Fast.tw17772580674575903948 t env v) (execsP 40 body env (loopEnd (.forLoop t it body orelse env))))
  | _=>.fin (.again (.block orelse env)))
noncomputable def whileP (test:Expr) (body orelse:List Stmt) (env:Env):PT:=
 isTP test env fun c=>match c with
  | true=>execsP 40 body env (loopEnd (.whileLoop test body orelse env))
  | false=>.lib (Fast.tw12563942051412417395 orelse env) fun f=>.fin (.done f)
noncomputable def isP (env:Env):Bool:=match env.func with
 | some a=>(match Nat.beq a 45 with
  | true=>true
  | false=>match Nat.beq a 78 with
  | true=>true
  | false=>match Nat.beq a 221 with
   | true=>true
   | false=>match Nat.beq a 247 with
    | true=>true
    | false=>match Nat.beq a 252 with
     | true=>true
     | false=>match Nat.beq a 257 with
      | true=>true
      | false=>Nat.beq a 276)
 | none=>false
noncomputable def pat (c:Code):Option PT:=match c with
 | .func b env=>(match isP env with
  | true=>some (funcP b env)
  | false=>none)
 | .forLoop t it b e env=>(match isP env with
  | true=>some (forLP t it b e env)
  | false=>none)
 | .whileLoop t b e env=>(match isP env with
  | true=>some (whileP t b e env)
  | false=>none)
 | _=>none
end
section
variable {M:Model} {Γ:Ctx} {Q:Fin→Pos→Shared→Prop}
theorem lv_ok {t:Sem Value} {k:Value→PT} {K:Value→Pos→Shared→Prop} {E':Value→Pos→Shared→Prop} {p:Pos} {s:Shared} (h:wpP M Γ Q (lv t k) p s) (hk: ∀ v p s,wpP M Γ Q (k v) p s→K v p s):Sem.wp M Γ t K E' p s:=by
 unfold lv wpP at h
 rw [←PySem.W.R.bindR_eq,Sem.wp_bind] at h
 exact Sem.wp_mono M Γ t (fun v p s h=>hk v p s h) (fun zz zz zz h=>h.elim) p s h
theorem lb_ok {t:Sem Bool} {k:Bool→PT} {K:Bool→Pos→Shared→Prop} {E':Value→Pos→Shared→Prop} {p:Pos} {s:Shared} (h:wpP M Γ Q (lb t k) p s) (hk: ∀ v p s,wpP M Γ Q (k v) p s→K v p s):Sem.wp M Γ t K E' p s:=by
 unfold lb wpP at h
 rw [←PySem.W.R.bindR_eq,Sem.wp_bind] at h
 exact Sem.wp_mono M Γ t (fun v p s h=>by cases v<;>exact hk _ p s h) (fun zz zz zz h=>h.elim) p s h
theorem lu_ok {t:Sem Unit} {k:PT} {K:Unit→Pos→Shared→Prop} {E':Value→Pos→Shared→Prop} {p:Pos} {s:Shared} (h:wpP M Γ Q (lu t k) p s) (hk: ∀ p s,wpP M Γ Q k p s→K () p s):Sem.wp M Γ t K E' p s:=by
 unfold lu wpP at h
 rw [←PySem.W.R.bindR_eq,Sem.wp_bind] at h
 exact Sem.wp_mono M Γ t (fun v p s h=>hk p s h) (fun zz zz zz h=>h.elim) p s h
theorem lf_ok {t:Sem Flow} {k:Flow→PT} {K:Flow→Pos→Shared→Prop} {E':Value→Pos→Shared→Prop} {p:Pos} {s:Shared} (h:wpP M Γ Q (.lib t k) p s) (hk: ∀ v p s,wpP M Γ Q (k v) p s→K v p s):Sem.wp M Γ t K E' p s:=by
 unfold wpP at h
 exact Sem.wp_mono M Γ t (fun v p s h=>hk v p s h) (fun zz zz zz h=>h.elim) p s h
theorem cut_ok {t:Sem Value} {k:Value→PT} {K:Value→Pos→Shared→Prop} {E':Value→Pos→Shared→Prop} {p:Pos} {s:Shared} (h:wpP M Γ Q (.cut t k) p s) (hk: ∀ v p s,wpP M Γ Q (k v) p s→K v p s):Sem.wp M Γ t K E' p s:=by
 unfold wpP at h
 exact Sem.wp_mono M Γ t (fun v p s h=>hk v p s h) (fun zz zz zz h=>h.elim) p s h
theorem cmpP_ok {op:CmpOp} {a b:Value} {k:Value→PT} {K:Value→Pos→Shared→Prop} {E':Value→Pos→Shared→Prop} {p:Pos} {s:Shared} (h:wpP M Γ Q (cmpP op a b k) p s) (hk: ∀ v p s,wpP M Γ Q (k v) p s→K v p s):Sem.wp M Γ (compareOp op a b) K E' p s:=by
 unfold cmpP at h
 split at h
 ·exact cut_ok h hk
 ·rw [Fast.te12886488535604756494]
  exact lv_ok h hk
theorem cmp1_ok {env:Env} {op:CmpOp} {l r:Expr} {pos:Pos} {k:Value→PT} {K:Value→Pos→Shared→Prop} {E':Value→Pos→Shared→Prop} {p:Pos} {s:Shared} (h:wpP M Γ Q (cmp1 env op pos l r k) p s) (hk: ∀ v p s,wpP M Γ Q (k v) p s→K v p s):
  Sem.wp M Γ (do let a←eval l env; let b←holding [a] (markedBehindIn op r (eval r env)); standAt pos; operate [a,b] (compareOp op a b)) K E' p s:=by
 unfold cmp1 at h
 simp only [Sem.wp_bind']
 rw [Fast.te14044960220447912780,Fast.te10513115210890433525]
 refine lv_ok h fun a p s h=>?_
 have e: @holding= @Fast.tw17359229931016689406:=Fast.te17359229931016689406
 rw [e]
 refine lv_ok h fun b p s h=>?_
 refine lu_ok h fun p s h=>?_
 rw [Sem.wp_operate]
 exact cmpP_ok h hk
theorem isT1_d {e:Expr} {env:Env} {k:Bool→PT} {K:Bool→Pos→Shared→Prop} {E':Value→Pos→Shared→Prop} {p:Pos} {s:Shared} (h:wpP M Γ Q (lb (Fast.tw15418851999007992765 e env (Fast.tw14044960220447912780 e env)) k) p s) (hk: ∀ v p s,wpP M Γ Q (k v) p s→K v p s):
  Sem.wp M Γ (isTrue e env (eval e env)) K E' p s:=by
 rw [Fast.te14044960220447912780,Fast.te15418851999007992765]
 exact lb_ok h hk
theorem isT1_ok {e:Expr} {env:Env} {k:Bool→PT} {K:Bool→Pos→Shared→Prop} {E':Value→Pos→Shared→Prop} {p:Pos} {s:Shared} (h:wpP M Γ Q (isT1 e env k) p s) (hk: ∀ v p s,wpP M Γ Q (k v) p s→K v p s):
  Sem.wp M Γ (isTrue e env (eval e env)) K E' p s:=by
 cases e with
 | Compare l ops rs pos=>
  rcases ops with _ | ⟨op,_ | ⟨o2,os⟩⟩
  ·exact isT1_d h hk
  ·rcases rs with _ | ⟨r,_ | ⟨r2,rl⟩⟩
   ·exact isT1_d h hk
   ·rw [isTrue_Compare1]
    simp only [Sem.wp_bind',Sem.wp_operate]
    have z:=cmp1_ok (K:=fun c p s=>Sem.wp M Γ (holding [c] (truthy c)) K E' p s) (E':=E') h fun c p s h=>by
     rw [Sem.wp_holding,Fast.te15245631507167962100]
     exact lb_ok h hk
    simp only [Sem.wp_bind',Sem.wp_operate] at z
    exact z
   ·exact isT1_d h hk
  ·exact isT1_d h hk
 | _=>exact isT1_d h hk
theorem allP_ok {op:BoolOp} {env:Env} {k:Bool→PT} {K:Bool→Pos→Shared→Prop} {E':Value→Pos→Shared→Prop} (hk: ∀ v p s,wpP M Γ Q (k v) p s→K v p s): ∀ {vs:List Expr} {p:Pos} {s:Shared},wpP M Γ Q (allP op env k vs) p s→
  Sem.wp M Γ (allTrue op vs env) K E' p s
 | [],p,s,h=>by
  have:allTrue op [] env=pure (op== .And):=rfl
  rw [this,Sem.wp_pure']
  cases op<;>exact hk _ p s h
 | x::rest,p,s,h=>by
  have:allTrue op (x::rest) env=(do
   match op,←isTrue x env (eval x env) with
   | .And,false=>pure false
   | .Or,true=>pure true
   | _,_=>allTrue op rest env):=rfl
  rw [this,Sem.wp_bind']
  refine isT1_ok (k:=_) h fun c p s h=>?_
  cases op<;>cases c
  ·exact hk _ p s h
  ·exact allP_ok hk h
  ·exact allP_ok hk h
  ·exact hk _ p s h
theorem isTP_ok {e:Expr} {env:Env} {k:Bool→PT} {K:Bool→Pos→Shared→Prop} {E':Value→Pos→Shared→Prop} {p:Pos} {s:Shared} (h:wpP M Γ Q (isTP e env k) p s) (hk: ∀ v p s,wpP M Γ Q (k v) p s→K v p s):
  Sem.wp M Γ (isTrue e env (eval e env)) K E' p s:=by
 cases e with
 | BoolOp op vs pos=>exact allP_ok hk h
 | _=>exact isT1_ok h hk
theorem evalP_ok {e:Expr} {env:Env} {k:Value→PT} {K:Value→Pos→Shared→Prop} {E':Value→Pos→Shared→Prop} {p:Pos} {s:Shared} (h:wpP M Γ Q (evalP e env k) p s) (hk: ∀ v p s,wpP M Γ Q (k v) p s→K v p s):
  Sem.wp M Γ (eval e env) K E' p s:=by
 have d: ∀ {e:Expr},wpP M Γ Q (lv (Fast.tw14044960220447912780 e env) k) p s→Sem.wp M Γ (eval e env) K E' p s:=fun h=>by
  rw [Fast.te14044960220447912780]
  exact lv_ok h hk
 cases e with
 | IfExp t b o pos=>
  have:eval (.IfExp t b o pos) env=(do if←isTrue t env (eval t env) then eval b env else eval o env):=rfl
  rw [this,Sem.wp_bind']
  refine isTP_ok h fun c p s h=>?_
  cases c
  ·show Sem.wp M Γ (eval o env) K E' p s
   rw [Fast.te14044960220447912780]
   exact lv_ok h hk
  ·show Sem.wp M Γ (eval b env) K E' p s
   rw [Fast.te14044960220447912780]
   exact lv_ok h hk
 | _=>exact d h
theorem thenP_ok {k:Flow→PT} {f:Flow} {r:PT} {K:Flow→Pos→Shared→Prop} {E':Value→Pos→Shared→Prop} {p:Pos} {s:Shared} {t:Sem Flow} (h:wpP M Γ Q (thenP k f r) p s) (hk: ∀ v p s,wpP M Γ Q (k v) p s→K v p s) (hr:wpP M Γ Q r p s→Sem.wp M Γ t K E' p s):
  Sem.wp M Γ (match (motive:=Flow→Sem Flow) f with | .next=>t | f=>pure f) K E' p s:=by
 cases f with
 | next=>exact hr h
 | _=>exact hk _ p s h
theorem one_ok {st:Stmt} {env:Env} {k:Flow→PT} {K:Flow→Pos→Shared→Prop} {E':Value→Pos→Shared→Prop} {p:Pos} {s:Shared} (h:wpP M Γ Q (.lib (Fast.tw12563942051412417395 [st] env) k) p s) (hk: ∀ v p s,wpP M Γ Q (k v) p s→K v p s):
  Sem.wp M Γ (exec st env) K E' p s:=by
 rw [←Fast.te12563942051412417395] at h
 have z:=lf_ok (K:=K) (E':=E') h hk
 rw [execs_cons,Sem.wp_bind'] at z
 refine Sem.wp_mono M Γ _ (fun f p s h=>?_) (fun zz zz zz h=>h) p s z
 cases f<;>exact h
theorem asg_eq (x:Str) (pos':Pos) (v:Expr) (pos:Pos) (env:Env):exec (.Assign [.Name x pos'] v pos) env=(do
  standAt pos
  if←swapsWith v (some (.Name x pos')) pos.line env then
   evalThenUse v env (assign (.Name x pos') env)
   return .next
  let v←eval v env
  standAt pos'
  bindName env x v
  pure .next):=rfl
theorem execsP_ok (hc:LeS M Γ crlY eF): ∀ {n:Nat} {l:List Stmt} {env:Env} {k:Flow→PT} {K:Flow→Pos→Shared→Prop} {E':Value→Pos→Shared→Prop} {p:Pos} {s:Shared},wpP M Γ Q (execsP n l env k) p s→(∀ v p s,wpP M Γ Q (k v) p s→K v p s)→
  Sem.wp M Γ (execs l env) K E' p s
 | 0,l,env,k,K,E',p,s,h,hk=>by
  rw [Fast.te12563942051412417395]
  exact lf_ok h hk
 | n+1,[],env,k,K,E',p,s,h,hk=>by
  rw [execs_nil,Sem.wp_pure']
  exact hk _ p s h
 | n+1,st::rest,env,k,K,E',p,s,h,hk=>by
  rw [execs_cons,Sem.wp_bind']
  refine stV_ok (R:=fun st q=>∀ {p s},wpP M Γ Q q p s→Sem.wp M Γ (exec st env) (fun f p s=>Sem.wp M Γ (match (motive:=Flow→Sem Flow) f with | .next=>execs rest env | f=>pure f) K E' p s) E' p s) st
   (fun test body orelse pos p s h=>?_) (fun e pos p s h=>?_) (fun name bases kws body decs scope x1 bind statics pos p s h=>?_) (fun x pos' a b c q pos p s h=>?_) (fun {p s} h=>?_) h
  ·rw [exec_If]
   simp only [Sem.wp_bind']
   refine lu_ok h fun p s h=>?_
   refine isTP_ok h fun c p s h=>?_
   cases c
   ·exact execsP_ok hc (K:=fun f p s=>Sem.wp M Γ (match (motive:=Flow→Sem Flow) f with | .next=>execs rest env | f=>pure f) K E' p s) h fun f p s h=>thenP_ok h hk fun h=>execsP_ok hc h hk
   ·exact execsP_ok hc (K:=fun f p s=>Sem.wp M Γ (match (motive:=Flow→Sem Flow) f with | .next=>execs rest env | f=>pure f) K E' p s) h fun f p s h=>thenP_ok h hk fun h=>execsP_ok hc h hk
  ·rw [exec_Return_some]
   simp only [Sem.wp_bind',Sem.wp_pure']
   refine lu_ok h fun p s h=>?_
   refine evalP_ok h fun v p s h=>?_
   exact hk _ p s h
  ·rw [clsF_eq]
   have z:=lf_ok (K:=fun f p s=>Sem.wp M Γ (match (motive:=Flow→Sem Flow) f with | .next=>execs rest env | f=>pure f) K E' p s) (E':=E') h fun f p s h=>thenP_ok h hk fun h=>execsP_ok hc h hk
   exact cls_le hc _ _ _ _ _ _ _ _ _ _ _ _ _ _ _ z
  ·rw [asg_eq]
   simp only [Sem.wp_bind']
   refine lu_ok h fun p s h=>?_
   rw [Fast.te17223243974762974889]
   refine lb_ok h fun c p s h=>?_
   cases c
   ·simp only [Bool.false_eq_true,if_false,Sem.wp_bind',Sem.wp_pure']
    refine evalP_ok h fun v p s h=>?_
    refine lu_ok h fun p s h=>?_
    rw [Fast.te7536695828754713326]
    refine lu_ok h fun p s h=>?_
    exact execsP_ok hc h hk
   ·exact (show False from h).elim
  ·exact one_ok h fun f p s h=>thenP_ok h hk fun h=>execsP_ok hc h hk
theorem loopEnd_ok {c:Code} {f:Flow} {p:Pos} {s:Shared} {E:Value→Pos→Shared→Prop} (h:wpP M Γ Q (loopEnd c f) p s):Sem.wp M Γ (match f with
  | .next | .cont=>again c
  | .brk=>pure (.done .next)
  | .ret v=>pure (.done (.ret v))) Q E p s:=by
 unfold loopEnd at h
 cases f with
 | _=>exact h
theorem whileP_ok (hc:LeS M Γ crlY eF) {test:Expr} {body orelse:List Stmt} {env:Env} {p:Pos} {s:Shared} {E':Value→Pos→Shared→Prop} (h:wpP M Γ Q (whileP test body orelse env) p s):Sem.wp M Γ (whileTurn test body orelse env) Q E' p s:=by
 unfold whileP at h
 unfold whileTurn
 rw [Sem.wp_bind']
 refine isTP_ok h fun c p s h=>?_
 cases c
 ·show Sem.wp M Γ (execs orelse env>>=fun f=>pure (.done f)) Q E' p s
  rw [Sem.wp_bind',Fast.te12563942051412417395]
  exact lf_ok h fun f p s h=>h
 ·show Sem.wp M Γ (execs body env>>=fun f=>match f with
   | .next | .cont=>again (.whileLoop test body orelse env)
   | .brk=>pure (.done .next)
   | .ret v=>pure (.done (.ret v))) Q E' p s
  rw [Sem.wp_bind']
  refine execsP_ok hc h fun f p s h=>?_
  exact loopEnd_ok h
theorem ownP_ok {t:Expr} {it v:Value} {k:PT} {K:Unit→Pos→Shared→Prop} {E':Value→Pos→Shared→Prop} {p:Pos} {s:Shared} (h:wpP M Γ Q (ownP t it v k) p s) (hk: ∀ p s,wpP M Γ Q k p s→K () p s):Sem.wp M Γ (letOwnedTupleGo t it v) K E' p s:=by
 unfold ownP at h
 split at h
 ·have z:=cut_ok (K:=fun zz p s=>K () p s) (E':=E') h fun zz p s h=>hk p s h
  rw [Sem.wp_bind] at z
  exact z
 ·rw [Fast.te1578499551869305889]
  exact lu_ok h hk
theorem forLP_ok (hc:LeS M Γ crlY eF) {t:Expr} {it:Value} {body orelse:List Stmt} {env:Env} {p:Pos} {s:Shared} {E':Value→Pos→Shared→Prop} (h:wpP M Γ Q (forLP t it body orelse env) p s):Sem.wp M Γ (forTurn t it body orelse env) Q E' p s:=by
 unfold forLP at h
 unfold forTurn
 rw [Sem.wp_bind']
 refine lu_ok h fun p s h=>?_
 rw [Sem.wp_bind',Sem.wp_onRaise,Fast.te9404975358583537561]
 unfold wpP at h
 rw [←PySem.W.R.bindR_eq,Sem.wp_bind] at h
 refine Sem.wp_mono M Γ _ (fun o p s h=>?_) (fun zz zz zz h=>h.elim) p s h
 cases o with
 | none=>
  show Sem.wp M Γ (again (.block orelse env)) Q E' p s
  exact h
 | some v=>
  show Sem.wp M Γ (letOwnedTupleGo t it v>>=fun zz=>assign t env v>>=fun zz=>execs body env>>=fun f=>match f with
   | .next | .cont=>again (.forLoop t it body orelse env)
   | .brk=>pure (.done .next)
   | .ret v=>pure (.done (.ret v))) Q E' p s
  simp only [Sem.wp_bind']
  refine ownP_ok (k:=_) h fun p s h=>?_
  rw [Fast.te17772580674575903948]
  refine lu_ok h fun p s h=>?_
  refine execsP_ok hc h fun f p s h=>?_
  exact loopEnd_ok h
theorem funcP_ok (hc:LeS M Γ crlY eF) {b:List Stmt} {env:Env} {p:Pos} {s:Shared} {E':Value→Pos→Shared→Prop} (h:wpP M Γ Q (funcP b env) p s):Sem.wp M Γ (denote table (.func b env)) Q E' p s:=by
 unfold funcP at h
 have e:denote table (.func b env)=(do
  point
  match←(execs b env).onRaise (leaving env) with
  | .ret v=>ret v
  | _=>ret .none):=rfl
 rw [e,Sem.wp_bind']
 refine lu_ok h fun p s h=>?_
 rw [Sem.wp_bind',Sem.wp_onRaise]
 refine execsP_ok hc h fun f p s h=>?_
 cases f<;>exact h
theorem pat_ok (hc:LeS M Γ crlY eF) {c:Code} {t:PT} {p:Pos} {s:Shared} (e:pat c=some t) {E:Value→Pos→Shared→Prop} (h:wpP M Γ Q t p s):Sem.wp M Γ (denote table c) Q E p s:=by
 unfold pat at e
 split at e
 ·split at e
  ·cases e; exact funcP_ok hc h
  ·cases e
 ·split at e
  ·cases e
   show Sem.wp M Γ ((forTurn _ _ _ _ _).onRaise _) Q E p s
   rw [Sem.wp_onRaise]
   exact forLP_ok hc h
  ·cases e
 ·split at e
  ·cases e
   show Sem.wp M Γ ((whileTurn _ _ _ _).onRaise _) Q E p s
   rw [Sem.wp_onRaise]
   exact whileP_ok hc h
  ·cases e
 ·cases e
end
noncomputable abbrev den:Code→Sem Fin:=PySem.W.Fast.tw11892475500146522536 PySem.W.Fast.tw14364793385576792824
theorem den_eq:denote table=den:=by
 rw [table_eq_tree,PySem.W.Fast.te11892475500146522536,PySem.W.Fast.te14364793385576792824]
noncomputable def newX (args:Args):Sem Fin:=match args.pos with
 | m::l1=>match l1 with
  | nv::l2=>match l2 with
   | bv::l3=>match l3 with
    | sv::l4=>match l4 with
     | []=>match nv with
      | .str name t=>match bv with
       | .ref b=>match sv with
        | .ref s=>(tnS m name t b s args.kw).1
        | _=>.unsupported "newX"
       | _=>.unsupported "newX"
      | _=>.unsupported "newX"
     | _::_=>.unsupported "newX"
    | []=>.unsupported "newX"
   | []=>.unsupported "newX"
  | []=>Fast.tw4202317264376624991 args
 | []=>.unsupported "newX"
noncomputable def sgX (args:Args):Sem Fin:=match args.kw with
 | []=>match args.pos with
  | self::l1=>match l1 with
   | nv::l2=>match l2 with
    | []=>match nv with
     | .str name t=>(sgS self name t).1
     | _=>.unsupported "sgX"
    | _::_=>.unsupported "sgX"
   | []=>.unsupported "sgX"
  | []=>.unsupported "sgX"
 | _::_=>.unsupported "sgX"
noncomputable def denX (c:Code):Sem Fin:=match c with
 | .builtin id args=>match Nat.beq (PySem.code id) 29827186395103491166823348853 with
  | true=>newX args
  | false=>match Nat.beq (PySem.code id) 1954753563970360692704791583880820 with
   | true=>siF (supF subY) args
   | false=>match Nat.beq (PySem.code id) 36058753332786928249572607568003211807882964030813812 with
    | true=>sgX args
    | false=>match Nat.beq (PySem.code id) 7635746451779523968930960996981 with
     | true=>tcF instY args
     | false=>match Nat.beq (PySem.code id) 604966924454349092460970231577914706711418237544089242199662 with
      | true=>dsF (dsiF (chkF instY)) SL.s3256835591337018016x6 args
      | false=>match Nat.beq (PySem.code id) 604966924436811072812999396559470488718822841308218051683950 with
       | true=>dgF (dgrF (chkF instY)) args
       | false=>den c
 | _=>den c
theorem id_of {id s:String} {n:Nat} (h:Nat.beq (PySem.code id) n=true) (e:PySem.code s=n):id=s:=by
 exact PySem.code_inj _ _ ((Nat.eq_of_beq_eq_true h).trans e.symm)
theorem den_builtin {id:String} {b:Builtin} (e:entriesT.find (PySem.code id)=some b) (args:Args):den (.builtin id args)=b args:=by
 rw [←den_eq]
 show (match entryFor table id with | some b=>b args | none=>unsupported ((withoutEnding? id "#data").getD id))=_
 rw [entryFor_of_tree e]
section
variable {M:Model} {Γ:Ctx}
theorem new_le (args:Args):LeS M Γ (newX args) (Fast.tw4202317264376624991 args):=by
 obtain ⟨pos,kw⟩:=args
 unfold newX
 rcases pos with _ | ⟨m,_ | ⟨nv,_ | ⟨bv,_ | ⟨sv,_ | ⟨x,l⟩⟩⟩⟩⟩
 ·exact .no
 ·exact .refl _
 ·exact .no
 ·exact .no
 ·cases nv with
  | str name t=>
   cases bv with
   | ref b=>
    cases sv with
    | ref s=>exact (tnS m name t b s kw).2 M Γ
    | _=>exact .no
   | _=>exact .no
  | _=>exact .no
 ·exact .no
theorem sg_le (args:Args):LeS M Γ (sgX args) (Fast.tw1054471737866971170 args):=by
 obtain ⟨pos,kw⟩:=args
 unfold sgX
 rcases kw with _ | ⟨k,kw⟩
 ·rcases pos with _ | ⟨m,_ | ⟨nv,_ | ⟨bv,l⟩⟩⟩
  ·exact .no
  ·exact .no
  ·cases nv with
   | str name t=>exact (sgS m name t).2 M Γ
   | _=>exact .no
  ·exact .no
 ·exact .no
theorem denX_le (c:Code):LeS M Γ (denX c) (den c):=by
 unfold denX
 split
 ·rename_i id args
  split
  ·rename_i h
   have:=id_of h (s:= "type.__new__") (by decide+kernel)
   subst this
   rw [den_builtin (b:=Builtin.«type.__new__») (by kernel_rfl),Fast.te4202317264376624991]
   exact new_le args
  split
  ·rename_i h
   have:=id_of h (s:= "super.__init__") (by decide+kernel)
   subst this
   rw [den_builtin (b:=Builtin.«super.__init__») (by kernel_rfl),Fast.te13830915341099135465]
   exact si_le (fun a b=>sup_le (fun a b=>subY_le a b) a b) args
  split
  ·rename_i h
   have:=id_of h (s:= "super.__getattribute__") (by decide+kernel)
   subst this
   rw [den_builtin (b:=Builtin.«super.__getattribute__») (by kernel_rfl),Fast.te1054471737866971170]
   exact sg_le args
  split
  ·rename_i h
   have:=id_of h (s:= "type.__call__") (by decide+kernel)
   subst this
   rw [den_builtin (b:=Builtin.«type.__call__») (by kernel_rfl),Fast.te215932591028220647]
   exact tc_le (fun a b=>instY_le a b) args
  split
  ·rename_i h
   have:=id_of h (s:= "member_descriptor.__set__") (by decide+kernel)
   subst this
   rw [den_builtin (b:=Builtin.«member_descriptor.__set__») (by kernel_rfl),Fast.te10385067321753230146]
   exact ds_le (fun a b c d=>dsi_le (fun a b=>chk_le (fun a b=>instY_le a b) a b) a b c d) _ args
  split
  ·rename_i h
   have:=id_of h (s:= "member_descriptor.__get__") (by decide+kernel)
   subst this
   rw [den_builtin (b:=Builtin.«member_descriptor.__get__») (by kernel_rfl),Fast.te17700060304098168000]
   exact dg_le (fun a b=>dgr_le (fun a b=>chk_le (fun a b=>instY_le a b) a b) a b) args
  ·exact .refl _
 ·exact .refl _
end
noncomputable def lim (n:Nat) (t:Sem Fin):Sem Fin:=match Nat.beq n 1000 with
 | true=>t
 | false=>.unsupported "lim"
noncomputable def callFn (a:Addr) (fd:FuncData) (args:Args):Sem Fin:=
 PySem.W.R.bindR (match fd.code with
  | .none=>Sem.pure fd.qualname
  | c=>PySem.W.R.bindR (PySem.W.Fast.tw6609576154772507232 c 1) fun v=>match v with
   | .str q _=>Sem.pure q
   | _=>Sem.pure fd.qualname) fun compiled=>
 PySem.W.R.bindR (PySem.W.Fast.tw9782568553167038054 fd args) fun binds=>
 PySem.W.R.bindR (PySem.W.Fast.tw11113344188204177931 fd.scope fd.globals fd.closure binds (compiled++Str.mk (Array.mk [46,60,108,111,99,97,108,115,62,46])) (some a) fd.code none fd.builtins) fun env=>
 PySem.W.R.bindR PySem.W.Fast.tw2211186353215096513 fun limit=>lim limit (match fd.scope.isGenerator,fd.scope.isCoroutine with
  | false,false=>Sem.pure (.again (match fd.body with
   | .stmts b=>.func b env
   | .expr e=>.expr e env))
  | _,_=>.unsupported "callFn")
structure St where
 D:List (Nat×Obj)
 b:Nat
 m:Nat
 tb:Nat
 ti:Nat
 lg:List (Nat×Nat)
inductive Kt where
 | top (c:Option Code)
 | ret (n:Nat) (hd:Option Value) (c:Code) (k:Result→Sem Fin) (κ:Kt)
 | seq (k:Flow→PT) (κ:Kt)
inductive Rs where
 | done (r:Result) (s:St)
 | loop (c:Code) (s:St)
 | stop (n:Nat) (c:Code) (h:Option Value) (s:St) (f:List Nat→Result→St→Rs)
 | cut (n:Nat) (t:Sem Value) (h:Option Value) (s:St) (f:List Nat→Value→St→Rs)
 | bad (n:Nat)
structure Ev where
 prog:Program
 P:Params
 kt:KT
 hdl:Option Value
noncomputable def getD:List (Nat×Obj)→Nat→Option (Nat×Obj)
 | [],_=>none
 | x::l,i=>match Nat.beq i 0 with
  | true=>some x
  | false=>getD l (Nat.pred i)
noncomputable def setD:List (Nat×Obj)→Nat→Obj→List (Nat×Obj)
 | [],_,_=> []
 | x::l,i,o=>match Nat.beq i 0 with
  | true=>(x.1,o)::l
  | false=>x::setD l (Nat.pred i) o
noncomputable def addD:List (Nat×Obj)→Nat×Obj→List (Nat×Obj)
 | [],y=> [y]
 | x::l,y=>x::addD l y
noncomputable def hdlOf (v:Ev):Kt→Option Value
 | .top _=>v.hdl
 | .ret _ hd _ _ κ=>match hd with
  | some x=>some x
  | none=>hdlOf v κ
 | .seq _ κ=>hdlOf v κ
noncomputable def orH (hd h:Option Value):Option Value:=match hd with
 | some x=>some x
 | none=>h
noncomputable def kn:Kt→Nat
 | .top _=>0
 | .ret n _ _ _ _=>n
 | .seq _ κ=>kn κ
noncomputable def ncal (c:Code):Bool:=match c with
 | .builtin id _=>match Nat.beq (PySem.code id) (PySem.code "claim.caller") with
  | true=>false
  | false=>true
 | _=>true
noncomputable abbrev Go:=Kt→Sem Fin→List Nat→St→Rs
noncomputable abbrev quiet:Code→Bool:=PySem.W.ZFast.zw17772548960776305114
noncomputable def nak (hd:Option Value):Bool:=match hd with
 | none=>true
 | some v=>match v with
  | .notImplemented=>false
  | _=>true
noncomputable def goP (v:Ev) (go:Go) (κ:Kt):PT→List Nat→St→Rs
 | .no,_,_=>.bad 60
 | .fin f,hs,s=>go κ (.pure f) hs s
 | .lib t k,hs,s=>go (.seq k κ) (PySem.W.R.bindR t fun f=>.pure (.done f)) hs s
 | .cut t k,_,s=>.cut (kn κ) t (hdlOf v κ) s fun hs r s=>goP v go κ (k r) hs s
noncomputable def enterD (v:Ev) (go:Go) (κ:Kt) (c:Code) (hs:List Nat) (s:St):Rs:=match c with
 | .call f args=>match f with
  | .ref a=>match hs with
   | []=>.bad 50
   | h::hs=>match h with
    | 0=>match v.kt.get a with
     | some o=>match o.data with
      | .func fd=>go κ (callFn a fd args) hs s
      | _=>go κ (den c) hs s
     | none=>.bad 1
    | i+1=>match getD s.D i with
     | some x=>match x.2.data with
      | .func fd=>go κ (callFn a fd args) hs ⟨s.D,s.b,s.m,s.tb,s.ti,(a,x.1)::s.lg⟩
      | _=>go κ (den c) hs ⟨s.D,s.b,s.m,s.tb,s.ti,(a,x.1)::s.lg⟩
     | none=>.bad 2
  | _=>go κ (den c) hs s
 | _=>go κ (denX c) hs s
noncomputable def enter (v:Ev) (go:Go) (κ:Kt) (c:Code) (hs:List Nat) (s:St):Rs:=match pat c with
 | some p=>goP v go κ p hs s
 | none=>enterD v go κ c hs s
noncomputable def retS (v:Ev) (go:Go) (κ:Kt) (r:Result) (hs:List Nat) (s:St):Rs:=match κ with
 | .top _=>.done r s
 | .ret _ _ _ k κ=>go κ (k r) hs s
 | .seq k κ=>match r with
  | .ok f=>goP v go κ (k f) hs s
  | .error _=>.bad 61
noncomputable def isFr (o:Obj):Bool:=match o.data with
 | .freed=>true
 | _=>false
noncomputable def step (v:Ev) (go:Go) (κ:Kt) (t:Sem Fin) (hs:List Nat) (s:St):Rs:=match t with
 | .pure fin=>match fin with
  | .done f=>retS v go κ (.ok f) hs s
  | .again c=>match quiet c with
   | false=>.bad 13
   | true=>match hs with
    | []=>.bad 51
    | h::hs=>match h with
     | 0=>match ncal c with
      | false=>.bad 16
      | true=>match κ with
       | .top c'=>match c' with
        | some _=>enter v go (.top (some c)) c hs s
        | none=>.bad 14
       | .ret n hd _ k κ=>enter v go (.ret n hd c k κ) c hs s
       | .seq _ _=>.bad 62
     | _+1=>match κ with
      | .top c'=>match c' with
       | some _=>.loop c s
       | none=>.bad 15
      | .ret _ hd _ k κ'=>.stop (kn κ') c (orH hd (hdlOf v κ')) s fun hs r s=>go κ' (k r) hs s
      | .seq _ _=>.bad 63
 | .raise e=>retS v go κ (.error e) hs s
 | .rule _ k=>go κ (k ()) hs s
 | .at _ k=>go κ (k ()) hs s
 | .point _ k=>go κ (k ()) hs s
 | .ask k=>go κ (k ⟨v.prog,v.P⟩) hs s
 | .load a _ k=>match hs with
  | []=>.bad 52
  | h::hs=>match h with
   | 0=>match v.kt.get a with
    | some o=>go κ (k o) hs s
    | none=>.bad 3
   | i+1=>match getD s.D i with
    | some x=>go κ (k x.2) hs ⟨s.D,s.b,s.m,s.tb,s.ti,(a,x.1)::s.lg⟩
    | none=>.bad 4
 | .loadIfAlive a k=>match hs with
  | []=>.bad 53
  | h::hs=>match h with
   | 0=>match v.kt.get a with
    | some o=>go κ (k (some o)) hs s
    | none=>.bad 5
   | i+1=>match getD s.D i with
    | some x=>go κ (k (some x.2)) hs ⟨s.D,s.b,s.m,s.tb,s.ti,(a,x.1)::s.lg⟩
    | none=>.bad 6
 | .alloc o k=>match isFr o with
  | true=>.bad 7
  | false=>go κ (k (Nat.add s.b s.m)) hs ⟨addD s.D (Nat.add s.b s.m,o),s.b,Nat.succ s.m,s.tb,s.ti,s.lg⟩
 | .update a _ f k=>match hs with
  | []=>.bad 54
  | h::hs=>match h with
   | 0=>.bad 8
   | i+1=>match getD s.D i with
    | some x=>match isFr (f x.2) with
     | true=>.bad 9
     | false=>go κ (k ()) hs ⟨setD s.D i (f x.2),s.b,s.m,s.tb,s.ti,(a,x.1)::s.lg⟩
    | none=>.bad 10
 | .fresh k=>go κ (k (Nat.add s.tb s.ti)) hs ⟨s.D,s.b,s.m,s.tb,Nat.succ s.ti,s.lg⟩
 | .handled own k=>match own with
  | false=>go κ (k (hdlOf v κ)) hs s
  | true=>.bad 11
 | .call c hd _ _ k=>match hs with
  | []=>.bad 55
  | h::hs=>match nak hd with
   | false=>.bad 12
   | true=>match h with
    | 0=>match ncal c with
     | false=>.bad 17
     | true=>match Nat.ble (kn κ) 49 with
      | false=>.bad 18
      | true=>enter v go (.ret (Nat.succ (kn κ)) hd c k κ) c hs s
    | _+1=>.stop (kn κ) c (orH hd (hdlOf v κ)) s fun hs r s=>go κ (k r) hs s
 | .stack _=>.bad 20
 | .unsupported _=>.bad 21
 | .finish _=>.bad 22
 | .register .. =>.bad 23
 | .choose .. =>.bad 24
 | .os .. =>.bad 25
 | .newGen .. =>.bad 26
 | .genState .. =>.bad 27
 | .resume .. =>.bad 28
 | .yield .. =>.bad 29
 | .fork .. =>.bad 30
 | .thread _=>.bad 31
 | .await .. =>.bad 32
noncomputable def sim (v:Ev):Nat→Go
 | 0=>fun zz zz zz zz=>.bad 0
 | n+1=>step v (sim v n)
theorem getD_eq (D:List (Nat×Obj)) (i:Nat):getD D i=D[i]? :=by
 induction D generalizing i with
 | nil=>simp [getD]
 | cons x l ih=>
  unfold getD
  cases i with
  | zero=>rfl
  | succ i=>show getD l i=_; rw [ih]; simp
theorem setD_eq (D:List (Nat×Obj)) (i:Nat) (o:Obj):setD D i o=D.modify i (fun x=>(x.1,o)):=by
 induction D generalizing i with
 | nil=>simp [setD]
 | cons x l ih=>
  unfold setD
  cases i with
  | zero=>rfl
  | succ i=>show x::setD l i o=_; rw [ih]; simp
theorem addD_eq (D:List (Nat×Obj)) (y:Nat×Obj):addD D y=D++ [y]:=by
 induction D with
 | nil=>rfl
 | cons x l ih=>show x::addD l y=_; rw [ih]; rfl
structure Sv where
 prog:Program
 w:World
 A:Around
 R:Result→Shared→Prop
 kt:KT
 h₀:Heap
 mu:Nat→Prop
 os:OsState
 t₀:Nat
noncomputable abbrev Sv.M (V:Sv):Model:=model V.prog V.w
noncomputable abbrev Sv.ev (V:Sv):Ev:=⟨V.prog,V.w.params,V.kt,V.A.handled⟩
structure Sat (V:Sv) (s:St) (sh:Shared):Prop where
 size:sh.heap.objs.size=s.b+s.m
 toks:sh.toks=s.tb+s.ti
 gens:sh.gens= #[]
 os:sh.os=V.os
 kt: ∀ a o,V.kt.get a=some o→sh.heap.get? a=some o
 own: ∀ (i:Nat) (x:Nat×Obj),s.D[i]? =some x→sh.heap.get? x.1=some x.2
 apart: ∀ (i j:Nat) (x y:Nat×Obj),s.D[i]? =some x→s.D[j]? =some y→x.1=y.1→i=j
 ktno: ∀ (i:Nat) (x:Nat×Obj),s.D[i]? =some x→V.kt.get x.1=none
 keep: ∀ b o,V.h₀.get? b=some o→ ¬ V.mu b→sh.heap.get? b=some o
 muD: ∀ (i:Nat) (x:Nat×Obj),s.D[i]? =some x→V.mu x.1∨V.h₀.objs.size≤x.1
 grow:V.h₀.objs.size≤s.b+s.m
 t849:849≤s.tb+s.ti
 t0:V.t₀≤s.tb+s.ti
noncomputable def AllEq (l:List (Nat×Nat)):Prop:=∀ e∈l,e.1=e.2
noncomputable def aro (V:Sv):Kt→Around
 | .top c=>match c with
  | none=>V.A
  | some c=>V.A.under c
 | .ret _ hd c _ κ=>((aro V κ).mark hd).under c
 | .seq _ κ=>aro V κ
noncomputable def fins (V:Sv) (κ:Kt) (R:Result→Shared→Prop):Fin→Shared→Prop
 | .done f,sh=>R (.ok f) sh
 | .again c,sh=>c.quiet=true∧match κ with
  | .top c'=>match c' with
   | none=>False
   | some _=>codeAny V.M V.A c R sh
  | .ret _ hd _ _ κ=>codeAny V.M ((aro V κ).mark hd) c R sh
  | .seq _ _=>False
noncomputable def endP (V:Sv):Kt→Result→Shared→Prop
 | .top _=>V.R
 | .ret _ _ _ k κ=>fun r sh=>wpAny V.M (aro V κ) (k r) (fins V κ (endP V κ)) (fun e sh=>endP V κ (.error e) sh) sh
 | .seq k κ=>fun r sh=>match r with
  | .ok f=>∀ (Γ:Ctx) (p:Pos),Γ.In (aro V κ)→wpP V.M Γ (fun fin zz sh=>fins V κ (endP V κ) fin sh) (k f) p sh
  | .error _=>False
noncomputable def Mean (V:Sv) (κ:Kt) (t:Sem Fin) (sh:Shared):Prop:=
 wpAny V.M (aro V κ) t (fins V κ (endP V κ)) (fun e sh=>endP V κ (.error e) sh) sh
noncomputable abbrev Sv.re (V:Sv) (h₀:Heap) (mu:Nat→Prop) (os:OsState) (t₀:Nat):Sv:=⟨V.prog,V.w,V.A,V.R,V.kt,h₀,mu,os,t₀⟩
noncomputable def Ok:Sv→Rs→Prop
 | V,.done r s=>AllEq s.lg∧∀ sh,Sat V s sh→V.R r sh
 | V,.loop c s=>AllEq s.lg∧∀ sh,Sat V s sh→codeAny V.M V.A c V.R sh
 | V,.stop n c h s f=>AllEq s.lg∧∀ sh,Sat V s sh→∀ A:Around,A.handled=h→A.depth≤V.A.depth+5 * (n+1)→A.units≤V.A.units+10 * (n+1)→
   codeAny V.M A c (fun r sh'=>∃ h₀ mu os t₀ hs s',Sat (V.re h₀ mu os t₀) s' sh'∧Ok (V.re h₀ mu os t₀) (f hs r s')) sh
 | V,.cut n t h s f=>AllEq s.lg∧∀ sh,Sat V s sh→∀ A:Around,A.handled=h→A.depth≤V.A.depth+5 * (n+1)→A.units≤V.A.units+10 * (n+1)→
   wpAny V.M A t (fun v sh'=>∃ h₀ mu os t₀ hs s',Sat (V.re h₀ mu os t₀) s' sh'∧Ok (V.re h₀ mu os t₀) (f hs v s')) (fun zz zz=>False) sh
 | _,.bad _=>False
noncomputable def Wf:Kt→Prop
 | .top c=>match c with
  | none=>True
  | some c=>ncal c=true
 | .ret n _ c _ κ=>n=kn κ+1∧n≤50∧ncal c=true∧Wf κ
 | .seq _ κ=>Wf κ
theorem AllEq.tail {e:Nat×Nat} {l:List (Nat×Nat)} (h:AllEq (e::l)):AllEq l:=fun x hx=>h x (List.mem_cons_of_mem _ hx)
theorem AllEq.head {a b:Nat} {l:List (Nat×Nat)} (h:AllEq ((a,b)::l)):a=b:=h (a,b) (List.mem_cons_self ..)
section
variable {V:Sv}
theorem goP_log {v:Ev} {go:Go} (ih: ∀ κ t hs s,Ok V (go κ t hs s)→AllEq s.lg) {κ:Kt} {pt:PT} {hs:List Nat} {s:St} (h:Ok V (goP v go κ pt hs s)):AllEq s.lg:=by
 cases pt with
 | no=>exact (h:False).elim
 | fin f=>exact ih _ _ _ _ h
 | lib t k=>exact ih _ _ _ _ h
 | cut t k=>exact h.1
theorem rsB {b:Bool} {n:Nat} {X:Rs} {P:Prop} (h:Ok V (match b with | false=>.bad n | true=>X)) (k:b=true→Ok V X→P):P:=by
 cases b with
 | false=>exact (h:False).elim
 | true=>exact k rfl h
theorem rsF {b:Bool} {n:Nat} {X:Rs} {P:Prop} (h:Ok V (match b with | true=>.bad n | false=>X)) (k:b=false→Ok V X→P):P:=by
 cases b with
 | true=>exact (h:False).elim
 | false=>exact k rfl h
theorem rsO {o:Option Obj} {n:Nat} {f:Obj→Rs} {P:Prop} (h:Ok V (match o with | some x=>f x | none=>.bad n)) (k: ∀ x,o=some x→Ok V (f x)→P):P:=by
 cases o with
 | none=>exact (h:False).elim
 | some x=>exact k x rfl h
theorem rsD {o:Option (Nat×Obj)} {n:Nat} {f:Nat×Obj→Rs} {P:Prop} (h:Ok V (match o with | some x=>f x | none=>.bad n)) (k: ∀ x,o=some x→Ok V (f x)→P):P:=by
 cases o with
 | none=>exact (h:False).elim
 | some x=>exact k x rfl h
theorem rsC {o:Option Code} {n:Nat} {f:Code→Rs} {P:Prop} (h:Ok V (match o with | some x=>f x | none=>.bad n)) (k: ∀ x,o=some x→Ok V (f x)→P):P:=by
 cases o with
 | none=>exact (h:False).elim
 | some x=>exact k x rfl h
theorem rsL {hs:List Nat} {n:Nat} {f:Nat→List Nat→Rs} {P:Prop} (h:Ok V (match hs with | []=>.bad n | x::l=>f x l)) (k: ∀ x l,Ok V (f x l)→P):P:=by
 cases hs with
 | nil=>exact (h:False).elim
 | cons x l=>exact k x l h
theorem rsN {x:Nat} {X:Rs} {f:Nat→Rs} {P:Prop} (h:Ok V (match x with | 0=>X | i+1=>f i)) (k0:Ok V X→P) (k1: ∀ i,Ok V (f i)→P):P:=by
 cases x with
 | zero=>exact k0 h
 | succ i=>exact k1 i h
theorem retS_log {v:Ev} {go:Go} (ih: ∀ κ t hs s,Ok V (go κ t hs s)→AllEq s.lg) {κ:Kt} {r:Result} {hs:List Nat} {s:St} (h:Ok V (retS v go κ r hs s)):AllEq s.lg:=by
 cases κ with
 | top c=>exact h.1
 | ret=>exact ih _ _ _ _ h
 | seq k κ=>cases r with
  | ok f=>exact goP_log ih h
  | error e=>exact (h:False).elim
theorem enter_log {v:Ev} {go:Go} (ih: ∀ κ t hs s,Ok V (go κ t hs s)→AllEq s.lg) {κ:Kt} {c:Code} {hs:List Nat} {s:St} (h:Ok V (enter v go κ c hs s)):AllEq s.lg:=by
 unfold enter at h
 cases q:pat c with
 | some p=>rw [q] at h; exact goP_log ih h
 | none=>
  rw [q] at h
  have h:Ok V (enterD v go κ c hs s):=h
  cases c with
  | call f args=>cases f with
   | ref a=>
    refine rsL h fun x hs h=>?_
    refine rsN h (fun h=>?_) fun i h=>?_
    ·refine rsO h fun o zz h=>?_
     cases d:o.data with
     | func fd=>rw [d] at h; exact ih _ _ _ _ h
     | _=>rw [d] at h; exact ih _ _ _ _ h
    ·refine rsD h fun x zz h=>?_
     cases d:x.2.data with
     | func fd=>rw [d] at h; exact (ih _ _ _ _ h).tail
     | _=>rw [d] at h; exact (ih _ _ _ _ h).tail
   | _=>exact ih _ _ _ _ h
  | _=>exact ih _ _ _ _ h
theorem step_log {v:Ev} {go:Go} (ih: ∀ κ t hs s,Ok V (go κ t hs s)→AllEq s.lg) {κ:Kt} {t:Sem Fin} {hs:List Nat} {s:St} (h:Ok V (step v go κ t hs s)):AllEq s.lg:=by
 cases t with
 | pure fin=>cases fin with
  | done f=>exact retS_log (v:=v) ih h
  | again c=>
   refine rsB h fun zz h=>rsL h fun x hs h=>rsN h (fun h=>rsB h fun zz h=>?_) fun i h=>?_
   ·cases κ with
    | top c'=>exact rsC h fun zz zz h=>enter_log ih h
    | ret=>exact enter_log ih h
    | seq=>exact (h:False).elim
   ·cases κ with
    | top c'=>exact rsC h fun zz zz h=>h.1
    | ret=>exact h.1
    | seq=>exact (h:False).elim
 | raise e=>exact retS_log (v:=v) ih h
 | rule=>exact ih _ _ _ _ h
 | «at»=>exact ih _ _ _ _ h
 | point=>exact ih _ _ _ _ h
 | ask=>exact ih _ _ _ _ h
 | fresh=>have z:=ih _ _ _ _ h; exact z
 | load=>exact rsL h fun x hs h=>rsN h (fun h=>rsO h fun o zz h=>ih _ _ _ _ h) fun i h=>rsD h fun o zz h=>(ih _ _ _ _ h).tail
 | loadIfAlive=>exact rsL h fun x hs h=>rsN h (fun h=>rsO h fun o zz h=>ih _ _ _ _ h) fun i h=>rsD h fun o zz h=>(ih _ _ _ _ h).tail
 | alloc=>exact rsF h fun zz h=>(have z:=ih _ _ _ _ h; z)
 | update=>exact rsL h fun x hs h=>rsN h (fun h=>(h:False).elim) fun i h=>rsD h fun o zz h=>rsF h fun zz h=>(ih _ _ _ _ h).tail
 | handled own=>cases own with
  | false=>exact ih _ _ _ _ h
  | true=>exact (h:False).elim
 | call=>exact rsL h fun x hs h=>rsB h fun zz h=>rsN h (fun h=>rsB h fun zz h=>rsB h fun zz h=>enter_log ih h) fun i h=>h.1
 | _=>exact (h:False).elim
theorem sim_log {v:Ev} : ∀ n κ t hs s,Ok V (sim v n κ t hs s)→AllEq s.lg
 | 0,_,_,_,_,h=>(h:False).elim
 | n+1,_,_,_,_,h=>step_log (sim_log n) h
end
section
variable {V:Sv} {s:St} {sh:Shared}
theorem Sat.at (S:Sat V s sh) {i:Nat} {x:Nat×Obj} (h:getD s.D i=some x):sh.heap.get? x.1=some x.2:=S.own i x (by rw [←getD_eq]; exact h)
theorem Sat.lg (S:Sat V s sh) (l:List (Nat×Nat)):Sat V ⟨s.D,s.b,s.m,s.tb,s.ti,l⟩ sh:=⟨S.size,S.toks,S.gens,S.os,S.kt,S.own,S.apart,S.ktno,S.keep,S.muD,S.grow,S.t849,S.t0⟩
theorem Sat.fresh (S:Sat V s sh):Sat V ⟨s.D,s.b,s.m,s.tb,Nat.succ s.ti,s.lg⟩ {sh with toks:=sh.toks+1} :=
 ⟨S.size,by show sh.toks+1=s.tb+(s.ti+1); rw [S.toks]; lia,S.gens,S.os,S.kt,S.own,S.apart,S.ktno,S.keep,S.muD,S.grow,by have:=S.t849; show 849≤s.tb+(s.ti+1); lia,by have:=S.t0; show V.t₀≤s.tb+(s.ti+1); lia⟩
theorem isFr_eq (o:Obj):o.isFreed=isFr o:=by
 obtain ⟨c,d,dt,sl⟩:=o
 cases dt<;>rfl
theorem Sat.alloc (S:Sat V s sh) {o:Obj} (hf:isFr o=false):Sat V ⟨addD s.D (Nat.add s.b s.m,o),s.b,Nat.succ s.m,s.tb,s.ti,s.lg⟩ {sh with heap:=sh.heap.push o} :=by
 have hf':o.isFreed=false:=(isFr_eq o).trans hf
 have sz:sh.heap.objs.size=Nat.add s.b s.m:=S.size
 have get: ∀ (i:Nat) (x:Nat×Obj),(addD s.D (Nat.add s.b s.m,o))[i]? =some x→(s.D[i]? =some x∧i<s.D.length)∨(x=(Nat.add s.b s.m,o)∧i=s.D.length):=by
  intro i x h
  rw [addD_eq] at h
  by_cases hi:i<s.D.length
  ·rw [List.getElem?_append_left hi] at h; exact .inl ⟨h,hi⟩
  ·rw [List.getElem?_append_right (by lia)] at h
   have:i - s.D.length=0:=by
    cases hk:i - s.D.length with
    | zero=>rfl
    | succ k=>rw [hk] at h; simp at h
   rw [this] at h
   simp at h
   exact .inr ⟨h.symm,by lia⟩
 refine ⟨?_,S.toks,S.gens,S.os,fun a x h=>Heap.get?_push_of_some _ (S.kt a x h),fun i x h=>?_,fun i j x y hx hy e=>?_,fun i x h=>?_,fun b x h hm=>Heap.get?_push_of_some _ (S.keep b x h hm),fun i x h=>?_,?_,S.t849,S.t0⟩
 ·show (sh.heap.push o).objs.size=s.b+(s.m+1)
  rw [Heap.size_push,S.size]; lia
 ·rcases get i x h with ⟨h,_⟩ | ⟨rfl,_⟩
  ·exact Heap.get?_push_of_some _ (S.own i x h)
  ·show (sh.heap.push o).get? (Nat.add s.b s.m)=some o
   rw [←sz]; exact Heap.get?_push_size _ hf'
 ·rcases get i x hx with ⟨hx,_⟩ | ⟨rfl,hi⟩<;>rcases get j y hy with ⟨hy,_⟩ | ⟨rfl,hj⟩
  ·exact S.apart i j x y hx hy e
  ·exfalso
   have:=Heap.lt_size (S.own i x hx)
   rw [sz] at this; rw [e] at this; exact Nat.lt_irrefl _ this
  ·exfalso
   have:=Heap.lt_size (S.own j y hy)
   rw [sz] at this; rw [←e] at this; exact Nat.lt_irrefl _ this
  ·lia
 ·rcases get i x h with ⟨h,_⟩ | ⟨rfl,_⟩
  ·exact S.ktno i x h
  ·show V.kt.get (Nat.add s.b s.m)=none
   cases q:V.kt.get (Nat.add s.b s.m) with
   | none=>rfl
   | some o'=>
    exfalso
    have:=Heap.lt_size (S.kt _ _ q)
    rw [sz] at this; exact Nat.lt_irrefl _ this
 ·rcases get i x h with ⟨h,_⟩ | ⟨rfl,_⟩
  ·exact S.muD i x h
  ·exact .inr S.grow
 ·show V.h₀.objs.size≤s.b+(s.m+1)
  have:=S.grow; lia
theorem Sat.update (S:Sat V s sh) {i:Nat} {x:Nat×Obj} (h:getD s.D i=some x) {f:Obj→Obj} (hf:isFr (f x.2)=false) (l:List (Nat×Nat)):
  Sat V ⟨setD s.D i (f x.2),s.b,s.m,s.tb,s.ti,l⟩ {sh with heap:=sh.heap.update x.1 f} :=by
 rw [getD_eq] at h
 have hx:=S.own i x h
 have hf':(f x.2).isFreed=false:=(isFr_eq _).trans hf
 have get: ∀ (j:Nat) (y:Nat×Obj),(setD s.D i (f x.2))[j]? =some y→∃ z,s.D[j]? =some z∧z.1=y.1∧(if i=j then y.2=f x.2∧z=x else y=z):=by
  intro j y hy
  rw [setD_eq,List.getElem?_modify] at hy
  cases q:s.D[j]? with
  | none=>rw [q] at hy; simp at hy
  | some z=>
   rw [q] at hy
   by_cases e:i=j
   ·subst e
    rw [h] at q
    cases q
    simp at hy
    subst hy
    exact ⟨x,rfl,rfl,by simp⟩
   ·simp [e] at hy
    subst hy
    exact ⟨z,rfl,rfl,by simp [e]⟩
 have other: ∀ b o,b≠x.1→sh.heap.get? b=some o→(sh.heap.update x.1 f).get? b=some o:=fun b o hb e=>Heap.get?_update_of_ne f (Ne.symm hb) e
 refine ⟨?_,S.toks,S.gens,S.os,fun a o e=>?_,fun j y hy=>?_,fun j k y z hy hz e=>?_,fun j y hy=>?_,fun b o e hm=>?_,fun j y hy=>?_,S.grow,S.t849,S.t0⟩
 ·show (sh.heap.update x.1 f).objs.size=_
  rw [Heap.size_after_update]; exact S.size
 ·refine other a o ?_ (S.kt a o e)
  rintro rfl
  rw [S.ktno i x h] at e; cases e
 ·refine x5 (get j y hy) fun z hz e1 e2=>?_
  by_cases q:i=j
  ·rw [if_pos q] at e2
   refine x2 e2 fun e2 hr1=>?_; subst hr1
   show (sh.heap.update z.1 f).get? y.1=some y.2
   rw [←e1,e2]
   exact Heap.get?_update_self f hx hf'
  ·rw [if_neg q] at e2
   subst e2
   refine other _ _ ?_ (S.own j y hz)
   intro e
   exact q (S.apart i j x y h hz e.symm)
 ·refine x5 (get j y hy) fun y' hy' e1 zz=>?_
  refine x5 (get k z hz) fun z' hz' e2 zz=>?_
  exact S.apart j k y' z' hy' hz' (by rw [e1,e2]; exact e)
 ·refine x5 (get j y hy) fun z hz e1 zz=>?_
  rw [←e1]; exact S.ktno j z hz
 ·refine other b o ?_ (S.keep b o e hm)
  rintro rfl
  rcases S.muD i x h with q | q
  ·exact hm q
  ·exact absurd (Heap.lt_size e) (Nat.not_lt.mpr q)
 ·refine x5 (get j y hy) fun z hz e1 zz=>?_
  rw [←e1]; exact S.muD j z hz
end
theorem mark_handled (A:Around) (hd:Option Value):(A.mark hd).handled=orH hd A.handled:=by
 cases hd<;>rfl
theorem hdlOf_eq {V:Sv} : ∀ κ,hdlOf V.ev κ=(aro V κ).handled
 | .top none=>rfl
 | .top (some c)=>rfl
 | .ret n hd c k κ=>by
  cases hd with
  | none=>
   show hdlOf V.ev κ=_
   rw [hdlOf_eq κ]; rfl
  | some x=>rfl
 | .seq k κ=>hdlOf_eq κ
theorem ncal_spec {c:Code} (h:ncal c=true):c.isCaller=false:=by
 unfold Code.isCaller
 split
 ·rename_i x
  unfold ncal at h
  simp at h
 ·rfl
theorem ite_le {c:Prop} [Decidable c] {a b n:Nat} (h1:a≤n) (h2:b≤n):(if c then a else b)≤n:=by split<;>assumption
theorem dite_le {c:Prop} [d:Decidable c] {n:Nat} {a:c→Nat} {b: ¬ c→Nat} (h1: ∀ h,a h≤n) (h2: ∀ h,b h≤n):(dite c a b)≤n:=match d with
 | .isTrue h=>h1 h
 | .isFalse h=>h2 h
theorem frames_le (c:Code):c.frames≤3:=by
 have d: ∀ c:Code,(if c.isFrame then 1 else 0)≤3:=fun c=>ite_le (by decide) (by decide)
 cases c with
 | builtin id a=>
  show Code.frames.match_1 (fun zz=>Nat) (Code.builtin id a) _ _ _ _ _ _ _ _ _ _≤3
  delta Code.frames.match_1 Code.frames._sparseCasesOn_1
  dsimp only
  iterate 9 refine dite_le (fun h=>by subst h; decide) fun zz=>?_
  exact d _
 | _=>unfold Code.frames; exact d _
theorem weight_le {c:Code} (h:ncal c=true):c.weight≤5:=by
 unfold Code.weight
 rw [ncal_spec h]
 have:=frames_le c
 (repeat' split)<;>first | lia | simp_all<;>lia
theorem units_le (c:Code):c.cUnits≤10:=by
 have:=frames_le c
 unfold Code.cUnits
 split<;>lia
theorem aro_le {V:Sv} : ∀ κ,Wf κ→(aro V κ).depth≤V.A.depth+5 * (kn κ+1)∧(aro V κ).units≤V.A.units+10 * (kn κ+1)
 | .top none,_=>by
  show V.A.depth≤_∧V.A.units≤_
  simp [kn]
 | .top (some c),h=>by
  have h1:=weight_le (show ncal c=true from h)
  have h2:=units_le c
  show V.A.depth+c.weight≤_∧V.A.units+c.cUnits≤_
  simp only [kn]; lia
 | .ret n hd c k κ,h=>by
  refine x13 h fun h1 zz h3 h4=>?_; clear h
  have z:=aro_le (V:=V) κ h4
  have h5:=weight_le h3
  have h6:=units_le c
  show (aro V κ).depth+c.weight≤_∧(aro V κ).units+c.cUnits≤_
  simp only [kn]; lia
 | .seq k κ,h=>aro_le (V:=V) κ h
theorem wf_le: ∀ κ,Wf κ→kn κ≤50
 | .top _,_=>Nat.zero_le _
 | .ret _ _ _ _ _,h=>h.2.1
 | .seq _ κ,h=>wf_le κ h
theorem limit_wp {M:Model} {Γ:Ctx} {A:Around} {p:Pos} {s:Shared} {post:Sem Fin} {Q:Fin→Pos→Shared→Prop} {E:Value→Pos→Shared→Prop} (hΓ:Γ.In A) (hd:A.depth<recursionLimit)
  (h:Sem.wp M Γ (currentRecursionLimit>>=fun l=>lim l post) Q E p s):Sem.wp M Γ (enterFrame 0>>=fun zz=>post) Q E p s:=by
 have key:Sem.wp M Γ currentRecursionLimit (fun n p' s'=>n=1000∧Sem.wp M Γ post Q E p' s') E p s:=by
  rw [Sem.wp_bind'] at h
  refine Sem.wp_mono M Γ _ (fun n p' s' h'=>?_) (fun zz zz zz h'=>h') p s h
  unfold lim at h'
  by_cases e:n=1000
  ·subst e
   exact ⟨rfl,h'⟩
  ·have:Nat.beq n 1000=false:=by
    cases q:Nat.beq n 1000 with
    | false=>rfl
    | true=>exact absurd (Nat.eq_of_beq_eq_true q) e
   rw [this] at h'
   rw [Sem.wp_unsupported] at h'
   exact h'.elim
 have hsum:((((Γ.code,p)::Γ.below).map (·.1)).map (·.frames)).sum+((((Γ.code,p)::Γ.below).map (·.1)).filter Code.isCreation).length<recursionLimit:=by
  have hge:=frameCount_ge ((Γ.code,p)::Γ.below)
  rw [frameCount_cons] at hge
  have:=hΓ.2.1
  lia
 rw [Sem.wp_bind']
 simp only [enterFrame,Sem.wp_bind']
 show Sem.wp M Γ currentRecursionLimit _ E p s
 refine Sem.wp_mono M Γ _ (fun n p' s' h'=>?_) (fun zz zz zz h'=>h') p s key
 obtain ⟨rfl,h'⟩:=h'
 have hn:=not_nearTheLimit (p:=p) hΓ hd
 have hlt: ¬ ((((Γ.code,p)::Γ.below).map (·.1)).map (·.frames)).sum - 0 ≥ 1000:=by
  have:recursionLimit=1000:=rfl
  lia
 have hlt': ¬ ((((Γ.code,p)::Γ.below).map (·.1)).map (·.frames)).sum - 0+((((Γ.code,p)::Γ.below).map (·.1)).filter Code.isCreation).length ≥ 1000:=by
  have:recursionLimit=1000:=rfl
  lia
 show Sem.wp M Γ (if nearTheLimitUnderAClaim (((Γ.code,p)::Γ.below).map (·.1)) (((((Γ.code,p)::Γ.below).map (·.1)).map (·.frames)).sum - 0+((((Γ.code,p)::Γ.below).map (·.1)).filter Code.isCreation).length) 1000=true then _ else _) _ _ p' s'
 rw [if_neg (by rw [Nat.sub_zero]; rw [show (1000:Nat)=recursionLimit from rfl,hn]; exact Bool.false_ne_true)]
 show Sem.wp M Γ (if ((((Γ.code,p)::Γ.below).map (·.1)).map (·.frames)).sum - 0 ≥ 1000 then _ else _) _ _ p' s'
 rw [if_neg hlt]
 show Sem.wp M Γ (if ((((Γ.code,p)::Γ.below).map (·.1)).map (·.frames)).sum - 0+((((Γ.code,p)::Γ.below).map (·.1)).filter Code.isCreation).length ≥ 1000 then _ else _) _ _ p' s'
 rw [if_neg hlt']
 exact h'
theorem limit_le {M:Model} {Γ:Ctx} {A:Around} (hΓ:Γ.In A) (hd:A.depth<recursionLimit):LeS M Γ crlY eF:=by
 intro Q E p s h
 have key:Sem.wp M Γ currentRecursionLimit (fun n p' s'=>n=1000∧Q () p' s') E p s:=by
  unfold crlY at h
  rw [←PySem.W.R.bindR_eq,←PySem.W.Fast.te2211186353215096513,Sem.wp_bind] at h
  refine Sem.wp_mono M Γ _ (fun n p' s' h'=>?_) (fun zz zz zz h'=>h') p s h
  unfold limU at h'
  by_cases e:n=1000
  ·subst e
   exact ⟨rfl,h'⟩
  ·have:Nat.beq n 1000=false:=by
    cases q:Nat.beq n 1000 with
    | false=>rfl
    | true=>exact absurd (Nat.eq_of_beq_eq_true q) e
   rw [this] at h'
   exact (show False from h').elim
 have hsum:((((Γ.code,p)::Γ.below).map (·.1)).map (·.frames)).sum+((((Γ.code,p)::Γ.below).map (·.1)).filter Code.isCreation).length<recursionLimit:=by
  have hge:=frameCount_ge ((Γ.code,p)::Γ.below)
  rw [frameCount_cons] at hge
  have:=hΓ.2.1
  lia
 show Sem.wp M Γ (PySem.W.Fast.tw15066281185411960212 0) Q E p s
 rw [←PySem.W.Fast.te15066281185411960212]
 simp only [enterFrame,Sem.wp_bind']
 show Sem.wp M Γ currentRecursionLimit _ E p s
 refine Sem.wp_mono M Γ _ (fun n p' s' h'=>?_) (fun zz zz zz h'=>h') p s key
 obtain ⟨rfl,h'⟩:=h'
 have hn:=not_nearTheLimit (p:=p) hΓ hd
 have hlt: ¬ ((((Γ.code,p)::Γ.below).map (·.1)).map (·.frames)).sum - 0 ≥ 1000:=by
  have:recursionLimit=1000:=rfl
  lia
 have hlt': ¬ ((((Γ.code,p)::Γ.below).map (·.1)).map (·.frames)).sum - 0+((((Γ.code,p)::Γ.below).map (·.1)).filter Code.isCreation).length ≥ 1000:=by
  have:recursionLimit=1000:=rfl
  lia
 show Sem.wp M Γ (if nearTheLimitUnderAClaim (((Γ.code,p)::Γ.below).map (·.1)) (((((Γ.code,p)::Γ.below).map (·.1)).map (·.frames)).sum - 0+((((Γ.code,p)::Γ.below).map (·.1)).filter Code.isCreation).length) 1000=true then _ else _) _ _ p' s'
 rw [if_neg (by rw [Nat.sub_zero]; rw [show (1000:Nat)=recursionLimit from rfl,hn]; exact Bool.false_ne_true)]
 show Sem.wp M Γ (if ((((Γ.code,p)::Γ.below).map (·.1)).map (·.frames)).sum - 0 ≥ 1000 then _ else _) _ _ p' s'
 rw [if_neg hlt]
 show Sem.wp M Γ (if ((((Γ.code,p)::Γ.below).map (·.1)).map (·.frames)).sum - 0+((((Γ.code,p)::Γ.below).map (·.1)).filter Code.isCreation).length ≥ 1000 then _ else _) _ _ p' s'
 rw [if_neg hlt']
 rw [Sem.wp_pure']
 exact h'
theorem codeS {M:Model} {Γ:Ctx} {A:Sem Str} {B:Value→Sem Str} {cd:Value} {Q:Str→Pos→Shared→Prop} {E:Value→Pos→Shared→Prop} {p:Pos} {s:Shared} :cd≠ .none→Sem.wp M Γ (match cd with | .none=>A | c=>B c) Q E p s→Sem.wp M Γ (B cd) Q E p s:=by
 cases cd<;>first | exact fun zz=>id | exact fun h=>absurd rfl h
theorem codeF {M:Model} {Γ:Ctx} {A:Sem Fin} {B:Value→Sem Fin} {cd:Value} {Q:Fin→Pos→Shared→Prop} {E:Value→Pos→Shared→Prop} {p:Pos} {s:Shared} :cd≠ .none→Sem.wp M Γ (B cd) Q E p s→Sem.wp M Γ (match cd with | .none=>A | c=>B c) Q E p s:=by
 cases cd<;>first | exact fun zz=>id | exact fun h=>absurd rfl h
theorem callFn_ok {M:Model} {A:Around} (hd:A.depth<recursionLimit) {a:Addr} {o:Obj} {fd:FuncData} {args:Args} {s:Shared} {Q:Fin→Shared→Prop} {E:Value→Shared→Prop}
  (ho:s.heap.get? a=some o) (hf:o.data= .func fd) (h:wpAny M A (callFn a fd args) Q E s):wpAny M A (den (.call (.ref a) args)) Q E s:=by
 rw [←den_eq]
 unfold callFn at h
 rw [←PySem.W.Fast.te6609576154772507232,←PySem.W.Fast.te9782568553167038054,←PySem.W.Fast.te11113344188204177931,←PySem.W.Fast.te2211186353215096513] at h
 simp only [←PySem.W.R.bindR_eq] at h
 show wpAny M A (callAny (.ref a) args) Q E s
 unfold callAny
 refine wpAny_bind (wpAny_load ho ?_)
 rw [hf]
 show wpAny M A (callFunction a fd args) Q E s
 unfold callFunction
 intro Γ p hΓ
 have h:=h Γ p hΓ
 have hs:(".<locals>." :Str)=Str.mk (Array.mk [46,60,108,111,99,97,108,115,62,46]):=by decide+kernel
 rw [←hs] at h
 rw [Sem.wp_bind] at h
 have J: ∀ (cd:Value) (compiled:Str) (p:Pos) (s:Shared),
   Sem.wp M Γ ((bindArgs fd args).bind fun binds=>(newFunctionEnv fd.scope fd.globals fd.closure binds (compiled++(".<locals>." :Str)) (some a) cd none fd.builtins).bind fun env=>
    currentRecursionLimit.bind fun limit=>lim limit (match fd.scope.isGenerator,fd.scope.isCoroutine with
     | false,false=>Sem.pure (.again (match fd.body with | .stmts b=>Code.func b env | .expr e=>Code.expr e env))
     | _,_=>.unsupported "callFn")) (fun a zz s'=>Q a s') (fun e zz s'=>E e s') p s→
   Sem.wp M Γ (bindArgs fd args>>=fun binds=>newFunctionEnv fd.scope fd.globals fd.closure binds (compiled++(".<locals>." :Str)) (some a) cd none fd.builtins>>=fun env=>
    enterFrame 0>>=fun zz=>(match fd.scope.isGenerator,fd.scope.isCoroutine with
     | false,false=>again (match fd.body with | .stmts b=>Code.func b env | .expr e=>Code.expr e env)
     | true,false=>newGenerator (match fd.body with | .stmts b=>Code.func b env | .expr e=>Code.expr e env) fd.name fd.qualname>>=fun v=>ret v
     | false,true=>newCoroutine (match fd.body with | .stmts b=>Code.func b env | .expr e=>Code.expr e env) fd.name fd.qualname>>=fun v=>ret v
     | true,true=>newAsyncGenerator (match fd.body with | .stmts b=>Code.func b env | .expr e=>Code.expr e env) fd.name fd.qualname>>=fun v=>ret v)) (fun a zz s'=>Q a s') (fun e zz s'=>E e s') p s:=by
  intro cd compiled p s h
  rw [Sem.wp_bind] at h
  rw [Sem.wp_bind']
  refine Sem.wp_mono M Γ _ (fun binds p s h=>?_) (fun zz zz zz h=>h) p s h
  rw [Sem.wp_bind] at h
  rw [Sem.wp_bind']
  refine Sem.wp_mono M Γ _ (fun env p s h=>?_) (fun zz zz zz h=>h) p s h
  refine limit_wp hΓ hd ?_
  show Sem.wp M Γ (currentRecursionLimit.bind fun l=>lim l _) _ _ p s
  rw [Sem.wp_bind] at h ⊢
  refine Sem.wp_mono M Γ _ (fun l p s h=>?_) (fun zz zz zz h=>h) p s h
  unfold lim at h ⊢
  cases hb:Nat.beq l 1000 with
  | false=>
   rw [hb] at h
   exact (show False from h).elim
  | true=>
   rw [hb] at h
   dsimp only at h ⊢
   cases q1:fd.scope.isGenerator<;>cases q2:fd.scope.isCoroutine<;>rw [q1,q2] at h<;>dsimp only at h
   ·exact h
   all_goals exact (show False from h).elim
 generalize fd.code=cd at h ⊢
 by_cases hn:cd= .none
 ·subst hn; exact J _ _ p s h
 ·refine codeF hn ?_
  have h:=codeS hn h
  rw [Sem.wp_bind] at h
  rw [Sem.wp_bind']
  refine Sem.wp_mono M Γ _ (fun v p s h=>?_) (fun zz zz zz h=>h) p s h
  cases v<;>exact J _ _ p s h
section
variable {M:Model} {A:Around} {Q:Fin→Shared→Prop} {E:Value→Shared→Prop} {s:Shared}
theorem w_load {a:Addr} {q:Option Value} {k:Obj→Sem Fin} {o:Obj} (ho:s.heap.get? a=some o) (h:wpAny M A (k o) Q E s):wpAny M A (.load a q k) Q E s:=
 wpAny_bind (m:=loadPart a q) (f:=k) (wpAny_loadPart ho h)
theorem w_alive {a:Addr} {k:Option Obj→Sem Fin} {o:Obj} (ho:s.heap.get? a=some o) (h:wpAny M A (k (some o)) Q E s):wpAny M A (.loadIfAlive a k) Q E s:=fun Γ p hΓ=>by
 show Sem.wp _ _ (k (s.heap.get? a)) _ _ _ _
 rw [ho]; exact h Γ p hΓ
theorem w_alloc {o:Obj} {k:Addr→Sem Fin} (h:wpAny M A (k s.heap.objs.size) Q E {s with heap:=s.heap.push o}):wpAny M A (.alloc o k) Q E s:=
 wpAny_bind (m:=alloc o) (f:=k) (wpAny_alloc h)
theorem w_update {a:Addr} {q:Option Value} {f:Obj→Obj} {k:Unit→Sem Fin} {o:Obj} (ho:s.heap.get? a=some o) (h:wpAny M A (k ()) Q E {s with heap:=s.heap.update a f}):wpAny M A (.update a q f k) Q E s:=
 wpAny_bind (m:=updatePart a q f) (f:=k) (wpAny_updatePart ho h)
theorem w_fresh {k:Tok→Sem Fin} (h:wpAny M A (k s.toks) Q E {s with toks:=s.toks+1}):wpAny M A (.fresh k) Q E s:=
 wpAny_bind (m:=fresh) (f:=k) (wpAny_fresh h)
theorem w_handled {k:Option Value→Sem Fin} (h:wpAny M A (k A.handled) Q E s):wpAny M A (.handled false k) Q E s:=
 wpAny_bind (m:=handled) (f:=k) (wpAny_handled h)
theorem w_call {c:Code} {hd:Option Value} {g:Bool} {l:List Value} {k:Result→Sem Fin} (hnb:hd≠some byPass) (h:codeAny M (A.mark hd) c (fun r s'=>wpAny M A (k r) Q E s') s):wpAny M A (.call c hd g l k) Q E s:=fun Γ p hΓ=>by
 rw [Sem.wp_call]
 exact wpCode_mono (fun r s' h'=>h' Γ p hΓ) (h _ p rfl (hΓ.enter c hd p hnb))
end
theorem quiet_eq:quiet=Code.quiet:=PySem.W.ZFast.ze17772548960776305114.symm
theorem nak_spec {hd:Option Value} (h:nak hd=true):hd≠some byPass:=by
 rintro rfl
 simp [nak,byPass] at h
section
variable {V:Sv} {h₀:Heap} {mu:Nat→Prop} {os:OsState} {t₀:Nat}
theorem aro_re: ∀ κ,aro (V.re h₀ mu os t₀) κ=aro V κ
 | .top none=>rfl
 | .top (some _)=>rfl
 | .ret _ hd c _ κ=>by
  show ((aro (V.re h₀ mu os t₀) κ).mark hd).under c=((aro V κ).mark hd).under c
  rw [aro_re κ]
 | .seq _ κ=>aro_re κ
theorem fins_re (κ:Kt) (R:Result→Shared→Prop):fins (V.re h₀ mu os t₀) κ R=fins V κ R:=by
 funext f sh
 cases f with
 | done f=>rfl
 | again c=>
  cases κ with
  | top c'=>cases c'<;>rfl
  | ret n hd c' k κ=>
   show (_∧codeAny V.M ((aro (V.re h₀ mu os t₀) κ).mark hd) c R sh)=(_∧codeAny V.M ((aro V κ).mark hd) c R sh)
   rw [aro_re κ]
  | seq k κ=>rfl
theorem endP_re: ∀ κ,endP (V.re h₀ mu os t₀) κ=endP V κ
 | .top _=>rfl
 | .ret _ hd c k κ=>by
  funext r sh
  show wpAny V.M (aro (V.re h₀ mu os t₀) κ) (k r) (fins (V.re h₀ mu os t₀) κ (endP (V.re h₀ mu os t₀) κ)) (fun e sh=>endP (V.re h₀ mu os t₀) κ (.error e) sh) sh=wpAny V.M (aro V κ) (k r) (fins V κ (endP V κ)) (fun e sh=>endP V κ (.error e) sh) sh
  rw [aro_re κ,endP_re κ,fins_re κ]
 | .seq k κ=>by
  funext r sh
  cases r with
  | ok f=>
   show (∀ (Γ:Ctx) (p:Pos),Γ.In (aro (V.re h₀ mu os t₀) κ)→wpP V.M Γ (fun fin zz sh=>fins (V.re h₀ mu os t₀) κ (endP (V.re h₀ mu os t₀) κ) fin sh) (k f) p sh)=(∀ (Γ:Ctx) (p:Pos),Γ.In (aro V κ)→wpP V.M Γ (fun fin zz sh=>fins V κ (endP V κ) fin sh) (k f) p sh)
   rw [aro_re κ,endP_re κ,fins_re κ]
  | error e=>rfl
theorem mean_re {κ:Kt} {t:Sem Fin} {sh:Shared} (h:Mean (V.re h₀ mu os t₀) κ t sh):Mean V κ t sh:=by
 unfold Mean at h ⊢
 rw [aro_re,endP_re,fins_re] at h
 exact h
end
section
variable {V:Sv} {go:Go}
theorem goP_ok' {go:Go} {κ:Kt} (W:Wf κ): ∀ {V:Sv} (_: ∀ h₀ mu os t₀ κ t hs s,Ok (V.re h₀ mu os t₀) (go κ t hs s)→∀ sh,Sat (V.re h₀ mu os t₀) s sh→Wf κ→Mean (V.re h₀ mu os t₀) κ t sh) {pt:PT} {hs:List Nat} {s:St},Ok V (goP V.ev go κ pt hs s)→∀ {sh:Shared},Sat V s sh→
  ∀ (Γ:Ctx) (p:Pos),Γ.In (aro V κ)→wpP V.M Γ (fun fin zz sh=>fins V κ (endP V κ) fin sh) pt p sh
 | _,_,.no,_,_,h,_,_,_,_,_=>(h:False).elim
 | V,ih,.fin f,hs,s,h,sh,S,Γ,p,hΓ=>by
  have z:=ih V.h₀ V.mu V.os V.t₀ _ _ _ _ h sh S W Γ p hΓ
  rw [Sem.wp_pure] at z
  exact z
 | V,ih,.lib t k,hs,s,h,sh,S,Γ,p,hΓ=>by
  have z:=ih V.h₀ V.mu V.os V.t₀ (.seq k κ) _ _ _ h sh S W Γ p hΓ
  rw [←PySem.W.R.bindR_eq,Sem.wp_bind] at z
  refine Sem.wp_mono _ _ _ (fun f p s' h=>?_) (fun zz zz zz h=>h) p sh z
  rw [Sem.wp_pure] at h
  exact h Γ p hΓ
 | V,ih,.cut t k,hs,s,h,sh,S,Γ,p,hΓ=>by
  have z:=h.2 sh S (aro V κ) (hdlOf_eq κ).symm (aro_le (V:=V) κ W).1 (aro_le (V:=V) κ W).2 Γ p hΓ
  refine Sem.wp_mono _ _ _ (fun v p s' h=>?_) (fun zz zz zz h=>h) p sh z
  refine x41 h fun h₀ mu os t₀ hs' s'' S' h'=>?_; clear h
  have y:=goP_ok' W (V:=V.re h₀ mu os t₀) (fun a b c d=>ih a b c d) h' S' Γ p (by rw [aro_re]; exact hΓ)
  rw [endP_re,fins_re] at y
  exact y
theorem goP_ok (ih: ∀ h₀ mu os t₀ κ t hs s,Ok (V.re h₀ mu os t₀) (go κ t hs s)→∀ sh,Sat (V.re h₀ mu os t₀) s sh→Wf κ→Mean (V.re h₀ mu os t₀) κ t sh) {κ:Kt} (W:Wf κ) {pt:PT} {hs:List Nat} {s:St} (h:Ok V (goP V.ev go κ pt hs s)) {sh:Shared} (S:Sat V s sh)
  (Γ:Ctx) (p:Pos) (hΓ:Γ.In (aro V κ)):wpP V.M Γ (fun fin zz sh=>fins V κ (endP V κ) fin sh) pt p sh:=goP_ok' W ih h S Γ p hΓ
theorem mean_le {κ:Kt} {t' t:Sem Fin} {sh:Shared} (h: ∀ {M:Model} {Γ:Ctx},LeS M Γ t' t) (z:Mean V κ t' sh):Mean V κ t sh:=fun Γ p hΓ=>h _ _ _ _ (z Γ p hΓ)
theorem enterD_ok (ih: ∀ h₀ mu os t₀ κ t hs s,Ok (V.re h₀ mu os t₀) (go κ t hs s)→∀ sh,Sat (V.re h₀ mu os t₀) s sh→Wf κ→Mean (V.re h₀ mu os t₀) κ t sh) (hl: ∀ κ t hs s,Ok V (go κ t hs s)→AllEq s.lg) (hA:V.A.depth+290<recursionLimit)
  {κ:Kt} {c:Code} {hs:List Nat} {s:St} (h:Ok V (enterD V.ev go κ c hs s)) {sh:Shared} (S:Sat V s sh) (W:Wf κ):Mean V κ (den c) sh:=by
 have hd:(aro V κ).depth<recursionLimit:=by
  have:=(aro_le (V:=V) κ W).1
  have:=wf_le κ W
  lia
 have J: ∀ {s:St} {t:Sem Fin} {hs:List Nat},Ok V (go κ t hs s)→Sat V s sh→Mean V κ t sh:=fun h S=>ih V.h₀ V.mu V.os V.t₀ _ _ _ _ h sh S W
 cases c with
 | call f args=>
  cases f with
  | ref a=>
   refine rsL h fun x hs h=>?_
   refine rsN h (fun h=>?_) fun i h=>?_
   ·refine rsO h fun o e h=>?_
    cases d:o.data with
    | func fd=>rw [d] at h; exact callFn_ok hd (S.kt a o e) d (J h S)
    | _=>rw [d] at h; exact J h S
   ·refine rsD h fun x e h=>?_
    cases d:x.2.data with
    | func fd=>rw [d] at h; exact callFn_ok hd ((hl _ _ _ _ h).head▸S.at e) d (J h (S.lg _))
    | _=>rw [d] at h; exact J h (S.lg _)
  | _=>exact J h S
 | _=>exact mean_le (denX_le _) (J h S)
theorem enter_ok (ih: ∀ h₀ mu os t₀ κ t hs s,Ok (V.re h₀ mu os t₀) (go κ t hs s)→∀ sh,Sat (V.re h₀ mu os t₀) s sh→Wf κ→Mean (V.re h₀ mu os t₀) κ t sh) (hl: ∀ κ t hs s,Ok V (go κ t hs s)→AllEq s.lg) (hA:V.A.depth+290<recursionLimit)
  {κ:Kt} {c:Code} {hs:List Nat} {s:St} (h:Ok V (enter V.ev go κ c hs s)) {sh:Shared} (S:Sat V s sh) (W:Wf κ):Mean V κ (den c) sh:=by
 unfold enter at h
 split at h
 ·rename_i p e
  intro Γ q hΓ
  rw [←den_eq]
  have hd:(aro V κ).depth<recursionLimit:=by
   have:=(aro_le (V:=V) κ W).1
   have:=wf_le κ W
   lia
  exact pat_ok (limit_le hΓ hd) e (goP_ok ih W h S Γ q hΓ)
 ·exact enterD_ok ih hl hA h S W
theorem retS_ok (ih: ∀ h₀ mu os t₀ κ t hs s,Ok (V.re h₀ mu os t₀) (go κ t hs s)→∀ sh,Sat (V.re h₀ mu os t₀) s sh→Wf κ→Mean (V.re h₀ mu os t₀) κ t sh)
  {κ:Kt} {r:Result} {hs:List Nat} {s:St} (h:Ok V (retS V.ev go κ r hs s)) {sh:Shared} (S:Sat V s sh) (W:Wf κ):endP V κ r sh:=by
 unfold retS at h
 split at h
 ·exact h.2 sh S
 ·exact ih V.h₀ V.mu V.os V.t₀ _ _ _ _ h sh S W.2.2.2
 ·split at h
  ·rename_i k κ' _ f
   exact fun Γ p hΓ=>goP_ok (κ:=κ') ih W h S Γ p hΓ
  ·exact (h:False).elim
theorem step_ok (ih: ∀ h₀ mu os t₀ κ t hs s,Ok (V.re h₀ mu os t₀) (go κ t hs s)→∀ sh,Sat (V.re h₀ mu os t₀) s sh→Wf κ→Mean (V.re h₀ mu os t₀) κ t sh) (hl: ∀ κ t hs s,Ok V (go κ t hs s)→AllEq s.lg) (hA:V.A.depth+290<recursionLimit)
  {κ:Kt} {t:Sem Fin} {hs:List Nat} {s:St} (h:Ok V (step V.ev go κ t hs s)) {sh:Shared} (S:Sat V s sh) (W:Wf κ):Mean V κ t sh:=by
 have J: ∀ {κ:Kt} {s:St} {t:Sem Fin} {hs:List Nat} {sh:Shared},Ok V (go κ t hs s)→Sat V s sh→Wf κ→Mean V κ t sh:=fun h S W=>ih V.h₀ V.mu V.os V.t₀ _ _ _ _ h _ S W
 have stop: ∀ {κ:Kt} {c:Code} {hd:Option Value} {k:Result→Sem Fin},Wf κ→Ok V (.stop (kn κ) c (orH hd (hdlOf V.ev κ)) s fun hs r s=>go κ (k r) hs s)→codeAny V.M ((aro V κ).mark hd) c (fun r sh'=>Mean V κ (k r) sh') sh:=fun {κ c hd k} W h=>by
  have z:=h.2 sh S ((aro V κ).mark hd) (by rw [mark_handled,hdlOf_eq]) (aro_le (V:=V) κ W).1 (aro_le (V:=V) κ W).2
  refine codeAny_mono z ?_
  rintro r sh' ⟨_,_,_,_,hs',s',S',h'⟩
  exact mean_re (ih _ _ _ _ _ _ _ _ h' sh' S' W)
 cases t with
 | pure fin=>
  cases fin with
  | done f=>exact wpAny_pure (show fins V κ (endP V κ) (.done f) sh from retS_ok ih h S W)
  | again c=>
   refine wpAny_pure ?_
   refine rsB h fun q h=>?_
   refine ⟨by rw [←quiet_eq]; exact q,?_⟩
   refine rsL h fun x hs h=>?_
   refine rsN h (fun h=>?_) fun x h=>?_
   ·refine rsB h fun qn h=>?_
    cases κ with
    | top c'=>
     cases c' with
     | none=>exact (h:False).elim
     | some c'=>
      have z:=enter_ok ih hl hA h S (show Wf (.top (some c)) from qn)
      refine codeAny_of_tree ?_
      show wpAny V.M (V.A.under c) (denote table c) _ _ sh
      rw [den_eq]
      exact wpAny_mono z (fun fin s' hf=>by cases fin<;>exact hf) fun zz zz he=>he
    | ret n hd c' k κ=>
     have z:=enter_ok ih hl hA h S (show Wf (.ret n hd c k κ) from ⟨W.1,W.2.1,qn,W.2.2.2⟩)
     refine codeAny_of_tree ?_
     show wpAny V.M (((aro V κ).mark hd).under c) (denote table c) _ _ sh
     rw [den_eq]
     exact wpAny_mono z (fun fin s' hf=>by cases fin<;>exact hf) fun zz zz he=>he
    | seq k κ=>exact (h:False).elim
   ·cases κ with
    | top c'=>
     cases c' with
     | none=>exact (h:False).elim
     | some c'=>exact h.2 sh S
    | ret n hd c' k κ=>exact stop W.2.2.2 h
    | seq k κ=>exact (h:False).elim
 | raise e=>exact wpAny_throw (show endP V κ (.error e) sh from retS_ok ih h S W)
 | rule tag k=>have z:=J h S W; exact z
 | «at» q k=>exact fun Γ p hΓ=>J h S W Γ q hΓ
 | point l k=>have z:=J h S W; exact z
 | ask k=>have z:=J h S W; exact z
 | load a q k=>
  refine rsL h fun x hs h=>?_
  refine rsN h (fun h=>?_) fun i h=>?_
  ·refine rsO h fun o e h=>?_
   exact w_load (S.kt a o e) (J h S W)
  ·refine rsD h fun x e h=>?_
   exact w_load ((hl _ _ _ _ h).head▸S.at e) (J h (S.lg _) W)
 | loadIfAlive a k=>
  refine rsL h fun x hs h=>?_
  refine rsN h (fun h=>?_) fun i h=>?_
  ·refine rsO h fun o e h=>?_
   exact w_alive (S.kt a o e) (J h S W)
  ·refine rsD h fun x e h=>?_
   exact w_alive ((hl _ _ _ _ h).head▸S.at e) (J h (S.lg _) W)
 | alloc o k=>
  refine rsF h fun hf h=>?_
  have z:=J h (S.alloc hf) W
  refine w_alloc ?_
  rw [S.size]
  exact z
 | update a q f k=>
  refine rsL h fun x hs h=>?_
  refine rsN h (fun h=>(h:False).elim) fun i h=>?_
  refine rsD h fun x e h=>?_
  refine rsF h fun hf h=>?_
  have z:a=x.1:=(hl _ _ _ _ h).head
  subst z
  exact w_update (S.at e) (J h (S.update e hf _) W)
 | fresh k=>
  have z:=ih V.h₀ V.mu V.os V.t₀ _ _ _ _ h _ S.fresh W
  refine w_fresh ?_
  rw [S.toks] at z ⊢
  exact z
 | handled own k=>
  cases own with
  | true=>exact (h:False).elim
  | false=>
   simp only [step] at h
   refine w_handled ?_
   rw [←hdlOf_eq]
   exact J h S W
 | call c hd g l k=>
  refine rsL h fun x hs h=>?_
  refine rsB h fun qh h=>?_
  refine w_call (nak_spec qh) ?_
  refine rsN h (fun h=>?_) fun i h=>stop W h
  refine rsB h fun qn h=>?_
  refine rsB h fun qk h=>?_
  have hk:=Nat.le_of_ble_eq_true qk
  have z:=enter_ok ih hl hA h S (show Wf (.ret (Nat.succ (kn κ)) hd c k κ) from ⟨rfl,by lia,qn,W⟩)
  refine codeAny_of_tree ?_
  show wpAny V.M (((aro V κ).mark hd).under c) (denote table c) _ _ sh
  rw [den_eq]
  exact wpAny_mono z (fun fin s' hf=>by cases fin<;>exact hf) fun zz zz he=>he
 | _=>exact (h:False).elim
end
theorem sim_ok {V:Sv} (hA:V.A.depth+290<recursionLimit): ∀ n κ t hs s,Ok V (sim V.ev n κ t hs s)→∀ sh,Sat V s sh→Wf κ→Mean V κ t sh:=by
 suffices h: ∀ n h₀ mu os t₀ κ t hs s,Ok (V.re h₀ mu os t₀) (sim V.ev n κ t hs s)→∀ sh,Sat (V.re h₀ mu os t₀) s sh→Wf κ→Mean (V.re h₀ mu os t₀) κ t sh from fun n=>h n V.h₀ V.mu V.os V.t₀
 intro n
 induction n with
 | zero=>intro _ _ _ _ _ _ _ _ h; exact (h:False).elim
 | succ n ih=>intro h₀ mu os t₀ κ t hs s h sh S W; exact step_ok (V:=V.re h₀ mu os t₀) (go:=sim V.ev n) (fun a b c d=>ih a b c d) (sim_log n) hA h S W
theorem sim_ih {V:Sv} (hA:V.A.depth+290<recursionLimit) (n:Nat): ∀ h₀ mu os t₀ κ t hs s,Ok (V.re h₀ mu os t₀) (sim V.ev n κ t hs s)→∀ sh,Sat (V.re h₀ mu os t₀) s sh→Wf κ→Mean (V.re h₀ mu os t₀) κ t sh:=
 fun h₀ mu os t₀=>sim_ok (V:=V.re h₀ mu os t₀) hA n
noncomputable def tagOf:Rs→Nat
 | .done .. =>0
 | .loop .. =>1
 | .stop .. =>2
 | .cut .. =>3
 | .bad n=>n+4
noncomputable def stOf:Rs→St
 | .done _ s=>s
 | .loop _ s=>s
 | .stop _ _ _ s _=>s
 | .cut _ _ _ s _=>s
 | .bad _=>⟨[],0,0,0,0,[]⟩
noncomputable def lgOf (R:Rs):List (Nat×Nat):=(stOf R).lg
noncomputable def resOf:Rs→Result
 | .done r _=>r
 | _=>.ok .next
noncomputable def codeOf:Rs→Code
 | .loop c _=>c
 | .stop _ c _ _ _=>c
 | _=>.call .none {}
noncomputable def hOf:Rs→Option Value
 | .stop _ _ h _ _=>h
 | .cut _ _ h _ _=>h
 | _=>none
noncomputable def nOf:Rs→Nat
 | .stop n _ _ _ _=>n
 | .cut n _ _ _ _=>n
 | _=>0
noncomputable def contOf:Rs→List Nat→Result→St→Rs
 | .stop _ _ _ _ f=>f
 | _=>fun zz zz zz=>.bad 99
noncomputable def treeOf:Rs→Sem Value
 | .cut _ t _ _ _=>t
 | _=>.pure .none
noncomputable def contC:Rs→List Nat→Value→St→Rs
 | .cut _ _ _ _ f=>f
 | _=>fun zz zz zz=>.bad 98
noncomputable def dup:List (Nat×Nat)→List (Nat×Nat)
 | []=> []
 | x::l=>(x.2,x.2)::dup l
theorem allEq_of_dup: ∀ {l:List (Nat×Nat)},l=dup l→AllEq l
 | [],_=>fun zz h=>nomatch h
 | x::l,h=>by
  have h1:x=(x.2,x.2):=(List.cons.inj h).1
  have h2:l=dup l:=(List.cons.inj h).2
  intro e he
  rcases List.mem_cons.mp he with rfl | he
  ·exact congrArg Prod.fst h1
  ·exact allEq_of_dup h2 e he
section
variable {V:Sv} {R:Rs}
theorem ok_done (h0:tagOf R=0) (hl:lgOf R=dup (lgOf R)) (h: ∀ sh,Sat V (stOf R) sh→V.R (resOf R) sh):Ok V R:=by
 cases R with
 | done r s=>exact ⟨allEq_of_dup hl,h⟩
 | _=>simp [tagOf] at h0
theorem ok_loop (h0:tagOf R=1) (hl:lgOf R=dup (lgOf R)) (h: ∀ sh,Sat V (stOf R) sh→codeAny V.M V.A (codeOf R) V.R sh):Ok V R:=by
 cases R with
 | loop c s=>exact ⟨allEq_of_dup hl,h⟩
 | _=>simp [tagOf] at h0
noncomputable def obsD (R:Rs):Nat×List (Nat×Nat)×Result:=(tagOf R,lgOf R,resOf R)
noncomputable def obsL (R:Rs):Nat×List (Nat×Nat)×Code:=(tagOf R,lgOf R,codeOf R)
noncomputable def obsS (R:Rs):Nat×List (Nat×Nat)×Option Value×Bool×Code:=(tagOf R,lgOf R,hOf R,Nat.ble (nOf R) 9,codeOf R)
theorem ok_stopR {c:Code} (ob:obsS R=(2,dup (lgOf R),none,true,c))
  (h: ∀ sh,Sat V (stOf R) sh→∀ A:Around,A.handled=none→A.depth≤V.A.depth+50→A.units≤V.A.units+100→
   codeAny V.M A c (fun r sh'=>∃ h₀ mu os t₀ hs s',Sat (V.re h₀ mu os t₀) s' sh'∧Ok (V.re h₀ mu os t₀) (contOf R hs r s')) sh):Ok V R:=by
 cases R with
 | stop n cx hx s f=>
  simp only [obsS,Prod.mk.injEq] at ob
  refine x17 ob fun zz hl hh hn hc=>?_; clear ob
  have hh:hx=none:=hh
  have hc:cx=c:=hc
  have hn:=Nat.le_of_ble_eq_true hn
  have hn:n≤9:=hn
  subst hh hc
  exact ⟨allEq_of_dup hl,fun sh S A h1 h2 h3=>h sh S A h1 (by lia) (by lia)⟩
 | _=>simp [obsS,tagOf] at ob
theorem ok_stop {c:Code} (ob:obsS R=(2,dup (lgOf R),none,true,c))
  (h: ∀ sh,Sat V (stOf R) sh→∀ A:Around,A.handled=none→A.depth≤V.A.depth+50→A.units≤V.A.units+100→
   codeAny V.M A c (fun r sh'=>∃ hs s',Sat V s' sh'∧Ok V (contOf R hs r s')) sh):Ok V R:=
 ok_stopR ob fun sh S A h1 h2 h3=>codeAny_mono (h sh S A h1 h2 h3) fun r sh' hq=>x12 hq fun hs s' S' h'=>⟨V.h₀,V.mu,V.os,V.t₀,hs,s',S',h'⟩
noncomputable def obsC (R:Rs):Nat×List (Nat×Nat)×Option Value×Bool:=(tagOf R,lgOf R,hOf R,Nat.ble (nOf R) 9)
theorem ok_cutR (ob:obsC R=(3,dup (lgOf R),none,true))
  (h: ∀ sh,Sat V (stOf R) sh→∀ A:Around,A.handled=none→A.depth≤V.A.depth+50→A.units≤V.A.units+100→
   wpAny V.M A (treeOf R) (fun v sh'=>∃ h₀ mu os t₀ hs s',Sat (V.re h₀ mu os t₀) s' sh'∧Ok (V.re h₀ mu os t₀) (contC R hs v s')) (fun zz zz=>False) sh):Ok V R:=by
 cases R with
 | cut n t hx s f=>
  simp only [obsC,Prod.mk.injEq] at ob
  refine x13 ob fun zz hl hh hn=>?_; clear ob
  have hh:hx=none:=hh
  have hn:=Nat.le_of_ble_eq_true hn
  have hn:n≤9:=hn
  subst hh
  exact ⟨allEq_of_dup hl,fun sh S A h1 h2 h3=>h sh S A h1 (by lia) (by lia)⟩
 | _=>simp [obsC,tagOf] at ob
theorem ok_cut (ob:obsC R=(3,dup (lgOf R),none,true))
  (h: ∀ sh,Sat V (stOf R) sh→∀ A:Around,A.handled=none→A.depth≤V.A.depth+50→A.units≤V.A.units+100→
   wpAny V.M A (treeOf R) (fun v sh'=>∃ hs s',Sat V s' sh'∧Ok V (contC R hs v s')) (fun zz zz=>False) sh):Ok V R:=
 ok_cutR ob fun sh S A h1 h2 h3=>wpAny_mono (h sh S A h1 h2 h3) (fun r sh' hq=>x12 hq fun hs s' S' h'=>⟨V.h₀,V.mu,V.os,V.t₀,hs,s',S',h'⟩) fun zz zz h=>h
theorem ok_end {r:Result} (ob:obsD R=(0,dup (lgOf R),r)) (h: ∀ sh,Sat V (stOf R) sh→V.R r sh):Ok V R:=by
 simp only [obsD,Prod.mk.injEq] at ob
 exact ok_done ob.1 ob.2.1 (by rw [ob.2.2]; exact h)
theorem ok_again {c:Code} (ob:obsL R=(1,dup (lgOf R),c)) (h: ∀ sh,Sat V (stOf R) sh→codeAny V.M V.A c V.R sh):Ok V R:=by
 simp only [obsL,Prod.mk.injEq] at ob
 exact ok_loop ob.1 ob.2.1 (by rw [ob.2.2]; exact h)
end
structure Ext (mu:Nat→Prop) (sh sh':Shared):Prop where
 keep: ∀ b o,sh.heap.get? b=some o→ ¬ mu b→sh'.heap.get? b=some o
 gens:sh'.gens= #[]
 os:sh'.os=sh.os
 size:sh.heap.objs.size≤sh'.heap.objs.size
 t849:849≤sh'.toks
 tk:sh.toks≤sh'.toks
noncomputable abbrev none_ (_:Nat):Prop:=False
theorem Ext.refl {mu:Nat→Prop} {sh:Shared} (h:sh.gens= #[]) (ht:849≤sh.toks):Ext mu sh sh:=⟨fun zz zz e zz=>e,h,rfl,Nat.le_refl _,ht,Nat.le_refl _⟩
theorem Ext.trans {mu:Nat→Prop} {a b c:Shared} (x:Ext mu a b) (y:Ext mu b c):Ext mu a c:=
 ⟨fun i o e h=>y.keep i o (x.keep i o e h) h,y.gens,y.os.trans x.os,Nat.le_trans x.size y.size,y.t849,Nat.le_trans x.tk y.tk⟩
theorem Ext.mono {mu mu':Nat→Prop} {a b:Shared} (x:Ext mu a b) (h: ∀ i o,a.heap.get? i=some o→mu i→mu' i∨b.heap.get? i=some o):Ext mu' a b:=
 ⟨fun i o e hn=>by
  by_cases q:mu i
  ·rcases h i o e q with q | q
   ·exact absurd q hn
   ·exact q
  ·exact x.keep i o e q,x.gens,x.os,x.size,x.t849,x.tk⟩
theorem Ext.weak {mu mu':Nat→Prop} {a b:Shared} (x:Ext mu a b) (h: ∀ i,mu i→mu' i):Ext mu' a b:=x.mono fun i zz zz q=>.inl (h i q)
theorem Sat.ext {V:Sv} {s:St} {sh sh₀:Shared} (S:Sat V s sh) (h:V.h₀=sh₀.heap) (ho:V.os=sh₀.os) (ht:V.t₀=sh₀.toks:=by rfl):Ext V.mu sh₀ sh:=
 ⟨fun b o e hn=>S.keep b o (h▸e) hn,S.gens,S.os.trans ho,by rw [←h,S.size]; exact S.grow,by rw [S.toks]; exact S.t849,by rw [←ht,S.toks]; exact S.t0⟩
theorem Sat.next {V:Sv} {s:St} {sh sh':Shared} (S:Sat V s sh) {mu:Nat→Prop} (X:Ext mu sh sh')
  (hm: ∀ b o,V.h₀.get? b=some o→mu b→V.mu b) (hk: ∀ b o,V.kt.get b=some o→ ¬ mu b)
  (D:List (Nat×Obj)) (hD: ∀ (i:Nat) (x:Nat×Obj),D[i]? =some x→sh'.heap.get? x.1=some x.2∧(V.mu x.1∨V.h₀.objs.size≤x.1)∧V.kt.get x.1=none)
  (hap: ∀ (i j:Nat) (x y:Nat×Obj),D[i]? =some x→D[j]? =some y→x.1=y.1→i=j)
  {b t:Nat} (hb:sh'.heap.objs.size=b) (ht:sh'.toks=t):Sat V ⟨D,b,0,t,0,[]⟩ sh':=
 ⟨hb,ht,X.gens,X.os.trans S.os,fun a o e=>X.keep a o (S.kt a o e) (hk a o e),fun i x e=>(hD i x e).1,hap,fun i x e=>(hD i x e).2.2,
  fun b o e hn=>X.keep b o (S.keep b o e hn) fun q=>hn (hm b o e q),fun i x e=>(hD i x e).2.1,by
   show V.h₀.objs.size≤b+0
   rw [←hb]; exact Nat.le_trans (by rw [S.size]; exact S.grow) X.size,by rw [←ht]; exact X.t849,by
   show V.t₀≤t+0
   rw [←ht]; exact Nat.le_trans (by rw [S.toks]; exact S.t0) X.tk⟩
theorem Sat.same {V:Sv} {s:St} {sh sh':Shared} (S:Sat V s sh) (X:Ext none_ sh sh') {b t:Nat} (hb:sh'.heap.objs.size=b) (ht:sh'.toks=t):Sat V ⟨s.D,b,0,t,0,[]⟩ sh':=
 S.next X (fun zz zz zz h=>h.elim) (fun zz zz zz h=>h) s.D (fun i x e=>⟨X.keep _ _ (S.own i x e) id,S.muD i x e,S.ktno i x e⟩) S.apart hb ht
theorem Sat.turn {V:Sv} {s:St} {sh sh':Shared} (S:Sat V s sh) {j:Nat} {x:Nat×Obj} (hj:getD s.D j=some x) (X:Ext (fun b=>b=x.1) sh sh') {o:Obj} (ho:sh'.heap.get? x.1=some o)
  {b t:Nat} (hb:sh'.heap.objs.size=b) (ht:sh'.toks=t):Sat V ⟨setD s.D j o,b,0,t,0,[]⟩ sh':=by
 have hj':s.D[j]? =some x:=by rw [←getD_eq]; exact hj
 have get: ∀ (i:Nat) (y:Nat×Obj),(setD s.D j o)[i]? =some y→∃ z,s.D[i]? =some z∧z.1=y.1∧(j=i→y=(x.1,o))∧(j≠i→y=z):=by
  intro i y hy
  rw [setD_eq,List.getElem?_modify] at hy
  cases q:s.D[i]? with
  | none=>rw [q] at hy; simp at hy
  | some z=>
   rw [q] at hy
   by_cases e:j=i
   ·subst e
    rw [hj'] at q
    cases q
    simp at hy
    subst hy
    exact ⟨x,rfl,rfl,fun zz=>rfl,fun h=>absurd rfl h⟩
   ·simp [e] at hy
    subst hy
    exact ⟨z,rfl,rfl,fun h=>absurd h e,fun zz=>rfl⟩
 refine S.next X (fun b o e h=>?_) (fun b o e h=>?_) _ (fun i y hy=>?_) (fun i k y z hy hz e=>?_) hb ht
 ·subst h
  rcases S.muD j x hj' with q | q
  ·exact q
  ·exact absurd (Heap.lt_size e) (Nat.not_lt.mpr q)
 ·subst h
  rw [S.ktno j x hj'] at e; cases e
 ·refine x22 (get i y hy) fun z hz e1 e2 e3=>?_
  by_cases e:j=i
  ·subst e
   rw [hj'] at hz; cases hz
   rw [e2 rfl]
   exact ⟨ho,S.muD j x hj',S.ktno j x hj'⟩
  ·rw [e3 e]
   refine ⟨X.keep _ _ (S.own i z hz) fun q=>e (S.apart j i x z hj' hz q.symm),S.muD i z hz,S.ktno i z hz⟩
 ·refine x5 (get i y hy) fun y' hy' e1 zz=>?_
  refine x5 (get k z hz) fun z' hz' e2 zz=>?_
  exact S.apart i k y' z' hy' hz' (by rw [e1,e2]; exact e)
section
variable {prog:Program} {w:World} {A:Around}
theorem code_in {R:Result→Shared→Prop} {sh:Shared} {c:Code} {k:KT} {h₀:Heap} {mu:Nat→Prop} {os:OsState} {t₀:Nat} (n:Nat) (hs:List Nat) (s:St) (hA:A.depth+290<recursionLimit) (hh:A.handled=none) (hn:ncal c=true)
  (S:Sat ⟨prog,w,A,R,k,h₀,mu,os,t₀⟩ s sh) (h:Ok ⟨prog,w,A,R,k,h₀,mu,os,t₀⟩ (enter ⟨prog,w.params,k,none⟩ (sim ⟨prog,w.params,k,none⟩ n) (.top (some c)) c hs s)):codeAny (model prog w) A c R sh:=by
 have e:(⟨prog,w.params,k,none⟩:Ev)=(⟨prog,w,A,R,k,h₀,mu,os,t₀⟩:Sv).ev:=by show _=(⟨prog,w.params,k,A.handled⟩:Ev); rw [hh]
 rw [e] at h
 have z:=enter_ok (V:=⟨prog,w,A,R,k,h₀,mu,os,t₀⟩) (sim_ih (V:=⟨prog,w,A,R,k,h₀,mu,os,t₀⟩) hA n) (sim_log n) hA h S (show Wf (.top (some c)) from hn)
 refine codeAny_of_tree ?_
 show wpAny _ (A.under c) (denote table c) _ _ sh
 rw [den_eq]
 exact wpAny_mono z (fun fin s' hf=>by cases fin<;>exact hf) fun zz zz he=>he
theorem tree_in {α:Type} {t:Sem α} {g:α→Flow} {Q:α→Shared→Prop} {E:Value→Shared→Prop} {sh:Shared} {k:KT} {h₀:Heap} {mu:Nat→Prop} {os:OsState} {t₀:Nat} (n:Nat) (hs:List Nat) (s:St) (hA:A.depth+290<recursionLimit) (hh:A.handled=none)
  {R:Result→Shared→Prop} (hR: ∀ a s',R (.ok (g a)) s'→Q a s') (hE: ∀ e s',R (.error e) s'→E e s')
  (S:Sat ⟨prog,w,A,R,k,h₀,mu,os,t₀⟩ s sh) (h:Ok ⟨prog,w,A,R,k,h₀,mu,os,t₀⟩ (sim ⟨prog,w.params,k,none⟩ n (.top none) (PySem.W.R.bindR t fun a=>.pure (.done (g a))) hs s)):wpAny (model prog w) A t Q E sh:=by
 have e:(⟨prog,w.params,k,none⟩:Ev)=(⟨prog,w,A,R,k,h₀,mu,os,t₀⟩:Sv).ev:=by show _=(⟨prog,w.params,k,A.handled⟩:Ev); rw [hh]
 rw [e] at h
 have z:=sim_ok (V:=⟨prog,w,A,R,k,h₀,mu,os,t₀⟩) hA n _ _ _ _ h sh S (show Wf (.top none) from trivial)
 rw [←PySem.W.R.bindR_eq] at z
 intro Γ p hΓ
 have y:=z Γ p hΓ
 rw [Sem.wp_bind] at y
 refine Sem.wp_mono _ _ _ (fun a p' s' h'=>?_) (fun e p' s' h'=>hE e s' h') p sh y
 rw [Sem.wp_pure] at h'
 exact hR a s' h'
end
noncomputable def listO (xs:Array Value) (n:Nat):Obj:= {cls:=.type "list",data:=.seq xs n}
noncomputable def iterO (l i:Nat):Obj:= {cls:=.type "list_iterator",data:=.fields #[.ref l,.int i 0]}
noncomputable def tupO (xs:List Value):Obj:= {cls:=.type "tuple",data:=.seq xs.toArray 0}
section
variable {prog:Program} {w:World} {A:Around} {sh:Shared}
theorem code_slot {T:String} {name:Str} {id:String} {b:Builtin} {self:Value} {rest:List Value} {R:Result→Shared→Prop} (h:Slot T name id) (hT:sh.TypeIs self T) (hb:entryFor table id=some b) (ha:argsOk id ⟨self::rest,[]⟩)
  (hc:wpAny (model prog w) A.in1 (b ⟨self::rest,[]⟩) (fun fin s'=>match fin with | .done f=>R (.ok f) s' | .again c'=>c'.quiet=true∧codeAny (model prog w) A c' R s') (fun e s'=>R (.error e) s') sh):
  codeAny (model prog w) A (.call (.builtin id) ⟨self::rest,[]⟩) R sh:=
 codeAny_call_builtin h.plain hb (h.check _ _ _ _ _ _ _ _ hT ha hc)
theorem upd_ext {a:Addr} {o:Obj} {f:Obj→Obj} (ho:sh.heap.get? a=some o) (hg:sh.gens= #[]) (ht:849≤sh.toks):Ext (fun b=>b=a) sh {sh with heap:=sh.heap.update a f} :=
 ⟨fun b x e hn=>Heap.get?_update_of_ne f (Ne.symm hn) e,hg,rfl,Nat.le_of_eq (Heap.size_after_update ..).symm,ht,Nat.le_refl _⟩
theorem push_ext {mu:Nat→Prop} {o:Obj} (hg:sh.gens= #[]) (ht:849≤sh.toks):Ext mu sh {sh with heap:=sh.heap.push o} :=
 ⟨fun b x e zz=>Heap.get?_push_of_some _ e,hg,rfl,by rw [Heap.size_push]; lia,ht,Nat.le_refl _⟩
theorem next_item {it l i:Nat} {xs:Array Value} {n:Nat} {v:Value} (hg:sh.gens= #[]) (ht:849≤sh.toks) (hit:sh.heap.get? it=some (iterO l i)) (hl:sh.heap.get? l=some (listO xs n)) (hx:xs[i]? =some v):
  codeAny (model prog w) A (.call (.builtin "list_iterator.__next__") ⟨[.ref it],[]⟩) (fun r sh'=>r= .ok (.ret v)∧Ext (fun b=>b=it) sh sh'∧sh'.heap.get? it=some (iterO l (i+1))) sh:=by
 refine code_slot slot_listiter_next ⟨_,hit,rfl⟩ entry_listiter_next (args_listiter_next _) ?_
 show wpAny _ _ (field (.ref it) 0>>=_) _ _ sh
 refine wpAny_bind (wpAny_field hit rfl (x:=.ref l) rfl ?_)
 show wpAny _ _ (if (Value.ref l==Value.none)=true then _ else _) _ _ sh
 rw [if_neg (show ¬ ((Value.ref l==Value.none)=true) from Bool.false_ne_true)]
 show wpAny _ _ (field (.ref it) 1>>=_) _ _ sh
 refine wpAny_bind (wpAny_field hit rfl (x:=.int i 0) rfl ?_)
 show wpAny _ _ (seqItems? (.ref l)>>=_) _ _ sh
 refine wpAny_bind (wpAny_seqItems hl rfl ?_)
 simp only [Int.toNat_natCast,hx]
 refine wpAny_bind (wpAny_setField hit rfl (by simp) (wpAny_pure ⟨rfl,upd_ext hit hg ht,?_⟩))
 refine (Heap.get?_update_self _ hit rfl).trans ?_
 simp [iterO,Obj.mapFields,rawInt]
theorem append_spec {l:Nat} {xs:Array Value} {n:Nat} {x:Value} (hg:sh.gens= #[]) (ht:849≤sh.toks) (hl:sh.heap.get? l=some (listO xs n)) (hsz:xs.size≤1000):
  codeAny (model prog w) A (.call (.builtin "list.append") ⟨[.ref l,x],[]⟩) (fun r sh'=>r= .ok (.ret .none)∧Ext (fun b=>b=l) sh sh'∧sh'.heap.get? l=some (listO (xs.push x) (n+1))) sh:=by
 refine code_slot slot_list_append ⟨_,hl,rfl⟩ entry_list_append (args_list_append _ _) ?_
 show wpAny _ _ (updateSeq l (·.push x)>>=fun zz=>ret .none) _ _ sh
 refine wpAny_bind ?_
 refine wpAny_updateSeq hl rfl (wpAny_pure ⟨rfl,upd_ext hl hg ht,?_⟩) (by rw [sizeLine_eq]; lia)
 refine (Heap.get?_update_self _ hl rfl).trans ?_
 simp [listO,Obj.mapSeq]
noncomputable def stopO (vs:Array Value):Obj:= {cls:=.type "StopIteration",data:=.fields vs}
theorem next_end {it l i:Nat} {xs:Array Value} {n:Nat} (hg:sh.gens= #[]) (ht:849≤sh.toks) (hh:A.handled=none) (hit:sh.heap.get? it=some (iterO l i)) (hl:sh.heap.get? l=some (listO xs n)) (hx:xs[i]? =none):
  codeAny (model prog w) A (.call (.builtin "list_iterator.__next__") ⟨[.ref it],[]⟩) (fun r sh'=>∃ e vs,r= .error (.ref e)∧Ext (fun b=>b=it) sh sh'∧sh.heap.objs.size≤e∧sh'.heap.get? e=some (stopO vs)∧∃ o,sh'.heap.get? it=some o) sh:=by
 refine code_slot slot_listiter_next ⟨_,hit,rfl⟩ entry_listiter_next (args_listiter_next _) ?_
 show wpAny _ _ (field (.ref it) 0>>=_) _ _ sh
 refine wpAny_bind (wpAny_field hit rfl (x:=.ref l) rfl ?_)
 show wpAny _ _ (if (Value.ref l==Value.none)=true then _ else _) _ _ sh
 rw [if_neg (show ¬ ((Value.ref l==Value.none)=true) from Bool.false_ne_true)]
 show wpAny _ _ (field (.ref it) 1>>=_) _ _ sh
 refine wpAny_bind (wpAny_field hit rfl (x:=.int i 0) rfl ?_)
 show wpAny _ _ (seqItems? (.ref l)>>=_) _ _ sh
 refine wpAny_bind (wpAny_seqItems hl rfl ?_)
 simp only [Int.toNat_natCast,hx]
 refine wpAny_bind (wpAny_rule (wpAny_bind (wpAny_setField hit rfl (by simp) ?_)))
 show wpAny _ _ (newExc (.type "StopIteration") []>>=_) _ _ _
 refine wpAny_bind ?_
 simp only [newExc,newTuple]
 refine wpAny_bind (wpAny_newObj_type ?_ (by size_fits))
 refine wpAny_bind (m:=firstArgMember _ _) (wpAny_of_eq (a:=Value.none) (by first | rfl | (simp only [firstArgMember]; rfl)) ?_)
 refine wpAny_newObj_type ?_ (by size_fits)
 simp only [raiseNew]
 refine wpAny_bind (wpAny_handled ?_)
 rw [show A.in1.handled=none from hh]
 refine wpAny_bind (wpAny_pure (wpAny_throw ?_))
 have hlt:=Heap.lt_size hit
 refine ⟨_,_,rfl,?_,?_,Heap.get?_push_size _ rfl,?_⟩
 ·refine ⟨fun b x e hn=>?_,hg,rfl,?_,ht,Nat.le_refl _⟩
  ·exact Heap.get?_push_of_some _ (Heap.get?_push_of_some _ (Heap.get?_update_of_ne _ (Ne.symm hn) e))
  ·simp only [Heap.size_push,Heap.size_after_update]; lia
 ·simp only [Heap.size_push,Heap.size_after_update]; lia
 ·exact ⟨_,Heap.get?_push_of_some _ (Heap.get?_push_of_some _ (Heap.get?_update_self _ hit rfl))⟩
end
noncomputable def ktBelow (n:Nat):KT→Nat→Nat→Bool
 | .nil,_,_=>true
 | .node v l r,s,b=>(match v with | none=>true | some _=>Nat.ble (b+1) n)&&ktBelow n l (2 * s) (s+b)&&ktBelow n r (2 * s) (2 * s+b)
theorem ktBelow_spec {n:Nat} : ∀ {t:KT} {s b:Nat},ktBelow n t s b=true→∀ {j:Nat} {o:Obj},t.get j=some o→s * j+b<n
 | .nil,_,_,_,_,_,e=>by cases e
 | .node v l r,s,b,H,j,o,e=>by
  unfold ktBelow at H
  simp only [Bool.and_eq_true] at H
  rw [KT.get_node] at e
  by_cases h0:j=0
  ·subst h0
   rw [if_pos rfl] at e
   subst e
   have:=Nat.le_of_ble_eq_true H.1.1
   lia
  ·rw [if_neg h0] at e
   by_cases p:j % 2=1
   ·rw [if_pos p] at e
    have z:=ktBelow_spec H.1.2 e
    have:2 * s * (j / 2)+(s+b)=s * j+b:=by
     have hj:j=2 * (j / 2)+1:=by lia
     generalize j / 2=q at hj
     subst hj
     rw [Nat.mul_add,Nat.mul_one,←Nat.mul_assoc,Nat.mul_comm s 2]; lia
    rw [this] at z; exact z
   ·rw [if_neg p] at e
    have z:=ktBelow_spec H.2 e
    have:2 * s * (j / 2 - 1)+(2 * s+b)=s * j+b:=by
     have hj:j=2 * (j / 2 - 1)+2:=by lia
     generalize j / 2 - 1=q at hj
     subst hj
     rw [Nat.mul_add,←Nat.mul_assoc,Nat.mul_comm s 2]; lia
    rw [this] at z; exact z
theorem kt_below (P:Params):ktBelow 277 (kt P) 1 0=true:=by kernel_rfl
theorem kt_low {P:Params} {a:Nat} {o:Obj} (e:(kt P).get a=some o):a<277:=by
 have:=ktBelow_spec (kt_below P) e
 lia
structure Top (w:World) (sh:Shared):Prop where
 gens:sh.gens= #[]
 kt: ∀ a o,(kt w.params).get a=some o→sh.heap.get? a=some o
 size:278≤sh.heap.objs.size
 toks:849≤sh.toks
theorem Top.l7 {w:World} {sh:Shared} (T:Top w sh):277≤sh.heap.objs.size:=Nat.le_of_lt T.size
structure Room (k:Nat) (A:Around):Prop where
 depth:A.depth+290+50 * k<recursionLimit
 units:A.units+1000+100 * k<cLine
 handled:A.handled=none
theorem Room.mono {k j:Nat} {A:Around} (h:Room k A) (hj:j≤k):Room j A:=⟨by have:=h.depth; lia,by have:=h.units; lia,h.handled⟩
theorem Room.down {k:Nat} {A B:Around} (h:Room (k+1) A) (h1:B.handled=none) (h2:B.depth≤A.depth+50) (h3:B.units≤A.units+100):Room k B:=
 ⟨by have:=h.depth; lia,by have:=h.units; lia,h1⟩
theorem Top.ext {w:World} {sh sh':Shared} {mu:Nat→Prop} (T:Top w sh) (X:Ext mu sh sh') (h: ∀ b,mu b→277≤b):Top w sh':=
 ⟨X.gens,fun a o e=>X.keep a o (T.kt a o e) fun q=>absurd (kt_low e) (Nat.not_lt.mpr (h a q)),Nat.le_trans T.size X.size,X.t849⟩
noncomputable def inD:List (Nat×Obj)→Nat→Prop
 | [],_=>False
 | x::l,b=>b=x.1∨inD l b
theorem inD_of {D:List (Nat×Obj)} {i:Nat} {x:Nat×Obj} :D[i]? =some x→inD D x.1:=by
 induction D generalizing i with
 | nil=>intro h; simp at h
 | cons y l ih=>
  intro h
  cases i with
  | zero=>simp at h; subst h; exact .inl rfl
  | succ i=>simp at h; exact .inr (ih h)
inductive Facts (lo:Nat) (sh:Shared):List (Nat×Obj)→Prop
 | nil:Facts lo sh []
 | cons {a:Nat} {o:Obj} {l:List (Nat×Obj)} (h:sh.heap.get? a=some o) (hlo:lo≤a) (hne: ∀ (i:Nat) (x:Nat×Obj),l[i]? =some x→x.1≠a) (r:Facts lo sh l):Facts lo sh ((a,o)::l)
theorem Facts.own {lo:Nat} {sh:Shared} : ∀ {D:List (Nat×Obj)},Facts lo sh D→∀ (i:Nat) (x:Nat×Obj),D[i]? =some x→sh.heap.get? x.1=some x.2∧lo≤x.1
 | _,.nil,i,x,h=>by simp at h
 | _,.cons h hlo hne r,i,x,e=>by
  cases i with
  | zero=>simp at e; subst e; exact ⟨h,hlo⟩
  | succ i=>simp at e; exact r.own i x e
theorem Facts.apart {lo:Nat} {sh:Shared} : ∀ {D:List (Nat×Obj)},Facts lo sh D→∀ (i j:Nat) (x y:Nat×Obj),D[i]? =some x→D[j]? =some y→x.1=y.1→i=j
 | _,.nil,i,j,x,y,h,_,_=>by simp at h
 | _,.cons h hlo hne r,i,j,x,y,ex,ey,e=>by
  cases i with
  | zero=>
   simp at ex; subst ex
   cases j with
   | zero=>rfl
   | succ j=>simp at ey; exact absurd e.symm (hne j y ey)
  | succ i=>
   simp at ex
   cases j with
   | zero=>simp at ey; subst ey; exact absurd e (hne i x ex)
   | succ j=>simp at ey; rw [r.apart i j x y ex ey e]
theorem Sat.start {prog:Program} {w:World} {A:Around} {R:Result→Shared→Prop} {sh:Shared} (T:Top w sh) {D:List (Nat×Obj)} (F:Facts 277 sh D) {K t:Nat} (hK:sh.heap.objs.size=K+278) (ht:sh.toks=t+849):
  Sat ⟨prog,w,A,R,Mine.kt w.params,sh.heap,inD D,sh.os,sh.toks⟩ ⟨D,K+278,0,t+849,0,[]⟩ sh where
 size:=hK
 toks:=ht
 gens:=T.gens
 os:=rfl
 kt:=T.kt
 own:=fun i x e=>(F.own i x e).1
 apart:=F.apart
 ktno:=fun i x e=>by
  show (Mine.kt w.params).get x.1=none
  cases q:(Mine.kt w.params).get x.1 with
  | none=>rfl
  | some o=>exact absurd (kt_low q) (Nat.not_lt.mpr (F.own i x e).2)
 keep:=fun b o e zz=>e
 muD:=fun i x e=>.inl (inD_of e)
 grow:=by show sh.heap.objs.size≤K+278+0; lia
 t849:=by show 849≤t+849+0; lia
 t0:=by show sh.toks≤t+849+0; lia
theorem Top.K {w:World} {sh:Shared} (T:Top w sh): ∃ K,sh.heap.objs.size=K+278:=⟨sh.heap.objs.size - 278,(Nat.sub_add_cancel T.size).symm⟩
noncomputable def runC (prog:Program) (P:Params) (n:Nat) (c:Code) (hs:List Nat) (D:List (Nat×Obj)) (K t:Nat):Rs:=
 enter ⟨prog,P,Mine.kt P,none⟩ (sim ⟨prog,P,Mine.kt P,none⟩ n) (.top (some c)) c hs ⟨D,K+278,0,t+849,0,[]⟩
theorem walk_code {prog:Program} {w:World} {A:Around} {R:Result→Shared→Prop} {sh:Shared} {c:Code} (T:Top w sh) {k:Nat} (Rm:Room k A) (hn:ncal c=true) {D:List (Nat×Obj)} (F:Facts 277 sh D) (n:Nat) (hs:List Nat)
  (h: ∀ K t,sh.heap.objs.size=K+278→Ok ⟨prog,w,A,R,Mine.kt w.params,sh.heap,inD D,sh.os,sh.toks⟩ (runC prog w.params n c hs D K t)):
  codeAny (model prog w) A c R sh:=by
 refine x1 T.K fun K hK=>?_
 have ht:sh.toks=(sh.toks - 849)+849:=(Nat.sub_add_cancel T.toks).symm
 have z:=h K (sh.toks - 849) hK
 unfold runC at z
 exact code_in n hs _ (Rm.mono (Nat.zero_le _)).depth Rm.handled hn (Sat.start T F hK ht) z
noncomputable abbrev sAccept:Str:=q [65,99,99,101,112,116]
noncomputable abbrev saccept:Str:=q [97,99,99,101,112,116]
noncomputable abbrev sXA:Str:=q [88,45,65]
noncomputable abbrev sxb:Str:=q [120,45,98]
noncomputable abbrev sHost:Str:=q [72,111,115,116]
noncomputable abbrev shost:Str:=q [104,111,115,116]
noncomputable abbrev sXAB:Str:=q [88,45,65,66]
noncomputable abbrev sxab:Str:=q [120,45,97,98]
noncomputable abbrev sxa:Str:=q [120,45,97]
noncomputable abbrev sv0:Str:=q [118,48]
noncomputable abbrev sv1:Str:=q [118,49]
noncomputable abbrev sv2:Str:=q [118,50]
noncomputable abbrev sv3:Str:=q [118,51]
noncomputable abbrev sn:Str:=q [110]
noncomputable abbrev sw:Str:=q [119]
noncomputable abbrev sq:Str:=q [113]
noncomputable abbrev s1:Str:=q [49]
noncomputable abbrev swq:Str:=q [119,59,32,113,61,34,49,34]
noncomputable abbrev sname:Str:=q [110,97,109,101]
noncomputable def convC (s:Str) (b:Bool) (self tk:Nat):Code:=.call (.ref 123) ⟨[.ref self,.str s tk],[(sname,.bool b)]⟩
noncomputable def hConv:List Nat:= [0,0,1,1,1,1,1,1,0,0,0,0,1,0,0,0,0,1,0,1,1,1,0,0,0,0,1,0,0,0,0,0,1]
noncomputable def ConvOk (s:Str) (b:Bool):Prop:=∀ prog P self tk K t,obsD (runC prog P 90 (convC s b self tk) hConv [] K t)=(0,dup (lgOf (runC prog P 90 (convC s b self tk) hConv [] K t)),.ok (.ret (.str s tk)))
theorem conv_sAccept: ∀ prog P self tk K t,obsD (runC prog P 90 (convC sAccept true self tk) hConv [] K t)=(0,dup (lgOf (runC prog P 90 (convC sAccept true self tk) hConv [] K t)),.ok (.ret (.str sAccept tk))):=by intro prog P self tk K t; kernel_rfl
theorem conv_saccept: ∀ prog P self tk K t,obsD (runC prog P 90 (convC saccept true self tk) hConv [] K t)=(0,dup (lgOf (runC prog P 90 (convC saccept true self tk) hConv [] K t)),.ok (.ret (.str saccept tk))):=by intro prog P self tk K t; kernel_rfl
theorem conv_sXA: ∀ prog P self tk K t,obsD (runC prog P 90 (convC sXA true self tk) hConv [] K t)=(0,dup (lgOf (runC prog P 90 (convC sXA true self tk) hConv [] K t)),.ok (.ret (.str sXA tk))):=by intro prog P self tk K t; kernel_rfl
theorem conv_sxb: ∀ prog P self tk K t,obsD (runC prog P 90 (convC sxb true self tk) hConv [] K t)=(0,dup (lgOf (runC prog P 90 (convC sxb true self tk) hConv [] K t)),.ok (.ret (.str sxb tk))):=by intro prog P self tk K t; kernel_rfl
theorem conv_sHost: ∀ prog P self tk K t,obsD (runC prog P 90 (convC sHost true self tk) hConv [] K t)=(0,dup (lgOf (runC prog P 90 (convC sHost true self tk) hConv [] K t)),.ok (.ret (.str sHost tk))):=by intro prog P self tk K t; kernel_rfl
theorem conv_sXAB: ∀ prog P self tk K t,obsD (runC prog P 90 (convC sXAB true self tk) hConv [] K t)=(0,dup (lgOf (runC prog P 90 (convC sXAB true self tk) hConv [] K t)),.ok (.ret (.str sXAB tk))):=by intro prog P self tk K t; kernel_rfl
theorem conv_sxa: ∀ prog P self tk K t,obsD (runC prog P 90 (convC sxa true self tk) hConv [] K t)=(0,dup (lgOf (runC prog P 90 (convC sxa true self tk) hConv [] K t)),.ok (.ret (.str sxa tk))):=by intro prog P self tk K t; kernel_rfl
theorem conv_shost: ∀ prog P self tk K t,obsD (runC prog P 90 (convC shost true self tk) hConv [] K t)=(0,dup (lgOf (runC prog P 90 (convC shost true self tk) hConv [] K t)),.ok (.ret (.str shost tk))):=by intro prog P self tk K t; kernel_rfl
theorem conv_sxab: ∀ prog P self tk K t,obsD (runC prog P 90 (convC sxab true self tk) hConv [] K t)=(0,dup (lgOf (runC prog P 90 (convC sxab true self tk) hConv [] K t)),.ok (.ret (.str sxab tk))):=by intro prog P self tk K t; kernel_rfl
theorem conv_sq: ∀ prog P self tk K t,obsD (runC prog P 90 (convC sq true self tk) hConv [] K t)=(0,dup (lgOf (runC prog P 90 (convC sq true self tk) hConv [] K t)),.ok (.ret (.str sq tk))):=by intro prog P self tk K t; kernel_rfl
theorem conv_sv0: ∀ prog P self tk K t,obsD (runC prog P 90 (convC sv0 false self tk) hConv [] K t)=(0,dup (lgOf (runC prog P 90 (convC sv0 false self tk) hConv [] K t)),.ok (.ret (.str sv0 tk))):=by intro prog P self tk K t; kernel_rfl
theorem conv_sv1: ∀ prog P self tk K t,obsD (runC prog P 90 (convC sv1 false self tk) hConv [] K t)=(0,dup (lgOf (runC prog P 90 (convC sv1 false self tk) hConv [] K t)),.ok (.ret (.str sv1 tk))):=by intro prog P self tk K t; kernel_rfl
theorem conv_sv2: ∀ prog P self tk K t,obsD (runC prog P 90 (convC sv2 false self tk) hConv [] K t)=(0,dup (lgOf (runC prog P 90 (convC sv2 false self tk) hConv [] K t)),.ok (.ret (.str sv2 tk))):=by intro prog P self tk K t; kernel_rfl
theorem conv_sv3: ∀ prog P self tk K t,obsD (runC prog P 90 (convC sv3 false self tk) hConv [] K t)=(0,dup (lgOf (runC prog P 90 (convC sv3 false self tk) hConv [] K t)),.ok (.ret (.str sv3 tk))):=by intro prog P self tk K t; kernel_rfl
theorem conv_sn: ∀ prog P self tk K t,obsD (runC prog P 90 (convC sn false self tk) hConv [] K t)=(0,dup (lgOf (runC prog P 90 (convC sn false self tk) hConv [] K t)),.ok (.ret (.str sn tk))):=by intro prog P self tk K t; kernel_rfl
theorem conv_sw: ∀ prog P self tk K t,obsD (runC prog P 90 (convC sw false self tk) hConv [] K t)=(0,dup (lgOf (runC prog P 90 (convC sw false self tk) hConv [] K t)),.ok (.ret (.str sw tk))):=by intro prog P self tk K t; kernel_rfl
theorem conv_s1: ∀ prog P self tk K t,obsD (runC prog P 90 (convC s1 false self tk) hConv [] K t)=(0,dup (lgOf (runC prog P 90 (convC s1 false self tk) hConv [] K t)),.ok (.ret (.str s1 tk))):=by intro prog P self tk K t; kernel_rfl
theorem conv_swq: ∀ prog P self tk K t,obsD (runC prog P 90 (convC swq false self tk) hConv [] K t)=(0,dup (lgOf (runC prog P 90 (convC swq false self tk) hConv [] K t)),.ok (.ret (.str swq tk))):=by intro prog P self tk K t; kernel_rfl
noncomputable def okN:List Str:= [sAccept,saccept,sXA,sxb,sHost,sXAB,sxa,shost,sxab,sq]
noncomputable def okV:List Str:= [sv0,sv1,sv2,sv3,sn,sw,s1,swq]
theorem conv_all {s:Str} {b:Bool} (h:if b then s∈okN else s∈okV):ConvOk s b:=by
 cases b with
 | true=>
  simp only [if_true,okN,List.mem_cons,List.not_mem_nil,or_false] at h
  rcases h with rfl | rfl | rfl | rfl | rfl | rfl | rfl | rfl | rfl | rfl
  ·exact conv_sAccept
  ·exact conv_saccept
  ·exact conv_sXA
  ·exact conv_sxb
  ·exact conv_sHost
  ·exact conv_sXAB
  ·exact conv_sxa
  ·exact conv_shost
  ·exact conv_sxab
  ·exact conv_sq
 | false=>
  simp only [Bool.false_eq_true,if_false,okV,List.mem_cons,List.not_mem_nil,or_false] at h
  rcases h with rfl | rfl | rfl | rfl | rfl | rfl | rfl | rfl
  ·exact conv_sv0
  ·exact conv_sv1
  ·exact conv_sv2
  ·exact conv_sv3
  ·exact conv_sn
  ·exact conv_sw
  ·exact conv_s1
  ·exact conv_swq
theorem conv_spec {prog:Program} {w:World} {A:Around} {sh:Shared} {s:Str} {b:Bool} (h:if b then s∈okN else s∈okV) (T:Top w sh) {k:Nat} (Rm:Room k A) (self tk:Nat):
  codeAny (model prog w) A (convC s b self tk) (fun r sh'=>r= .ok (.ret (.str s tk))∧Ext none_ sh sh') sh:=by
 refine walk_code T Rm rfl (.nil) 90 hConv fun K t zz=>?_
 have e:=conv_all h prog w.params self tk K t
 revert e
 generalize runC prog w.params 90 (convC s b self tk) hConv [] K t=R
 intro e
 refine ok_end e fun sh' S=>?_
 exact ⟨rfl,(S.ext (sh₀:=sh) rfl rfl).weak fun zz h=>h⟩
noncomputable section
noncomputable def pset (b1 b2:Bool) (P:Params):Params:=
 {P with followText:=fun r=>match Nat.beq (PySem.code r) (PySem.code "comprehension-iter-twice") with
  | true=>b1
  | false=>match Nat.beq (PySem.code r) (PySem.code "special-get-raises") with
   | true=>b2
   | false=>P.followText r}
theorem pset_self (P:Params):pset (P.followText "comprehension-iter-twice") (P.followText "special-get-raises") P=P:=by
 have e:(fun r=>match Nat.beq (PySem.code r) (PySem.code "comprehension-iter-twice") with
  | true=>P.followText "comprehension-iter-twice"
  | false=>match Nat.beq (PySem.code r) (PySem.code "special-get-raises") with
   | true=>P.followText "special-get-raises"
   | false=>P.followText r)=P.followText:=by
  funext r
  cases h:Nat.beq (PySem.code r) (PySem.code "comprehension-iter-twice") with
  | true=>rw [PySem.code_inj _ _ (Nat.eq_of_beq_eq_true h)]
  | false=>
   cases h2:Nat.beq (PySem.code r) (PySem.code "special-get-raises") with
   | true=>rw [PySem.code_inj _ _ (Nat.eq_of_beq_eq_true h2)]
   | false=>rfl
 unfold pset
 rw [e]
theorem pset_all {X:Params→Prop} {P:Params} (h: ∀ b1 b2,X (pset b1 b2 P)):X P:=by
 have z:=h (P.followText "comprehension-iter-twice") (P.followText "special-get-raises")
 rw [pset_self] at z
 exact z
noncomputable def itw (P:Params):Bool:=P.followText "comprehension-iter-twice"
noncomputable def sgr (P:Params):Bool:=P.followText "special-get-raises"
theorem pset_two {X:Bool→Bool→Params→Prop} {P:Params} (h: ∀ b1 b2,X b1 b2 (pset b1 b2 P)):X (itw P) (sgr P) P:=by
 have z:=h (itw P) (sgr P)
 unfold itw sgr at z ⊢
 rw [pset_self] at z
 exact z
noncomputable def rset (row:String) (b:Bool) (P:Params):Params:=
 {P with followText:=fun r=>match Nat.beq (PySem.code r) (PySem.code row) with
  | true=>b
  | false=>P.followText r}
theorem rset_self (row:String) (P:Params):rset row (P.followText row) P=P:=by
 have e:(fun r=>match Nat.beq (PySem.code r) (PySem.code row) with
  | true=>P.followText row
  | false=>P.followText r)=P.followText:=by
  funext r
  cases h:Nat.beq (PySem.code r) (PySem.code row) with
  | true=>rw [PySem.code_inj _ _ (Nat.eq_of_beq_eq_true h)]
  | false=>rfl
 unfold rset
 rw [e]
theorem rset_all (row:String) {X:Params→Prop} {P:Params} (h: ∀ b,X (rset row b P)):X P:=by
 have z:=h (P.followText row)
 rw [rset_self] at z
 exact z
structure ForP where
 tgt:Expr
 iter:Expr
 body:List Stmt
 els:List Stmt
noncomputable def forP:Stmt→ForP
 | .For t i b o _=>⟨t,i,b,o⟩
 | _=>⟨.Constant .none 0 ⟨0,0,0,0⟩,.Constant .none 0 ⟨0,0,0,0⟩,[],[]⟩
noncomputable def ifB:Stmt→List Stmt
 | .If _ b _ _=>b
 | _=> []
noncomputable def fenv (f:FD) (qual:Str) (a cd fr:Nat) (cells:List (Str×Addr)):Env:=
 {scope:=f.scope,locals:=fr,globals:=3,cells:=cells,qual:=qual,func:=some a,code:=.ref cd,frame:=some fr,builtins:=0}
noncomputable def forC (p:ForP) (it:Nat) (env:Env):Code:=.forLoop p.tgt (.ref it) p.body p.els env
noncomputable def ents (hs:Nat→Int) (ts:Nat→Nat):Nat→List (Str×Value)→List DictEntry
 | _,[]=> []
 | i,x::l=>⟨hs i,.str x.1 (ts i),x.2⟩::ents hs ts (Nat.succ i) l
noncomputable def frmO (l:List (Str×Value)) (hs:Nat→Int) (ts:Nat→Nat) (ep:Nat):Obj:= {cls:=.type "frame",data:=.dict (ents hs ts 0 l).toArray ep}
noncomputable def dicO (l:List (Str×Value)) (hs:Nat→Int) (ts:Nat→Nat) (ep:Nat):Obj:= {cls:=.type "dict",data:=.dict (ents hs ts 0 l).toArray ep}
noncomputable def entsOf (o:Obj):List DictEntry:=match o.data with
 | .dict es _=>es.toList
 | _=> []
noncomputable def epOf (o:Obj):Nat:=match o.data with
 | .dict _ n=>n
 | .seq _ n=>n
 | _=>0
noncomputable def nthE:List DictEntry→Nat→DictEntry
 | [],_=>⟨0,.none,.none⟩
 | x::l,i=>match Nat.beq i 0 with | true=>x | false=>nthE l (Nat.pred i)
noncomputable def hsOf (o:Obj) (i:Nat):Int:=(nthE (entsOf o) i).hash
noncomputable def tsOf (o:Obj) (i:Nat):Nat:=match (nthE (entsOf o) i).key with
 | .str _ t=>t
 | _=>0
noncomputable def dOf (s:St) (i:Nat):Obj:=match getD s.D i with
 | some x=>x.2
 | none=> {cls:=.none}
noncomputable def aOf (s:St) (i:Nat):Nat:=match getD s.D i with
 | some x=>x.1
 | none=>0
end
end Mine
namespace Mine
open PySem
inductive Wt:Type 1
 | tt
 | eq {α:Type} (a b:α)
 | and (x y:Wt)
 | all {X:Type} (k:X→Wt)
noncomputable def Wt.holds:Wt→Prop
 | .tt=>True
 | .eq a b=>a=b
 | .and x y=>x.holds∧y.holds
 | .all k=>∀ x,(k x).holds
noncomputable def Wt.r:Wt→Wt
 | .tt=>.tt
 | .eq _ b=>.eq b b
 | .and x y=>.and x.r y.r
 | .all k=>.all fun x=>(k x).r
theorem Wt.of: ∀ {w:Wt},w=w.r→w.holds
 | .tt,_=>trivial
 | .eq a b,h=>by
  unfold r at h
  injection h
 | .and x y,h=>by
  unfold r at h
  injection h with h1 h2
  exact ⟨Wt.of h1,Wt.of h2⟩
 | .all k,h=>by
  unfold r at h
  injection h with _ h1
  exact fun x=>Wt.of (congrFun h1 x)
class Rf (P:Prop) where
 w:Wt
 ok:w.holds→P
theorem Rf.prove (P:Prop) [i:Rf P] (h:i.w=i.w.r):P:=i.ok (Wt.of h)
noncomputable instance Rf.tt:Rf True:=⟨.tt,id⟩
noncomputable instance Rf.eq {α:Type} {a b:α} :Rf (a=b):=⟨.eq a b,id⟩
noncomputable instance Rf.and {P Q:Prop} [i:Rf P] [j:Rf Q]:Rf (P∧Q):=⟨.and i.w j.w,fun h=>⟨i.ok h.1,j.ok h.2⟩⟩
class Rx (X:Type) where
 al:(X→Wt)→Wt
 ok: ∀ {k:X→Wt},(al k).holds→∀ x,(k x).holds
noncomputable instance (priority:=low) Rx.any {X:Type} :Rx X:=⟨.all,fun h=>h⟩
noncomputable instance Rx.bool:Rx Bool:=⟨fun k=>.and (k false) (k true),fun h x=>match x with
 | false=>h.1
 | true=>h.2⟩
noncomputable instance Rx.opt {X:Type} :Rx (Option X):=⟨fun k=>.and (k none) (.all fun v=>k (some v)),fun h x=>match x with
 | none=>h.1
 | some v=>h.2 v⟩
noncomputable instance Rf.all {X:Type} [j:Rx X] {P:X→Prop} [i: ∀ x,Rf (P x)]:Rf (∀ x,P x):=⟨j.al fun x=>(i x).w,fun h x=>(i x).ok (j.ok h x)⟩
end Mine
namespace Mine
open PySem PySem.W PySem.W.X
noncomputable def apL:List (Nat×Obj)→List (Nat×Obj)→List (Nat×Obj)
 | [],l=>l
 | x::t,l=>x::apL t l
theorem apL_eq (D l:List (Nat×Obj)):apL D l=D++l:=by
 induction D with
 | nil=>rfl
 | cons x t ih=>show x::apL t l=_; rw [ih]; rfl
theorem setD_get {D:List (Nat×Obj)} {j:Nat} {x:Nat×Obj} {o:Obj} (hj:D[j]? =some x) {i:Nat} {y:Nat×Obj} (hy:(setD D j o)[i]? =some y):
  ∃ z,D[i]? =some z∧z.1=y.1∧(j=i→y=(x.1,o))∧(j≠i→y=z):=by
 rw [setD_eq,List.getElem?_modify] at hy
 cases q:D[i]? with
 | none=>rw [q] at hy; simp at hy
 | some z=>
  rw [q] at hy
  by_cases e:j=i
  ·subst e
   rw [hj] at q
   cases q
   simp at hy
   subst hy
   exact ⟨x,rfl,rfl,fun zz=>rfl,fun h=>absurd rfl h⟩
  ·simp [e] at hy
   subst hy
   exact ⟨z,rfl,rfl,fun h=>absurd h e,fun zz=>rfl⟩
section
variable {V:Sv} {R:Rs}
theorem Sat.after {s:St} {sh sh':Shared} (hk: ∀ a o,V.kt.get a=some o→a<277) (h0:278≤V.h₀.objs.size) (S:Sat V s sh) {j:Nat} {x:Nat×Obj} (hj:getD s.D j=some x) (X:Ext (fun b=>b=x.1) sh sh') {o:Obj} (ho:sh'.heap.get? x.1=some o)
  {D':List (Nat×Obj)} (N:Facts sh.heap.objs.size sh' D') {b t:Nat} (hb:sh'.heap.objs.size=b) (ht:sh'.toks=t):Sat V ⟨apL (setD s.D j o) D',b,0,t,0,[]⟩ sh':=by
 have hsz:V.h₀.objs.size≤sh.heap.objs.size:=by rw [S.size]; exact S.grow
 have S1:=S.turn hj X ho (b:=b) (t:=t) hb ht
 have spl: ∀ (i:Nat) (y:Nat×Obj),(apL (setD s.D j o) D')[i]? =some y→(setD s.D j o)[i]? =some y∨∃ k,i=(setD s.D j o).length+k∧D'[k]? =some y:=by
  intro i y h
  rw [apL_eq,List.getElem?_append] at h
  split at h
  ·exact .inl h
  ·exact .inr ⟨i - (setD s.D j o).length,by lia,h⟩
 have low: ∀ (i:Nat) (y:Nat×Obj),(setD s.D j o)[i]? =some y→y.1<sh.heap.objs.size:=by
  intro i y h
  refine x5 (setD_get (by rw [←getD_eq]; exact hj) h) fun z hz e zz=>?_
  rw [←e]
  exact Heap.lt_size (S.own i z hz)
 refine ⟨S1.size,S1.toks,S1.gens,S1.os,S1.kt,fun i y h=>?_,fun i k y z h1 h2 e=>?_,fun i y h=>?_,S1.keep,fun i y h=>?_,S1.grow,S1.t849,S1.t0⟩
 ·rcases spl i y h with h | ⟨k,_,h⟩
  ·exact S1.own i y h
  ·exact (N.own k y h).1
 ·rcases spl i y h1 with h1 | ⟨k1,e1,h1⟩<;>rcases spl k z h2 with h2 | ⟨k2,e2,h2⟩
  ·exact S1.apart i k y z h1 h2 e
  ·have:=low i y h1
   have:=(N.own k2 z h2).2
   lia
  ·have:=low k z h2
   have:=(N.own k1 y h1).2
   lia
  ·rw [e1,e2,N.apart k1 k2 y z h1 h2 e]
 ·rcases spl i y h with h | ⟨k,_,h⟩
  ·exact S1.ktno i y h
  ·cases q:V.kt.get y.1 with
   | none=>rfl
   | some o'=>
    have:=hk _ _ q
    have:=(N.own k y h).2
    lia
 ·rcases spl i y h with h | ⟨k,_,h⟩
  ·exact S1.muD i y h
  ·exact .inr (Nat.le_trans hsz (N.own k y h).2)
end
noncomputable abbrev sv (prog:Program) (w:World) (A:Around) (R:Result→Shared→Prop) (h₀:Heap) (mu:Nat→Prop) (os:OsState) (t₀:Nat):Sv:=⟨prog,w,A,R,Mine.kt w.params,h₀,mu,os,t₀⟩
theorem topW (w:World) {V:Sv} {s:St} {sh:Shared} (S:Sat V s sh) (hk:V.kt=Mine.kt w.params) (h0:278≤V.h₀.objs.size):Top w sh:=
 ⟨S.gens,fun a o e=>S.kt a o (by rw [hk]; exact e),by rw [S.size]; exact Nat.le_trans h0 S.grow,by rw [S.toks]; exact S.t849⟩
section
variable {prog:Program} {w:World} {A:Around} {Q:Result→Shared→Prop} {h₀:Heap} {mu:Nat→Prop} {os:OsState} {t₀:Nat} {R:Rs} {c:Code} {k:Nat}
theorem ok_gen (ob:obsS R=(2,dup (lgOf R),none,true,c)) (Rm:Room (k+1) A) (h0:278≤h₀.objs.size) {j:Nat} {x:Nat×Obj} (hj:getD (stOf R).D j=some x)
  {T:Result→Obj→List (Nat×Obj)→Prop}
  (spec: ∀ sh B,Sat (sv prog w A Q h₀ mu os t₀) (stOf R) sh→Top w sh→Room k B→codeAny (model prog w) B c (fun r sh'=>∃ o D',T r o D'∧Ext (fun b=>b=x.1) sh sh'∧sh'.heap.get? x.1=some o∧Facts sh.heap.objs.size sh' D') sh)
  (hs:List Nat) (h: ∀ r o D',T r o D'→∀ K t,Ok (sv prog w A Q h₀ mu os t₀) (contOf R hs r ⟨apL (setD (stOf R).D j o) D',K+278,0,t+849,0,[]⟩)):Ok (sv prog w A Q h₀ mu os t₀) R:=by
 refine ok_stop ob fun sh S B h1 h2 h3=>?_
 have T0:=topW w S rfl h0
 refine codeAny_mono (spec sh B S T0 (Rm.down h1 h2 h3)) fun r sh' hq=>x15 hq fun o D' ht X ho N=>?_
 have hz:278≤sh'.heap.objs.size:=Nat.le_trans T0.size X.size
 have q:=h r o D' ht (sh'.heap.objs.size - 278) (sh'.toks - 849)
 exact ⟨hs,_,Sat.after (fun zz zz e=>kt_low e) h0 S hj X ho N (b:=sh'.heap.objs.size - 278+278) (t:=sh'.toks - 849+849) (Nat.sub_add_cancel hz).symm (Nat.sub_add_cancel X.t849).symm,q⟩
theorem ok_ext (ob:obsS R=(2,dup (lgOf R),none,true,c)) (Rm:Room (k+1) A) (h0:278≤h₀.objs.size) {r₀:Result}
  (spec: ∀ sh B,Sat (sv prog w A Q h₀ mu os t₀) (stOf R) sh→Top w sh→Room k B→codeAny (model prog w) B c (fun r sh'=>r=r₀∧Ext none_ sh sh') sh)
  (hs:List Nat) (h: ∀ K t,Ok (sv prog w A Q h₀ mu os t₀) (contOf R hs r₀ ⟨(stOf R).D,K+278,0,t+849,0,[]⟩)):Ok (sv prog w A Q h₀ mu os t₀) R:=by
 refine ok_stop ob fun sh S B h1 h2 h3=>?_
 have T0:=topW w S rfl h0
 refine codeAny_mono (spec sh B S T0 (Rm.down h1 h2 h3)) fun r sh' hq=>x2 hq fun ht X=>?_
 have hz:278≤sh'.heap.objs.size:=Nat.le_trans T0.size X.size
 have q:=h (sh'.heap.objs.size - 278) (sh'.toks - 849)
 subst ht
 exact ⟨hs,_,S.same X (b:=sh'.heap.objs.size - 278+278) (t:=sh'.toks - 849+849) (Nat.sub_add_cancel hz).symm (Nat.sub_add_cancel X.t849).symm,q⟩
theorem ok_upd (ob:obsS R=(2,dup (lgOf R),none,true,c)) (Rm:Room (k+1) A) (h0:278≤h₀.objs.size) {j:Nat} {x:Nat×Obj} (hj:getD (stOf R).D j=some x) {r₀:Result} {o:Obj}
  (spec: ∀ sh B,Sat (sv prog w A Q h₀ mu os t₀) (stOf R) sh→Top w sh→Room k B→codeAny (model prog w) B c (fun r sh'=>r=r₀∧Ext (fun b=>b=x.1) sh sh'∧sh'.heap.get? x.1=some o) sh)
  (hs:List Nat) (h: ∀ K t,Ok (sv prog w A Q h₀ mu os t₀) (contOf R hs r₀ ⟨setD (stOf R).D j o,K+278,0,t+849,0,[]⟩)):Ok (sv prog w A Q h₀ mu os t₀) R:=by
 refine ok_stop ob fun sh S B h1 h2 h3=>?_
 have T0:=topW w S rfl h0
 refine codeAny_mono (spec sh B S T0 (Rm.down h1 h2 h3)) fun r sh' hq=>x4 hq fun ht X ho=>?_
 have hz:278≤sh'.heap.objs.size:=Nat.le_trans T0.size X.size
 have q:=h (sh'.heap.objs.size - 278) (sh'.toks - 849)
 subst ht
 exact ⟨hs,_,S.turn hj X ho (b:=sh'.heap.objs.size - 278+278) (t:=sh'.toks - 849+849) (Nat.sub_add_cancel hz).symm (Nat.sub_add_cancel X.t849).symm,q⟩
theorem ok_next {it l i n:Nat} {xs:Array Value} {v:Value} {j m:Nat} (ob:obsS R=(2,dup (lgOf R),none,true,.call (.builtin "list_iterator.__next__") ⟨[.ref it],[]⟩)) (Rm:Room (k+1) A) (h0:278≤h₀.objs.size)
  (hj:getD (stOf R).D j=some (it,iterO l i)) (hm:getD (stOf R).D m=some (l,listO xs n)) (hx:xs[i]? =some v)
  (hs:List Nat) (h: ∀ K t,Ok (sv prog w A Q h₀ mu os t₀) (contOf R hs (.ok (.ret v)) ⟨setD (stOf R).D j (iterO l (i+1)),K+278,0,t+849,0,[]⟩)):Ok (sv prog w A Q h₀ mu os t₀) R:=
 ok_upd ob Rm h0 hj (fun sh B S zz zz=>next_item S.gens (by rw [S.toks]; exact S.t849) (S.own j _ (by rw [←getD_eq]; exact hj)) (S.own m _ (by rw [←getD_eq]; exact hm)) hx) hs h
theorem ok_last {it l i n:Nat} {xs:Array Value} {j m:Nat} (ob:obsS R=(2,dup (lgOf R),none,true,.call (.builtin "list_iterator.__next__") ⟨[.ref it],[]⟩)) (Rm:Room (k+1) A) (h0:278≤h₀.objs.size)
  (hj:getD (stOf R).D j=some (it,iterO l i)) (hm:getD (stOf R).D m=some (l,listO xs n)) (hx:xs[i]? =none)
  (hs:List Nat) (h: ∀ e vs o K t,Ok (sv prog w A Q h₀ mu os t₀) (contOf R hs (.error (.ref e)) ⟨apL (setD (stOf R).D j o) [(e,stopO vs)],K+278,0,t+849,0,[]⟩)):Ok (sv prog w A Q h₀ mu os t₀) R:=by
 refine ok_gen (T:=fun r o D'=>∃ e vs,r= .error (.ref e)∧D'= [(e,stopO vs)]) ob Rm h0 hj (fun sh B S T0 RB=>?_) hs ?_
 ·refine codeAny_mono (next_end S.gens (by rw [S.toks]; exact S.t849) RB.handled (S.own j _ (by rw [←getD_eq]; exact hj)) (S.own m _ (by rw [←getD_eq]; exact hm)) hx) fun r sh' hq=>x42 hq fun e vs h1 X h2 h3 o h4=>?_
  exact ⟨o,[(e,stopO vs)],⟨e,vs,h1,rfl⟩,X,h4,.cons h3 h2 (fun i x e=>by simp at e) .nil⟩
 ·rintro r o D' ⟨e,vs,rfl,rfl⟩ K t
  exact h e vs o K t
theorem ok_append {l n:Nat} {xs:Array Value} {v:Value} {j:Nat} (ob:obsS R=(2,dup (lgOf R),none,true,.call (.builtin "list.append") ⟨[.ref l,v],[]⟩)) (Rm:Room (k+1) A) (h0:278≤h₀.objs.size)
  (hj:getD (stOf R).D j=some (l,listO xs n)) (hsz:xs.size≤1000)
  (hs:List Nat) (h: ∀ K t,Ok (sv prog w A Q h₀ mu os t₀) (contOf R hs (.ok (.ret .none)) ⟨setD (stOf R).D j (listO (xs.push v) (n+1)),K+278,0,t+849,0,[]⟩)):Ok (sv prog w A Q h₀ mu os t₀) R:=
 ok_upd ob Rm h0 hj (fun sh B S zz zz=>append_spec S.gens (by rw [S.toks]; exact S.t849) (S.own j _ (by rw [←getD_eq]; exact hj)) hsz) hs h
end
noncomputable def CNext (it l i n:Nat) (xs:Array Value) (j m:Nat) (v:Value) (hs:List Nat) (P:Rs→Prop) (R:Rs):Prop:=
 obsS R=(2,dup (lgOf R),none,true,.call (.builtin "list_iterator.__next__") ⟨[.ref it],[]⟩)∧getD (stOf R).D j=some (it,iterO l i)∧getD (stOf R).D m=some (l,listO xs n)∧
  ∀ K t,P (contOf R hs (.ok (.ret v)) ⟨setD (stOf R).D j (iterO l (i+1)),K+278,0,t+849,0,[]⟩)
noncomputable instance CNext.rf {it l i n:Nat} {xs:Array Value} {j m:Nat} {v:Value} {hs:List Nat} {P:Rs→Prop} {R:Rs} [∀ y1,Rf (P y1)]:Rf (CNext it l i n xs j m v hs P R):=by
 delta CNext; infer_instance
noncomputable def CLast (it l i n:Nat) (xs:Array Value) (j m:Nat) (hs:List Nat) (P:Nat→Rs→Prop) (R:Rs):Prop:=
 obsS R=(2,dup (lgOf R),none,true,.call (.builtin "list_iterator.__next__") ⟨[.ref it],[]⟩)∧getD (stOf R).D j=some (it,iterO l i)∧getD (stOf R).D m=some (l,listO xs n)∧
  ∀ e vs o K t,P e (contOf R hs (.error (.ref e)) ⟨apL (setD (stOf R).D j o) [(e,stopO vs)],K+278,0,t+849,0,[]⟩)
noncomputable instance CLast.rf {it l i n:Nat} {xs:Array Value} {j m:Nat} {hs:List Nat} {P:Nat→Rs→Prop} {R:Rs} [∀ y1 y2,Rf (P y1 y2)]:Rf (CLast it l i n xs j m hs P R):=by
 delta CLast; infer_instance
noncomputable def CApp (l n:Nat) (xs:Array Value) (v:Value) (j:Nat) (hs:List Nat) (P:Rs→Prop) (R:Rs):Prop:=
 obsS R=(2,dup (lgOf R),none,true,.call (.builtin "list.append") ⟨[.ref l,v],[]⟩)∧getD (stOf R).D j=some (l,listO xs n)∧
  ∀ K t,P (contOf R hs (.ok (.ret .none)) ⟨setD (stOf R).D j (listO (xs.push v) (n+1)),K+278,0,t+849,0,[]⟩)
noncomputable instance CApp.rf {l n:Nat} {xs:Array Value} {v:Value} {j:Nat} {hs:List Nat} {P:Rs→Prop} {R:Rs} [∀ y1,Rf (P y1)]:Rf (CApp l n xs v j hs P R):=by
 delta CApp; infer_instance
noncomputable def CExt (c:Code) (r:Result) (hs:List Nat) (P:Rs→Prop) (R:Rs):Prop:=
 obsS R=(2,dup (lgOf R),none,true,c)∧∀ K t,P (contOf R hs r ⟨(stOf R).D,K+278,0,t+849,0,[]⟩)
noncomputable instance CExt.rf {c:Code} {r:Result} {hs:List Nat} {P:Rs→Prop} {R:Rs} [∀ y1,Rf (P y1)]:Rf (CExt c r hs P R):=by
 delta CExt; infer_instance
noncomputable def CLoop (c:Code) (P:St→Prop) (R:Rs):Prop:=obsL R=(1,dup (lgOf R),c)∧P (stOf R)
noncomputable instance CLoop.rf {c:Code} {P:St→Prop} {R:Rs} [∀ y1,Rf (P y1)]:Rf (CLoop c P R):=by
 delta CLoop; infer_instance
noncomputable def CEnd (r:Result) (P:St→Prop) (R:Rs):Prop:=obsD R=(0,dup (lgOf R),r)∧P (stOf R)
noncomputable instance CEnd.rf {r:Result} {P:St→Prop} {R:Rs} [∀ y1,Rf (P y1)]:Rf (CEnd r P R):=by
 delta CEnd; infer_instance
section
variable {prog:Program} {w:World} {A:Around} {Q:Result→Shared→Prop} {h₀:Heap} {mu:Nat→Prop} {os:OsState} {t₀:Nat} {R:Rs} {c:Code} {k:Nat} {hs:List Nat} {P:Rs→Prop} {r:Result}
theorem CNext.ok {it l i n:Nat} {xs:Array Value} {v:Value} {j m:Nat} (H:CNext it l i n xs j m v hs P R) (Rm:Room (k+1) A) (h0:278≤h₀.objs.size) (hx:xs[i]? =some v)
  (h: ∀ R',P R'→Ok (sv prog w A Q h₀ mu os t₀) R'):Ok (sv prog w A Q h₀ mu os t₀) R:=
 ok_next H.1 Rm h0 H.2.1 H.2.2.1 hx hs fun K t=>h _ (H.2.2.2 K t)
theorem CLast.ok {it l i n:Nat} {xs:Array Value} {j m:Nat} {P:Nat→Rs→Prop} (H:CLast it l i n xs j m hs P R) (Rm:Room (k+1) A) (h0:278≤h₀.objs.size) (hx:xs[i]? =none)
  (h: ∀ e R',P e R'→Ok (sv prog w A Q h₀ mu os t₀) R'):Ok (sv prog w A Q h₀ mu os t₀) R:=
 ok_last H.1 Rm h0 H.2.1 H.2.2.1 hx hs fun e vs o K t=>h _ _ (H.2.2.2 e vs o K t)
theorem CApp.ok {l n:Nat} {xs:Array Value} {v:Value} {j:Nat} (H:CApp l n xs v j hs P R) (Rm:Room (k+1) A) (h0:278≤h₀.objs.size) (hsz:xs.size≤1000)
  (h: ∀ R',P R'→Ok (sv prog w A Q h₀ mu os t₀) R'):Ok (sv prog w A Q h₀ mu os t₀) R:=
 ok_append H.1 Rm h0 H.2.1 hsz hs fun K t=>h _ (H.2.2 K t)
theorem CExt.ok (H:CExt c r hs P R) (Rm:Room (k+1) A) (h0:278≤h₀.objs.size)
  (spec: ∀ sh B,Sat (sv prog w A Q h₀ mu os t₀) (stOf R) sh→Top w sh→Room k B→codeAny (model prog w) B c (fun r' sh'=>r'=r∧Ext none_ sh sh') sh)
  (h: ∀ R',P R'→Ok (sv prog w A Q h₀ mu os t₀) R'):Ok (sv prog w A Q h₀ mu os t₀) R:=
 ok_ext H.1 Rm h0 spec hs fun K t=>h _ (H.2 K t)
theorem CLoop.ok {P:St→Prop} (H:CLoop c P R) (h: ∀ sh,P (stOf R)→Sat (sv prog w A Q h₀ mu os t₀) (stOf R) sh→codeAny (model prog w) A c Q sh):Ok (sv prog w A Q h₀ mu os t₀) R:=
 ok_again H.1 fun sh S=>h sh H.2 S
theorem CEnd.ok {P:St→Prop} (H:CEnd r P R) (h: ∀ sh,P (stOf R)→Sat (sv prog w A Q h₀ mu os t₀) (stOf R) sh→Q r sh):Ok (sv prog w A Q h₀ mu os t₀) R:=
 ok_end H.1 fun sh S=>h sh H.2 S
end
theorem Sat.obj {V:Sv} {s:St} {sh:Shared} (S:Sat V s sh) {j:Nat} {a:Nat} {o:Obj} (h:getD s.D j=some (a,o)):sh.heap.get? a=some o:=S.own j (a,o) (by rw [←getD_eq]; exact h)
noncomputable def kne (a b:Value):Bool:=match a with
 | .type s=>match b with
  | .type s'=>match Nat.beq (PySem.code s) (PySem.code s') with
   | true=>false
   | false=>true
  | .ref _=>true
  | _=>false
 | .ref _=>match b with
  | .type _=>true
  | _=>false
 | _=>false
theorem kne_self (a:Value):kne a a=false:=by
 cases a<;>simp [kne,Nat.beq_refl]
theorem ne_nil {a:Nat} : ∀ (i:Nat) (x:Nat×Obj),([]:List (Nat×Obj))[i]? =some x→x.1≠a:=fun i x h=>by simp at h
theorem ne_cons {a b:Nat} {o:Obj} {l:List (Nat×Obj)} (h:b≠a) (r: ∀ (i:Nat) (x:Nat×Obj),l[i]? =some x→x.1≠a): ∀ (i:Nat) (x:Nat×Obj),((b,o)::l)[i]? =some x→x.1≠a:=by
 intro i x e
 cases i with
 | zero=>simp at e; subst e; exact h
 | succ i=>simp at e; exact r i x e
theorem ne_of {h:Heap} {a b:Nat} {o o':Obj} (h1:h.get? a=some o) (h2:h.get? b=some o') (hne:kne o.cls o'.cls=true):b≠a:=by
 rintro rfl
 rw [h1] at h2
 cases h2
 rw [kne_self] at hne
 cases hne
noncomputable def OwnAll (lo:Nat) (sh:Shared):List (Nat×Obj)→Prop
 | []=>True
 | x::l=>(sh.heap.get? x.1=some x.2∧lo≤x.1)∧OwnAll lo sh l
noncomputable def apart1 (o:Obj):List (Nat×Obj)→Bool
 | []=>true
 | x::l=>match kne o.cls x.2.cls with
  | true=>apart1 o l
  | false=>false
noncomputable def apartB:List (Nat×Obj)→Bool
 | []=>true
 | x::l=>match apart1 x.2 l with
  | true=>apartB l
  | false=>false
theorem ne_apart {sh:Shared} {a:Nat} {o:Obj} (h:sh.heap.get? a=some o): ∀ {l:List (Nat×Obj)} {lo:Nat},OwnAll lo sh l→apart1 o l=true→∀ (i:Nat) (x:Nat×Obj),l[i]? =some x→x.1≠a
 | [],_,_,_,i,x,e=>by simp at e
 | y::l,lo,H,hb,i,x,e=>by
  unfold apart1 at hb
  cases q:kne o.cls y.2.cls with
  | false=>rw [q] at hb; cases hb
  | true=>
   rw [q] at hb
   cases i with
   | zero=>simp at e; subst e; exact ne_of h H.1.1 q
   | succ i=>simp at e; exact ne_apart h H.2 hb i x e
theorem Facts.of {sh:Shared} {lo:Nat} : ∀ {D:List (Nat×Obj)},OwnAll lo sh D→apartB D=true→Facts lo sh D
 | [],_,_=>.nil
 | x::l,H,hb=>by
  unfold apartB at hb
  cases q:apart1 x.2 l with
  | false=>rw [q] at hb; cases hb
  | true=>
   rw [q] at hb
   exact .cons H.1.1 H.1.2 (ne_apart H.1.1 H.2 q) (Facts.of H.2 hb)
noncomputable def keepD:List Bool→List (Nat×Obj)→List (Nat×Obj)
 | [],_=> []
 | _::_,[]=> []
 | c::cs,x::l=>match c with
  | true=>keepD cs l
  | false=>x::keepD cs l
noncomputable def chD:List Bool→List (Nat×Obj)→Nat→Prop
 | [],l=>inD l
 | _::_,[]=>none_
 | c::cs,x::l=>match c with
  | true=>fun b=>b=x.1∨chD cs l b
  | false=>chD cs l
theorem chD_or: ∀ {cs:List Bool} {D:List (Nat×Obj)} {b:Nat},inD D b→chD cs D b∨∃ x∈keepD cs D,x.1=b
 | [],_,_,h=>.inl h
 | _::_,[],_,h=>h.elim
 | true::cs,x::l,b,h=>by
  rcases h with h | h
  ·exact .inl (.inl h)
  ·rcases chD_or (cs:=cs) h with h | ⟨y,h1,h2⟩
   ·exact .inl (.inr h)
   ·exact .inr ⟨y,h1,h2⟩
 | false::cs,x::l,b,h=>by
  rcases h with h | h
  ·exact .inr ⟨x,List.mem_cons_self,h.symm⟩
  ·rcases chD_or (cs:=cs) h with h | ⟨y,h1,h2⟩
   ·exact .inl h
   ·exact .inr ⟨y,List.mem_cons_of_mem _ h1,h2⟩
theorem keepD_sub: ∀ {cs:List Bool} {D:List (Nat×Obj)} {x:Nat×Obj},x∈keepD cs D→x∈D
 | [],_,_,h=>by simp [keepD] at h
 | _::_,[],_,h=>by simp [keepD] at h
 | true::cs,y::l,x,h=>List.mem_cons_of_mem _ (keepD_sub (cs:=cs) h)
 | false::cs,y::l,x,h=>by
  rcases List.mem_cons.mp h with rfl | h
  ·exact List.mem_cons_self
  ·exact List.mem_cons_of_mem _ (keepD_sub (cs:=cs) h)
theorem Sat.only {V:Sv} {s:St} {sh sh':Shared} {D:List (Nat×Obj)} (S:Sat V s sh') (hm:V.mu=inD D) (h0:V.h₀=sh.heap) (ho:V.os=sh.os) {lo:Nat} (F:Facts lo sh D) {cs:List Bool} (e:keepD cs s.D=keepD cs D) (ht:V.t₀=sh.toks:=by rfl):Ext (chD cs D) sh sh':=by
 refine (S.ext (sh₀:=sh) h0 ho ht).mono fun b o hb hmu=>?_
 rw [hm] at hmu
 rcases chD_or (cs:=cs) hmu with h | ⟨x,h1,rfl⟩
 ·exact .inl h
 ·refine .inr ?_
  have hx:=keepD_sub h1
  rw [←e] at h1
  have hy:=keepD_sub h1
  refine x1 (List.mem_iff_getElem?.mp hx) fun i hi=>?_
  refine x1 (List.mem_iff_getElem?.mp hy) fun j hj=>?_
  have q:=(F.own i x hi).1
  rw [q] at hb
  cases hb
  exact S.own j x hj
noncomputable def keepA:List Bool→List (Nat×Obj)→List (Nat×Obj)
 | [],l=>l
 | _::_,[]=> []
 | c::cs,x::l=>match c with
  | true=>keepA cs l
  | false=>x::keepA cs l
noncomputable def chA:List Bool→List (Nat×Obj)→Nat→Prop
 | [],_=>none_
 | _::_,[]=>none_
 | c::cs,x::l=>match c with
  | true=>fun b=>b=x.1∨chA cs l b
  | false=>chA cs l
noncomputable def pick:List Nat→List (Nat×Obj)→List (Nat×Obj)
 | [],_=> []
 | j::js,D=>match getD D j with
  | some x=>x::pick js D
  | none=>pick js D
theorem pick_sub: ∀ {js:List Nat} {D:List (Nat×Obj)} {x:Nat×Obj},x∈pick js D→∃ i:Nat,D[i]? =some x
 | [],_,_,h=>by simp [pick] at h
 | j::js,D,x,h=>by
  unfold pick at h
  cases q:getD D j with
  | none=>rw [q] at h; exact pick_sub h
  | some y=>
   rw [q] at h
   rcases List.mem_cons.mp h with rfl | h
   ·exact ⟨j,by rw [←getD_eq]; exact q⟩
   ·exact pick_sub h
theorem keepA_idx: ∀ {cs:List Bool} {D:List (Nat×Obj)} {i:Nat} {x:Nat×Obj},(keepA cs D)[i]? =some x→∃ j:Nat,D[j]? =some x∧i≤j∧ ¬ (cs[j]? =some true)
 | [],D,i,x,h=>⟨i,h,Nat.le_refl _,by simp⟩
 | _::_,[],i,x,h=>by simp [keepA] at h
 | true::cs,y::l,i,x,h=>by
  refine x5 (keepA_idx (cs:=cs) (D:=l) h) fun j h1 h2 h3=>?_
  exact ⟨j+1,by simpa using h1,by lia,by simpa using h3⟩
 | false::cs,y::l,i,x,h=>by
  cases i with
  | zero=>simp [keepA] at h; exact ⟨0,by simp [h],Nat.le_refl _,by simp⟩
  | succ i=>
   have h':(keepA cs l)[i]? =some x:=by simpa [keepA] using h
   refine x5 (keepA_idx (cs:=cs) (D:=l) h') fun j h1 h2 h3=>?_
   exact ⟨j+1,by simpa using h1,by lia,by simpa using h3⟩
theorem keepA_inj: ∀ {cs:List Bool} {D:List (Nat×Obj)},(∀ (i j:Nat) (x y:Nat×Obj),D[i]? =some x→D[j]? =some y→x.1=y.1→i=j)→∀ (i j:Nat) (x y:Nat×Obj),(keepA cs D)[i]? =some x→(keepA cs D)[j]? =some y→x.1=y.1→i=j
 | [],_,h=>h
 | _::_,[],h=>by intro i j x y hx; simp [keepA] at hx
 | true::cs,z::l,h=>keepA_inj (cs:=cs) (D:=l) fun i j x y hx hy e=>by
   have:=h (i+1) (j+1) x y (by simpa using hx) (by simpa using hy) e
   lia
 | false::cs,z::l,h=>by
  intro i j x y hx hy e
  have ih:=keepA_inj (cs:=cs) (D:=l) fun i j x y hx hy e=>by
   have:=h (i+1) (j+1) x y (by simpa using hx) (by simpa using hy) e
   lia
  cases i with
  | zero=>
   cases j with
   | zero=>rfl
   | succ j=>
    have hx':z=x:=by simpa [keepA] using hx
    have hy':(keepA cs l)[j]? =some y:=by simpa [keepA] using hy
    refine x0 (keepA_idx hy') fun q hq zz=>?_
    have:=h 0 (q+1) x y (by simp [hx']) (by simpa using hq) e
    lia
  | succ i=>
   have hx':(keepA cs l)[i]? =some x:=by simpa [keepA] using hx
   cases j with
   | zero=>
    have hy':z=y:=by simpa [keepA] using hy
    refine x0 (keepA_idx hx') fun q hq zz=>?_
    have:=h (q+1) 0 x y (by simpa using hq) (by simp [hy']) e
    lia
   | succ j=>
    have hy':(keepA cs l)[j]? =some y:=by simpa [keepA] using hy
    rw [ih i j x y hx' hy' e]
theorem chA_idx: ∀ {cs:List Bool} {D:List (Nat×Obj)} {b:Nat},chA cs D b→∃ (j:Nat) (x:Nat×Obj),D[j]? =some x∧cs[j]? =some true∧b=x.1
 | [],_,_,h=>h.elim
 | _::_,[],_,h=>h.elim
 | true::cs,y::l,b,h=>by
  rcases h with h | h
  ·exact ⟨0,y,by simp,by simp,h⟩
  ·refine x10 (chA_idx (cs:=cs) h) fun j x h1 h2 h3=>?_
   exact ⟨j+1,x,by simpa using h1,by simpa using h2,h3⟩
 | false::cs,y::l,b,h=>by
  refine x10 (chA_idx (cs:=cs) (D:=l) h) fun j x h1 h2 h3=>?_
  exact ⟨j+1,x,by simpa using h1,by simpa using h2,h3⟩
section
variable {V:Sv} {R:Rs}
theorem Sat.drop {s:St} {sh sh':Shared} (hk: ∀ a o,V.kt.get a=some o→a<277) (h0:278≤V.h₀.objs.size) (S:Sat V s sh) {cs:List Bool} (X:Ext (chA cs s.D) sh sh')
  {D':List (Nat×Obj)} (N:Facts sh.heap.objs.size sh' D') {b t:Nat} (hb:sh'.heap.objs.size=b) (ht:sh'.toks=t):Sat V ⟨apL (keepA cs s.D) D',b,0,t,0,[]⟩ sh':=by
 have hsz:V.h₀.objs.size≤sh.heap.objs.size:=by rw [S.size]; exact S.grow
 have S1:Sat V ⟨keepA cs s.D,b,0,t,0,[]⟩ sh':=S.next X (fun b' o e h=>by
   refine x10 (chA_idx h) fun j x h1 zz hr1=>?_; subst hr1
   rcases S.muD j x h1 with q | q
   ·exact q
   ·exact absurd (Heap.lt_size e) (Nat.not_lt.mpr q))
  (fun b' o e h=>by
   refine x10 (chA_idx h) fun j x h1 zz hr2=>?_; subst hr2
   rw [S.ktno j x h1] at e; cases e) _ (fun i x e=>by
   refine x5 (keepA_idx e) fun j h1 zz h3=>?_
   refine ⟨X.keep _ _ (S.own j x h1) fun q=>?_,S.muD j x h1,S.ktno j x h1⟩
   refine x10 (chA_idx q) fun j' x' h1' h2' h3'=>?_
   rw [S.apart j j' x x' h1 h1' h3'] at h3
   exact h3 h2') (keepA_inj S.apart) hb ht
 have spl: ∀ (i:Nat) (y:Nat×Obj),(apL (keepA cs s.D) D')[i]? =some y→(keepA cs s.D)[i]? =some y∨∃ k,i=(keepA cs s.D).length+k∧D'[k]? =some y:=by
  intro i y h
  rw [apL_eq,List.getElem?_append] at h
  split at h
  ·exact .inl h
  ·exact .inr ⟨i - (keepA cs s.D).length,by lia,h⟩
 have low: ∀ (i:Nat) (y:Nat×Obj),(keepA cs s.D)[i]? =some y→y.1<sh.heap.objs.size:=fun i y h=>by
  refine x0 (keepA_idx h) fun j h1 zz=>?_
  exact Heap.lt_size (S.own j y h1)
 refine ⟨S1.size,S1.toks,S1.gens,S1.os,S1.kt,fun i y h=>?_,fun i k y z h1 h2 e=>?_,fun i y h=>?_,S1.keep,fun i y h=>?_,S1.grow,S1.t849,S1.t0⟩
 ·rcases spl i y h with h | ⟨k,_,h⟩
  ·exact S1.own i y h
  ·exact (N.own k y h).1
 ·rcases spl i y h1 with h1 | ⟨k1,e1,h1⟩<;>rcases spl k z h2 with h2 | ⟨k2,e2,h2⟩
  ·exact S1.apart i k y z h1 h2 e
  ·have:=low i y h1
   have:=(N.own k2 z h2).2
   lia
  ·have:=low k z h2
   have:=(N.own k1 y h1).2
   lia
  ·rw [e1,e2,N.apart k1 k2 y z h1 h2 e]
 ·rcases spl i y h with h | ⟨k,_,h⟩
  ·exact S1.ktno i y h
  ·cases q:V.kt.get y.1 with
   | none=>rfl
   | some o'=>
    have:=hk _ _ q
    have:=(N.own k y h).2
    lia
 ·rcases spl i y h with h | ⟨k,_,h⟩
  ·exact S1.muD i y h
  ·exact .inr (Nat.le_trans hsz (N.own k y h).2)
end
noncomputable def CCall {X:Type} (c:St→Code) (pre:St→Prop) (r:X→Result) (cs:List Bool) (D':X→List (Nat×Obj)) (hs:List Nat) (P:X→Rs→Prop) (R:Rs):Prop:=
 obsS R=(2,dup (lgOf R),none,true,c (stOf R))∧pre (stOf R)∧∀ x K t,P x (contOf R hs (r x) ⟨apL (keepA cs (stOf R).D) (D' x),K+278,0,t+849,0,[]⟩)
noncomputable instance CCall.rf {X:Type} {c:St→Code} {pre:St→Prop} {r:X→Result} {cs:List Bool} {D':X→List (Nat×Obj)} {hs:List Nat} {P:X→Rs→Prop} {R:Rs} [Rx X] [∀ y1,Rf (pre y1)] [∀ y1 y2,Rf (P y1 y2)]:Rf (CCall c pre r cs D' hs P R):=by
 delta CCall; infer_instance
section
variable {prog:Program} {w:World} {A:Around} {Q:Result→Shared→Prop} {h₀:Heap} {mu:Nat→Prop} {os:OsState} {t₀:Nat} {R:Rs} {k:Nat} {hs:List Nat}
theorem CCall.ok {X:Type} {c:St→Code} {pre:St→Prop} {r:X→Result} {cs:List Bool} {D':X→List (Nat×Obj)} {P:X→Rs→Prop} (T:X→Prop) (H:CCall c pre r cs D' hs P R) (Rm:Room (k+1) A) (h0:278≤h₀.objs.size)
  (spec: ∀ s sh B,pre s→Sat (sv prog w A Q h₀ mu os t₀) s sh→Top w sh→Room k B→codeAny (model prog w) B (c s) (fun r' sh'=>∃ x,r'=r x∧T x∧Ext (chA cs s.D) sh sh'∧Facts sh.heap.objs.size sh' (D' x)) sh)
  (h: ∀ x R',T x→P x R'→Ok (sv prog w A Q h₀ mu os t₀) R'):Ok (sv prog w A Q h₀ mu os t₀) R:=by
 refine ok_stop H.1 fun sh S B h1 h2 h3=>?_
 have T0:=topW w S rfl h0
 refine codeAny_mono (spec _ sh B H.2.1 S T0 (Rm.down h1 h2 h3)) fun r' sh' hq=>x22 hq fun x hr ht X N=>?_
 have hz:278≤sh'.heap.objs.size:=Nat.le_trans T0.size X.size
 have q:=h x _ ht (H.2.2 x (sh'.heap.objs.size - 278) (sh'.toks - 849))
 subst hr
 exact ⟨hs,_,Sat.drop (fun zz zz e=>kt_low e) h0 S X N (b:=sh'.heap.objs.size - 278+278) (t:=sh'.toks - 849+849) (Nat.sub_add_cancel hz).symm (Nat.sub_add_cancel X.t849).symm,q⟩
end
theorem Sat.all {V:Sv} {s:St} {sh sh':Shared} {D:List (Nat×Obj)} (S:Sat V s sh') (hm:V.mu=inD D) (h0:V.h₀=sh.heap) (hz:277≤sh.heap.objs.size) (F:Facts 277 sh D) {js:List Nat} : ∀ {D2:List (Nat×Obj)},pick js s.D=D2→OwnAll 277 sh' D2:=by
 suffices h: ∀ D2:List (Nat×Obj),(∀ x∈D2,∃ i:Nat,s.D[i]? =some x)→OwnAll 277 sh' D2 by
  intro D2 e
  subst e
  exact h _ fun x hx=>pick_sub hx
 intro D2
 induction D2 with
 | nil=>intro _; trivial
 | cons x l ih=>
  intro h
  refine x1 (h x List.mem_cons_self) fun i hi=>?_
  refine ⟨⟨S.own i x hi,?_⟩,ih fun y hy=>h y (List.mem_cons_of_mem _ hy)⟩
  rcases S.muD i x hi with q | q
  ·rw [hm] at q
   clear hi
   have: ∀ {D:List (Nat×Obj)},Facts 277 sh D→inD D x.1→277≤x.1:=by
    intro D F q
    induction F with
    | nil=>exact q.elim
    | cons h hlo hne r ih=>
     rcases q with q | q
     ·rw [q]; exact hlo
     ·exact ih q
   exact this F q
  ·rw [h0] at q; lia
theorem chA_of: ∀ {cs:List Bool} {D:List (Nat×Obj)} {j:Nat} {x:Nat×Obj},cs[j]? =some true→D[j]? =some x→chA cs D x.1
 | [],_,j,_,h,_=>by simp at h
 | _::_,[],j,_,_,h=>by simp at h
 | true::cs,y::l,j,x,h,e=>by
  cases j with
  | zero=>simp at e; subst e; exact .inl rfl
  | succ j=>exact .inr (chA_of (cs:=cs) (j:=j) (by simpa using h) (by simpa using e))
 | false::cs,y::l,j,x,h,e=>by
  cases j with
  | zero=>simp at h
  | succ j=>exact chA_of (cs:=cs) (j:=j) (by simpa using h) (by simpa using e)
theorem aOf_get {s:St} {j:Nat} (h:(getD s.D j).isSome=true):s.D[j]? =some (aOf s j,dOf s j):=by
 rw [←getD_eq]
 unfold aOf dOf
 cases q:getD s.D j with
 | none=>rw [q] at h; cases h
 | some x=>rfl
theorem chA_at {cs:List Bool} {s:St} {j:Nat} (h:(getD s.D j).isSome=true) (hc:cs[j]? =some true):chA cs s.D (aOf s j):=chA_of hc (aOf_get h)
section
variable {V:Sv}
theorem Sat.swap {s:St} {sh sh':Shared} (hk: ∀ a o,V.kt.get a=some o→a<277) (h0:278≤V.h₀.objs.size) (S:Sat V s sh) {cs:List Bool} (X:Ext (chA cs s.D) sh sh')
  {D':List (Nat×Obj)} (N:Facts 277 sh' D') (N2: ∀ y∈D',sh.heap.objs.size≤y.1∨chA cs s.D y.1) {b t:Nat} (hb:sh'.heap.objs.size=b) (ht:sh'.toks=t):Sat V ⟨apL (keepA cs s.D) D',b,0,t,0,[]⟩ sh':=by
 have hsz:V.h₀.objs.size≤sh.heap.objs.size:=by rw [S.size]; exact S.grow
 have S1:Sat V ⟨apL (keepA cs s.D) [],b,0,t,0,[]⟩ sh':=S.drop hk h0 X .nil hb ht
 have e0:apL (keepA cs s.D) []=keepA cs s.D:=by rw [apL_eq]; simp
 rw [e0] at S1
 have spl: ∀ (i:Nat) (y:Nat×Obj),(apL (keepA cs s.D) D')[i]? =some y→(keepA cs s.D)[i]? =some y∨∃ k,i=(keepA cs s.D).length+k∧D'[k]? =some y:=by
  intro i y h
  rw [apL_eq,List.getElem?_append] at h
  split at h
  ·exact .inl h
  ·exact .inr ⟨i - (keepA cs s.D).length,by lia,h⟩
 have ne: ∀ (i k:Nat) (y z:Nat×Obj),(keepA cs s.D)[i]? =some y→D'[k]? =some z→y.1≠z.1:=by
  intro i k y z h1 h2 e
  refine x5 (keepA_idx h1) fun j g1 zz g3=>?_
  rcases N2 z (List.mem_of_getElem? h2) with q | q
  ·have:=Heap.lt_size (S.own j y g1)
   rw [e] at this
   exact absurd this (Nat.not_lt.mpr q)
  ·refine x10 (chA_idx q) fun j' x' q1 q2 q3=>?_
   have:=S.apart j j' y x' g1 q1 (e.trans q3)
   subst this
   exact g3 q2
 refine ⟨S1.size,S1.toks,S1.gens,S1.os,S1.kt,fun i y h=>?_,fun i k y z h1 h2 e=>?_,fun i y h=>?_,S1.keep,fun i y h=>?_,S1.grow,S1.t849,S1.t0⟩
 ·rcases spl i y h with h | ⟨k,_,h⟩
  ·exact S1.own i y h
  ·exact (N.own k y h).1
 ·rcases spl i y h1 with h1 | ⟨k1,e1,h1⟩<;>rcases spl k z h2 with h2 | ⟨k2,e2,h2⟩
  ·exact S1.apart i k y z h1 h2 e
  ·exact absurd e (ne i k2 y z h1 h2)
  ·exact absurd e.symm (ne k k1 z y h2 h1)
  ·rw [e1,e2,N.apart k1 k2 y z h1 h2 e]
 ·rcases spl i y h with h | ⟨k,_,h⟩
  ·exact S1.ktno i y h
  ·cases q:V.kt.get y.1 with
   | none=>rfl
   | some o'=>
    have:=hk _ _ q
    have:=(N.own k y h).2
    lia
 ·rcases spl i y h with h | ⟨k,_,h⟩
  ·exact S1.muD i y h
  ·rcases N2 y (List.mem_of_getElem? h) with q | q
   ·exact .inr (Nat.le_trans hsz q)
   ·refine x10 (chA_idx q) fun j' x' q1 q2 q3=>?_
    rw [q3]
    exact S.muD j' x' q1
end
section
variable {prog:Program} {w:World} {A:Around} {Q:Result→Shared→Prop} {h₀:Heap} {mu:Nat→Prop} {os:OsState} {t₀:Nat} {R:Rs} {k:Nat} {hs:List Nat}
end
noncomputable def CSw {X:Type} (c:St→Code) (pre:St→Prop) (r:X→Result) (cs:List Bool) (D':St→X→List (Nat×Obj)) (hs:X→List Nat) (P:X→Rs→Prop) (R:Rs):Prop:=
 obsS R=(2,dup (lgOf R),none,true,c (stOf R))∧pre (stOf R)∧∀ x K t,P x (contOf R (hs x) (r x) ⟨apL (keepA cs (stOf R).D) (D' (stOf R) x),K+278,0,t+849,0,[]⟩)
noncomputable instance CSw.rf {X:Type} {c:St→Code} {pre:St→Prop} {r:X→Result} {cs:List Bool} {D':St→X→List (Nat×Obj)} {hs:X→List Nat} {P:X→Rs→Prop} {R:Rs} [Rx X] [∀ y1,Rf (pre y1)] [∀ y1 y2,Rf (P y1 y2)]:Rf (CSw c pre r cs D' hs P R):=by
 delta CSw; infer_instance
section
variable {prog:Program} {w:World} {A:Around} {Q:Result→Shared→Prop} {h₀:Heap} {mu:Nat→Prop} {os:OsState} {t₀:Nat} {R:Rs} {k:Nat}
noncomputable abbrev Po {X:Type} (lo:Nat) (r:X→Result) (T:X→Prop) (mu:Nat→Prop) (D':X→List (Nat×Obj)) (sh:Shared) (r':Result) (sh':Shared):Prop:=∃ x,r'=r x∧T x∧Ext mu sh sh'∧Facts lo sh' (D' x)∧∀ y∈D' x,sh.heap.objs.size≤y.1∨mu y.1
noncomputable abbrev PoS {X:Type} (r:X→Result) (T:X→Shared→Prop) (mu:Nat→Prop) (D':X→List (Nat×Obj)) (sh:Shared) (r':Result) (sh':Shared):Prop:=∃ x,r'=r x∧T x sh'∧Ext mu sh sh'∧Facts 0 sh' (D' x)∧∀ y∈D' x,sh.heap.objs.size≤y.1∨mu y.1
theorem CSw.ok {X:Type} {c:St→Code} {pre:St→Prop} {r:X→Result} {cs:List Bool} {D':St→X→List (Nat×Obj)} {hs:X→List Nat} {P:X→Rs→Prop} (T:X→Prop) (H:CSw c pre r cs D' hs P R) (Rm:Room (k+1) A) (h0:278≤h₀.objs.size)
  (spec: ∀ s sh B,pre s→Sat (sv prog w A Q h₀ mu os t₀) s sh→Top w sh→Room k B→codeAny (model prog w) B (c s) (Po 277 r T (chA cs s.D) (D' s) sh) sh)
  (h: ∀ x R',T x→P x R'→Ok (sv prog w A Q h₀ mu os t₀) R'):Ok (sv prog w A Q h₀ mu os t₀) R:=by
 refine ok_stop H.1 fun sh S B h1 h2 h3=>?_
 have T0:=topW w S rfl h0
 refine codeAny_mono (spec _ sh B H.2.1 S T0 (Rm.down h1 h2 h3)) fun r' sh' hq=>x16 hq fun x hr ht X N N2=>?_
 have hz:278≤sh'.heap.objs.size:=Nat.le_trans T0.size X.size
 have q:=h x _ ht (H.2.2 x (sh'.heap.objs.size - 278) (sh'.toks - 849))
 subst hr
 exact ⟨hs x,_,Sat.swap (fun zz zz e=>kt_low e) h0 S X N N2 (b:=sh'.heap.objs.size - 278+278) (t:=sh'.toks - 849+849) (Nat.sub_add_cancel hz).symm (Nat.sub_add_cancel X.t849).symm,q⟩
end
end Mine
namespace Mine
open PySem PySem.W PyProof.Rows PySem.Calls
noncomputable def orderOf (lt:Nat→Nat→Bool) (n:Nat):List Nat:=if n<2 then List.range n else (krun lt (kas_sort n)).toList
structure SortOk (M:Model) (A:Around) (f:Value) (vs:List Value) (lt:Nat→Nat→Bool) (κ:SortKind) (sh:Shared) (KP:Shared→Nat→Value→Prop):Prop where
 stable: ∀ s s' mu i k,KP s i k→Ext mu s s'→(∀ b o,mu b→s.heap.get? b=some o→o.cls= .type "list")→KP s' i k
 key: ∀ i v s,vs[i]? =some v→Ext none_ sh s→wpAny M A (call f [v]) (fun k s'=>Ext none_ s s'∧KP s' i k) (fun zz zz=>False) s
 kind: ∀ s keys (Q:SortKind→Shared→Prop) E,2≤vs.length→Ext none_ sh s→keys.size=vs.length→(∀ i k,keys[i]? =some k→KP s i k)→Q κ s→wpAny M A (keyKind' keys) Q E s
 lt: ∀ i j ki kj s,i<vs.length→j<vs.length→KP s i ki→KP s j kj→Ext none_ sh s→wpAny M A (keyLt' κ ki kj) (fun b s'=>b=lt i j∧Ext none_ s s') (fun zz zz=>False) s
section
variable {prog:Program} {w:World} {A:Around} {E:Value→Shared→Prop} {s sh:Shared} {a kS:Addr} {vs:List Value} {lt:Nat→Nat→Bool} {κ:SortKind} {KP:Shared→Nat→Value→Prop} {f:Value} {P:PySem.Fin→Shared→Prop} {e1:Nat}
structure SInv (s0:Shared) (a kS:Addr) (e1:Nat) (KP:Shared→Nat→Value→Prop) (m:Nat) (keys:Array Value) (s:Shared):Prop where
 ext:Ext (fun b=>b=a∨b=kS) s0 s
 la:s.heap.get? a=some (seqObj "list" #[] e1)
 lk: ∃ e,s.heap.get? kS=some (seqObj "list" keys e)
 size:keys.size=m
 kp: ∀ i k,keys[i]? =some k→KP s i k
theorem SInv.next {s0 s s':Shared} {m:Nat} {keys:Array Value} (I:SInv s0 a kS e1 KP m keys s) (st: ∀ s s' mu i k,KP s i k→Ext mu s s'→(∀ b o,mu b→s.heap.get? b=some o→o.cls= .type "list")→KP s' i k)
  (X:Ext none_ s s'):SInv s0 a kS e1 KP m keys s':=
 ⟨I.ext.trans (X.weak fun zz q=>q.elim),X.keep _ _ I.la id,I.lk.imp fun zz h=>X.keep _ _ h id,I.size,fun i k h=>st _ _ _ _ _ (I.kp i k h) X fun zz zz q=>q.elim⟩
theorem srt_tail {st:SortSt} {s0:Shared} {keys:Array Value} {out:List Value} (I:SInv s0 a kS e1 KP vs.length keys s) (hka:kS≠a) (h64:vs.length<64) (hout:(arrOf st).map (·.2)=out.toArray) (hol:out.length=vs.length) (hfl:failedOf st=none)
  (h: ∀ s' c,Ext (fun b=>b=a∨b=kS) s0 s'→s'.heap.get? a=some (seqObj "list" out.toArray c)→P (.done (.ret .none)) s'):
  wpAny (model prog w) A (ksk_tail a false e1 (.ref kS) st) P E s:=by
 refine x1 I.lk fun ek lk=>?_
 have s1:=Heap.SameBut.update s.heap kS (Obj.mapSeq fun zz=>(#[]:Array Value))
 have na1:(s.heap.update kS (Obj.mapSeq fun zz=>(#[]:Array Value))).get? a=some (seqObj "list" #[] e1):=(s1.2 a hka.symm).trans I.la
 obtain ⟨c2,hc2⟩: ∃ c2,((s.heap.update kS (Obj.mapSeq fun zz=>(#[]:Array Value))).update a (Obj.mapSeq fun zz=>out.toArray)).get? a=some (seqObj "list" out.toArray c2):=⟨_,get?_update_seq na1 fun zz=>out.toArray⟩
 have X1:Ext (fun b=>b=a∨b=kS) s {s with heap:=s.heap.update kS (Obj.mapSeq fun zz=>(#[]:Array Value))} :=(upd_ext lk I.ext.gens I.ext.t849).weak fun zz q=>.inr q
 have X2:Ext (fun b=>b=a∨b=kS) {s with heap:=s.heap.update kS (Obj.mapSeq fun zz=>(#[]:Array Value))} {s with heap:=(s.heap.update kS (Obj.mapSeq fun zz=>(#[]:Array Value))).update a (Obj.mapSeq fun zz=>out.toArray)} :=
  (upd_ext (sh:= {s with heap:=s.heap.update kS (Obj.mapSeq fun zz=>(#[]:Array Value))}) na1 I.ext.gens I.ext.t849).weak fun zz q=>.inl q
 unfold ksk_tail
 try dsimp only
 rw [hout]
 refine wpAny_bind (listUpdate_at lk rfl ?_ (by rw [I.size,sizeLine_eq]; lia) (Nat.zero_le _))
 refine wpAny_bind (wpAny_letGo ?_)
 refine wpAny_bind (seqEpoch_at na1 rfl ?_)
 simp only [Bool.false_eq_true,if_false]
 refine wpAny_bind (listUpdate_at na1 rfl ?_ (Nat.zero_le _) (by rw [List.size_toArray,hol,sizeLine_eq]; lia))
 rw [hfl]
 simp only [bne_self_eq_false,Bool.false_eq_true,if_false]
 exact wpAny_pure (h _ c2 (I.ext.trans (X1.trans X2)) hc2)
theorem srt_end {s0:Shared} {keys:Array Value} (W:Weak lt) (S:SortOk (model prog w) A f vs lt κ sh KP) (hx: ∀ s,Ext (fun b=>b=a∨b=kS) s0 s→Ext none_ sh s) (I:SInv s0 a kS e1 KP vs.length keys s) (hka:kS≠a) (h64:vs.length<64)
  (h: ∀ s' c,Ext (fun b=>b=a∨b=kS) s0 s'→s'.heap.get? a=some (seqObj "list" ((orderOf lt vs.length).map fun i=>vs.getD i Value.none).toArray c)→P (.done (.ret .none)) s'):
  wpAny (model prog w) A (ksk_end a false vs.toArray e1 (.ref kS) keys) P E s:=by
 have hzs:(keys.zip vs.toArray).size=vs.length:=by rw [Array.size_zip,I.size,List.size_toArray,Nat.min_self]
 have item: ∀ i,i<vs.length→∃ k,keys[i]? =some k∧kas_item (keys.zip vs.toArray) i=(k,vs.getD i Value.none):=fun i hi=>by
  have h1:i<keys.size:=by rw [I.size]; exact hi
  refine ⟨keys[i],by simp [h1],?_⟩
  unfold kas_item
  have h2:i<min keys.size vs.length:=Nat.lt_min.mpr ⟨h1,hi⟩
  simp [Array.getD,hi,h2]
 unfold ksk_end
 try dsimp only
 simp only [Bool.false_eq_true,if_false]
 by_cases h2:vs.toArray.size<2
 ·rw [if_pos h2,if_pos h2]
  refine wpAny_bind (wpAny_pure ?_)
  rw [StateT.run_pure]
  refine wpAny_bind (wpAny_pure ?_)
  try dsimp only
  rw [List.size_toArray] at h2
  have e:orderOf lt vs.length=List.range vs.length:=by unfold orderOf; rw [if_pos h2]
  rw [e] at h
  refine srt_tail (st:=SortSt.mk' general' (keys.zip vs.toArray) #[] 7 none) I hka h64 ?_ (by simp) rfl h
  show (keys.zip vs.toArray).map (·.2)=_
  apply Array.ext
  ·simp [I.size]
  ·intro i q1 q2
   have:i<vs.length:=by simpa [I.size] using q1
   simp [this]
 ·rw [if_neg h2,if_neg h2]
  rw [List.size_toArray] at h2
  refine wpAny_bind (S.kind s keys _ _ (by lia) (hx s I.ext) I.size I.kp ?_)
  have e:orderOf lt vs.length=(krun lt (kas_sort vs.length)).toList:=by unfold orderOf; rw [if_neg h2]
  rw [e] at h
  have est:SortSt.mk' κ (keys.zip vs.toArray) #[] 7 none=kas_st κ (keys.zip vs.toArray) (List.toArray (List.range vs.length)):=by
   have e:=kas_range (keys.zip vs.toArray)
   rw [hzs] at e
   show SortSt.mk' κ (keys.zip vs.toArray) #[] 7 none=SortSt.mk' κ ((List.toArray (List.range vs.length)).map (kas_item (keys.zip vs.toArray))) #[] 7 none
   rw [e]
  rw [est]
  have run:=kas_runs (E:=E) (prog:=prog) (w:=w) (A:=A) (κ:=κ) (it:=keys.zip vs.toArray) (n:=vs.length) (s:=s)
   (Q:=fun zz st' s'=>∃ p:Array Nat,p.size=vs.length∧arrOf st'=p.map (kas_item (keys.zip vs.toArray))∧failedOf st'=none∧p=krun lt (kas_sort vs.length)∧SInv s0 a kS e1 KP vs.length keys s')
   (G:=fun p s'=>p=krun lt (kas_sort vs.length)∧SInv s0 a kS e1 KP vs.length keys s')
   (by lia) h64 (fun p' st' s' a1 a2 a3 a4=>⟨p',a1,a2,a3,a4.1,a4.2⟩) (krun_wp (I:=SInv s0 a kS e1 KP vs.length keys) (fun i j s' C hi hj hI hC=>by
    refine x0 (item i hi) fun ki ei qi=>?_
    refine x0 (item j hj) fun kj ej qj=>?_
    unfold kas_cmp
    rw [qi,qj]
    exact wpAny_mono (S.lt i j ki kj s' hi hj (hI.kp i ki ei) (hI.kp j kj ej) (hx s' hI.ext)) (fun b s'' hq=>x2 hq fun eb X=>by subst eb; exact hC s'' (hI.next S.stable X)) fun zz zz q=>q) _ s (asks_sort (by lia)) I fun s' hI=>⟨rfl,hI⟩)
  refine wpAny_bind (wpAny_mono run ?_ fun zz zz e=>e)
  rintro ⟨⟨⟩,st'⟩ s' ⟨p,hp,har,hf,rfl,I'⟩
  dsimp only
  refine srt_tail I' hka h64 ?_ (by rw [List.length_map,Array.length_toList]; exact hp) hf h
  rw [har,Array.map_map]
  apply Array.toList_inj.mp
  rw [Array.toList_map,List.toList_toArray]
  refine List.map_congr_left fun i hi=>?_
  have hb:i<vs.length:=List.mem_range.mp ((sort_pairwise W (n:=vs.length) (by lia)).2.1.mem_iff.mp hi)
  refine x0 (item i hb) fun k zz q=>?_
  show (kas_item (keys.zip vs.toArray) i).2=_
  rw [q]
theorem srt_rest {s0:Shared} (W:Weak lt) (S:SortOk (model prog w) A f vs lt κ sh KP) (hx: ∀ s,Ext (fun b=>b=a∨b=kS) s0 s→Ext none_ sh s) (I:SInv s0 a kS e1 KP 0 #[] s) (hka:kS≠a) (h64:vs.length<64)
  (h: ∀ s' c,Ext (fun b=>b=a∨b=kS) s0 s'→s'.heap.get? a=some (seqObj "list" ((orderOf lt vs.length).map fun i=>vs.getD i Value.none).toArray c)→P (.done (.ret .none)) s'):
  wpAny (model prog w) A (ksk_rest a f false vs.toArray e1 (.ref kS)) P E s:=by
 unfold ksk_rest
 refine wpAny_bind (wpAny_rule ?_)
 first
  | rw [List.forIn_toArray]
  | (rw [←Array.forIn_toList]; simp only [List.toList_toArray])
  | rw [←Array.forIn_toList]
 refine wpAny_bind (ksk_fold (fun i s'=>∃ kA,SInv s0 a kS e1 KP i kA s') vs 0 s ⟨#[],I⟩ ?step ?done)
 case step=>
  rintro j x s' hx' ⟨kA,I'⟩
  simp only [Nat.zero_add] at I' ⊢
  have hj:j<vs.length:=(List.getElem?_eq_some_iff.mp hx').1
  refine wpAny_bind (wpAny_attempt (wpAny_mono (S.key j x s' hx' (hx s' I'.ext)) (fun v s'' he=>?_) fun zz zz hF=>hF.elim))
  refine x2 he fun X hk=>?_; clear he
  try dsimp only
  have I2:=I'.next S.stable X
  refine x1 I2.lk fun e lk=>?_
  have s1:=Heap.SameBut.update s''.heap kS (Obj.mapSeq (·.push v))
  obtain ⟨c2,hc2⟩: ∃ c2,(s''.heap.update kS (Obj.mapSeq (·.push v))).get? kS=some (seqObj "list" (kA.push v) c2):=⟨_,get?_update_seq lk (·.push v)⟩
  have X2:Ext (fun b=>b=kS) s'' {s'' with heap:=s''.heap.update kS (Obj.mapSeq (·.push v))} :=upd_ext lk I2.ext.gens I2.ext.t849
  have lst: ∀ b o,b=kS→s''.heap.get? b=some o→o.cls= .type "list" :=fun b o eb ho=>by
   subst eb
   rw [lk] at ho
   cases ho
   rfl
  refine wpAny_bind (listUpdate_at lk rfl ?_ (by rw [I2.size,sizeLine_eq]; lia) (by rw [Array.size_push,I2.size,sizeLine_eq]; lia))
  refine wpAny_pure ⟨rfl,kA.push v,I2.ext.trans (X2.weak fun zz q=>.inr q),(s1.2 a hka.symm).trans I2.la,⟨_,hc2⟩,by rw [Array.size_push,I2.size],fun i k hi=>?_⟩
  rw [Array.getElem?_push] at hi
  split at hi
  ·rename_i q
   cases hi
   rw [q,I2.size]
   exact S.stable _ _ _ _ _ hk X2 lst
  ·exact S.stable _ _ _ _ _ (I2.kp i k hi) X2 lst
 case done=>
  rintro s' ⟨kA,I'⟩
  rw [Nat.zero_add] at I'
  refine x1 I'.lk fun e lk=>?_
  try dsimp only
  refine wpAny_bind (listItems_at lk rfl ?_)
  exact srt_end W S hx I' hka h64 h
theorem srt_list {n:Nat} (W:Weak lt) (S:SortOk (model prog w) A f vs lt κ sh KP) (hg:s.gens= #[]) (ht:849≤s.toks) (ho:s.heap.get? a=some (seqObj "list" vs.toArray n)) (hx:Ext none_ sh s) (ha:sh.heap.objs.size≤a) (h64:vs.length<64)
  (h: ∀ s' c,Ext none_ sh s'→s'.heap.get? a=some (seqObj "list" ((orderOf lt vs.length).map fun i=>vs.getD i Value.none).toArray c)→P (.done (.ret .none)) s'):
  wpAny (model prog w) A (ksk_tree a f false) P E s:=by
 have ha':a<s.heap.objs.size:=Heap.lt_size ho
 have s1:=Heap.SameBut.update s.heap a (Obj.mapSeq fun zz=>(#[]:Array Value))
 obtain ⟨e1,ho1⟩: ∃ e1,(s.heap.update a (Obj.mapSeq fun zz=>(#[]:Array Value))).get? a=some (seqObj "list" #[] e1):=⟨_,get?_update_seq ho fun zz=> #[]⟩
 have hkS:((s.heap.update a (Obj.mapSeq fun zz=>(#[]:Array Value))).push (seqObj "tuple" vs.toArray 0)).objs.size=s.heap.objs.size+1:=by rw [size_push',Heap.size_update]
 have X1:Ext (fun b=>b=a) s {s with heap:=s.heap.update a (Obj.mapSeq fun zz=>(#[]:Array Value))} :=upd_ext ho hg ht
 have X2:Ext (fun b=>b=a) s {s with heap:=((s.heap.update a (Obj.mapSeq fun zz=>(#[]:Array Value))).push (seqObj "tuple" vs.toArray 0)).push (seqObj "list" #[] 0)} :=
  (X1.trans (push_ext (sh:= {s with heap:=s.heap.update a (Obj.mapSeq fun zz=>(#[]:Array Value))}) hg ht)).trans (push_ext (sh:= {s with heap:=(s.heap.update a (Obj.mapSeq fun zz=>(#[]:Array Value))).push (seqObj "tuple" vs.toArray 0)}) hg ht)
 have drop: ∀ s',Ext (fun b=>b=a∨b=((s.heap.update a (Obj.mapSeq fun zz=>(#[]:Array Value))).push (seqObj "tuple" vs.toArray 0)).objs.size) {s with heap:=((s.heap.update a (Obj.mapSeq fun zz=>(#[]:Array Value))).push (seqObj "tuple" vs.toArray 0)).push (seqObj "list" #[] 0)} s'→Ext none_ sh s':=fun s' X=>by
  have Y:Ext (fun b=>b=a∨b=((s.heap.update a (Obj.mapSeq fun zz=>(#[]:Array Value))).push (seqObj "tuple" vs.toArray 0)).objs.size) sh s':=
   ((hx.weak fun zz q=>q.elim).trans (X2.weak fun zz q=>.inl q)).trans X
  refine Y.mono fun i o hi q=>?_
  have:=Heap.lt_size hi
  have hsz:=hx.size
  rcases q with rfl | rfl
  ·exact absurd this (Nat.not_lt.mpr ha)
  ·rw [hkS] at this
   exact absurd (Nat.lt_of_lt_of_le this hsz) (Nat.not_lt.mpr (Nat.le_succ _))
 unfold ksk_tree
 refine wpAny_bind (listItems_at ho rfl ?_)
 refine wpAny_bind (listUpdate_at ho rfl ?_ (by rw [List.size_toArray,sizeLine_eq]; lia) (Nat.zero_le _))
 refine wpAny_bind (seqEpoch_at ho1 rfl ?_)
 refine wpAny_bind (wpAny_newTuple ?_ (by show vs.length≤_; rw [sizeLine_eq]; lia))
 refine wpAny_bind (wpAny_newList ?_ (Nat.zero_le _))
 refine wpAny_holding ?_
 refine srt_rest (s0:= {s with heap:=((s.heap.update a (Obj.mapSeq fun zz=>(#[]:Array Value))).push (seqObj "tuple" vs.toArray 0)).push (seqObj "list" #[] 0)})
  (s:= {s with heap:=((s.heap.update a (Obj.mapSeq fun zz=>(#[]:Array Value))).push (seqObj "tuple" vs.toArray 0)).push (seqObj "list" #[] 0)})
  (kS:=((s.heap.update a (Obj.mapSeq fun zz=>(#[]:Array Value))).push (seqObj "tuple" vs.toArray 0)).objs.size)
  W S drop ⟨.refl hg ht,Heap.get?_push_of_some _ (Heap.get?_push_of_some _ ho1),⟨0,Heap.get?_push_size _ rfl⟩,rfl,fun i k hi=>by simp at hi⟩ (by rw [hkS]; exact Nat.ne_of_gt (Nat.lt_succ_of_lt ha')) h64 fun s' c X hc=>h s' c (drop s' X) hc
end
section
variable {prog:Program} {w:World} {A:Around} {sh:Shared} {vs:List Value} {lt:Nat→Nat→Bool} {κ:SortKind} {KP:Shared→Nat→Value→Prop} {q:Addr} {x:Value}
noncomputable def SortedTo_ (sh:Shared) (vs:List Value) (lt:Nat→Nat→Bool) (r:Result) (s':Shared):Prop:=
 ∃ D c,r= .ok (.ret (.ref D))∧sh.heap.objs.size≤D∧Ext none_ sh s'∧s'.heap.get? D=some (listO ((orderOf lt vs.length).map fun i=>vs.getD i Value.none).toArray c)
theorem sorted_specP {Pv:List Value→Prop} (W:Weak lt) (S: ∀ vs,Pv vs→SortOk (model prog w) A.in1.in1 (.ref q) vs lt κ sh KP) (h64: ∀ vs,Pv vs→vs.length<64)
  (hcol: ∀ (Q:List Value→Shared→Prop) (E:Value→Shared→Prop),(∀ vs s',Pv vs→Ext none_ sh s'→Q vs s')→wpAny (model prog w) A.in1 (collect x) Q E sh):
  codeAny (model prog w) A (.call (.builtin "sorted") ⟨[x],[(Str.ofString "key",.ref q)]⟩) (fun r s'=>∃ vs,Pv vs∧SortedTo_ sh vs lt r s') sh:=by
 refine codeAny_call_builtin plain_sorted entry_sorted ?_
 have body:wpAny (model prog w) A.in1 (Builtin.«sorted» ⟨[x],[(Str.ofString "key",.ref q)]⟩) (fun fin s'=>match fin with | .done f=>(fun r s'=>∃ vs,Pv vs∧SortedTo_ sh vs lt r s') (.ok f) s' | .again c'=>c'.quiet=true∧codeAny (model prog w) A c' (fun r s'=>∃ vs,Pv vs∧SortedTo_ sh vs lt r s') s') (fun e s'=>(fun r s'=>∃ vs,Pv vs∧SortedTo_ sh vs lt r s') (.error e) s') sh:=by
  unfold Builtin.«sorted»
  refine wpAny_bind (m:=checkCount "sorted" 1 1 _) (wpAny_pure ?_)
  refine wpAny_bind (hcol _ _ fun vs s1 hv X1=>?_)
  have h64:=h64 vs hv
  refine wpAny_bind (wpAny_newList ?_ (by rw [sizeLine_eq]; lia))
  have X2:Ext none_ s1 {s1 with heap:=s1.heap.push (seqObj "list" vs.toArray 0)} :=push_ext X1.gens X1.t849
  have X3:=X1.trans X2
  have hoL:(s1.heap.push (seqObj "list" vs.toArray 0)).get? s1.heap.objs.size=some (seqObj "list" vs.toArray 0):=Heap.get?_push_size _ rfl
  show wpAny _ _ _ _ _ {s1 with heap:=s1.heap.push (seqObj "list" vs.toArray 0)}
  refine wpAny_bind (wpAny_holding (wpAny_call_entry_kw slot_list_sort ⟨_,hoL,rfl⟩ entry_list_sort ?body (ksk_l1 _ _)))
  case body=>
   show wpAny (model prog w) A.in1.in1 (Builtin.«list.sort» ⟨[.ref s1.heap.objs.size],[(Str.ofString "key",.ref q)]⟩) _ _ _
   rw [ksk_t1]
   refine srt_list (s:= {s1 with heap:=s1.heap.push (seqObj "list" vs.toArray 0)}) W (S vs hv) X3.gens X3.t849 hoL X3 X1.size h64 fun s' c X hc=>⟨_,rfl,?_⟩
   exact wpAny_pure ⟨vs,hv,_,c,rfl,X1.size,X,hc⟩
 simp only [checkBuiltinCall,kind_sorted]
 cases hsig:Manifest.signature? "sorted" with
 | none=>exact wpAny_pure body
 | some sig=>
  have ha':Bind.checkArgs "sorted" sig ⟨[x],[(Str.ofString "key",.ref q)]⟩=pure ():=by simpa only [argsOk,hsig] using ksk_s1 x (.ref q)
  simp only [ha']
  exact wpAny_pure body
theorem sorted_spec (W:Weak lt) (S:SortOk (model prog w) A.in1.in1 (.ref q) vs lt κ sh KP) (h64:vs.length<64)
  (hcol: ∀ (Q:List Value→Shared→Prop) (E:Value→Shared→Prop),(∀ s',Ext none_ sh s'→Q vs s')→wpAny (model prog w) A.in1 (collect x) Q E sh):
  codeAny (model prog w) A (.call (.builtin "sorted") ⟨[x],[(Str.ofString "key",.ref q)]⟩) (SortedTo_ sh vs lt) sh:=by
 refine codeAny_mono (sorted_specP (Pv:=fun us=>us=vs) W (fun us e=>e▸S) (fun us e=>e▸h64) fun Q E h=>hcol Q E fun s' X=>h vs s' rfl X) fun r s' h=>?_
 obtain ⟨us,rfl,h⟩:=h
 exact h
theorem col_list {l n:Nat} {Q:List Value→Shared→Prop} {E:Value→Shared→Prop} (hg:sh.gens= #[]) (ht:849≤sh.toks) (hl:sh.heap.get? l=some (listO vs.toArray n)) (h64:vs.length<64) (h: ∀ s',Ext none_ sh s'→Q vs s'):wpAny (model prog w) A (collect (.ref l)) Q E sh:=by
 refine collect_list ⟨_,hl,rfl,_,rfl⟩ (h _ ?_) (by rw [sizeLine_eq]; lia)
 have X1:Ext none_ sh {sh with heap:=sh.heap.push (seqObj "list" #[] 0)} :=push_ext hg ht
 have X2:Ext (fun b=>b=sh.heap.objs.size) {sh with heap:=sh.heap.push (seqObj "list" #[] 0)} {sh with heap:=(sh.heap.push (seqObj "list" #[] 0)).update sh.heap.objs.size (Obj.mapSeq (· ++vs.toArray))} :=
  upd_ext (sh:= {sh with heap:=sh.heap.push (seqObj "list" #[] 0)}) (Heap.get?_push_size _ rfl) hg ht
 exact ((X1.weak fun zz q=>q.elim).trans X2).mono fun i o hi q=>absurd (Heap.lt_size hi) (by subst q; exact Nat.lt_irrefl _)
end
noncomputable def ltN (L:Nat→Str) (i j:Nat):Bool:=decide ((L i).cps.toList<(L j).cps.toList)
noncomputable def ltI (L:Nat→Str) (i j:Nat):Bool:=decide ((L i).cps.toList<(L j).cps.toList) || (decide ((L i).cps.toList=(L j).cps.toList)&&decide (i<j))
theorem ltN_weak (L:Nat→Str):Weak (ltN L):=by
 refine ⟨fun i j h=>?_,fun i j k h h'=>?_⟩
 ·unfold ltN at *
  rw [decide_eq_true_eq] at h
  rw [decide_eq_false_iff_not]
  exact List.lt_asymm h
 ·unfold ltN at *
  rw [decide_eq_false_iff_not,List.not_lt] at *
  exact List.le_trans h' h
theorem ltI_weak (L:Nat→Str):Weak (ltI L):=by
 refine ⟨fun i j h=>?_,fun i j k h h'=>?_⟩
 ·unfold ltI at *
  simp only [Bool.or_eq_true,Bool.and_eq_true,decide_eq_true_eq,Bool.or_eq_false_iff,Bool.and_eq_false_iff,decide_eq_false_iff_not] at *
  rcases h with h | ⟨h,h'⟩
  ·exact ⟨List.lt_asymm h,.inl fun e=>List.lt_irrefl _ (e▸h)⟩
  ·exact ⟨fun x=>List.lt_irrefl _ (h▸x),.inr (by lia)⟩
 ·unfold ltI at *
  simp only [Bool.or_eq_false_iff,Bool.and_eq_false_iff,decide_eq_false_iff_not,List.not_lt] at *
  refine x2 h fun a b=>?_; clear h
  refine x2 h' fun c d=>?_; clear h'
  refine ⟨List.le_trans c a,?_⟩
  by_cases e:(L i).cps.toList=(L k).cps.toList
  ·right
   have e1:(L i).cps.toList=(L j).cps.toList:=List.le_antisymm (e▸c) a
   have e2:(L j).cps.toList=(L k).cps.toList:=e1.symm.trans e
   have x:=b.resolve_left (fun q=>q e1)
   have y:=d.resolve_left (fun q=>q e2)
   lia
  ·exact .inl e
theorem orderOf_same (L:Nat→Str) (n:Nat):orderOf (ltN L) n=orderOf (ltI L) n:=by
 unfold orderOf
 split
 ·rfl
 ·rename_i h
  rw [sort_same (ltN_weak L) (ltI_weak L) (by lia)]
  intro i j _ _ hb
  unfold Bef ltN
  unfold Bef ltI at hb
  simp only [Bool.or_eq_true,Bool.and_eq_true,decide_eq_true_eq,Bool.or_eq_false_iff,Bool.and_eq_false_iff,decide_eq_false_iff_not] at *
  rcases hb with (hb | ⟨e,h1⟩) | ⟨⟨h1,-⟩,h2⟩
  ·exact .inl hb
  ·exact .inr ⟨fun x=>List.lt_irrefl _ (e▸x),h1⟩
  ·exact .inr ⟨h1,h2⟩
theorem orderOf_lt {lt:Nat→Nat→Bool} (W:Weak lt) {n i:Nat} (h:i∈orderOf lt n):i<n:=by
 unfold orderOf at h
 split at h
 ·exact List.mem_range.mp h
 ·exact List.mem_range.mp ((sort_pairwise W (n:=n) (by lia)).2.1.mem_iff.mp h)
noncomputable def KTup (L:Nat→Str) (s:Shared) (i:Nat) (k:Value):Prop:=∃ x t u,k= .ref x∧s.heap.get? x=some (tupO [.str (L i) t,.int (Int.ofNat i) u])
section
variable {prog:Program} {w:World} {A:Around} {sh:Shared} {vs:List Value} {L:Nat→Str} {f:Value}
theorem KTup.firsts {s:Shared} : ∀ (ks:List Value) (b:Nat),(∀ i k,ks[i]? =some k→KTup L s (b+i) k)→∃ fs:List Value,KatTups s.heap ks fs∧fs.length=ks.length∧∀ v∈fs,∃ q t,v= .str q t
 | [],_,_=>⟨[],trivial,rfl,fun v hv=>by cases hv⟩
 | k::ks,b,h=>by
  obtain ⟨fs,a,l,c⟩:=KTup.firsts ks (b+1) fun i k' hk=>by
   have:=h (i+1) k' (by simpa using hk)
   rwa [show b+(i+1)=b+1+i by lia] at this
  refine x20 (h 0 k rfl) fun x t u e ho=>?_
  subst e
  refine ⟨.str (L (b+0)) t::fs,KatTups.cons ho rfl rfl rfl a,by simp [l],fun v hv=>?_⟩
  rcases List.mem_cons.mp hv with rfl | hv
  ·exact ⟨_,_,rfl⟩
  ·exact c v hv
theorem tup_ok (hkey: ∀ i v s,vs[i]? =some v→Ext none_ sh s→wpAny (model prog w) A (call f [v]) (fun k s'=>Ext none_ s s'∧KTup L s' i k) (fun zz zz=>False) s):
  SortOk (model prog w) A f vs (ltI L) (tuples' true) sh (KTup L):=by
 refine ⟨?_,hkey,?_,?_⟩
 ·rintro s s' mu i k ⟨x,t,u,rfl,ho⟩ X hm
  refine ⟨x,t,u,rfl,X.keep _ _ ho fun q=>?_⟩
  have:=hm _ _ q ho
  simp [tupO] at this
 ·intro s keys Q E h2 X hs hk hq
  obtain ⟨fs,a,l,c⟩:=KTup.firsts keys.toList 0 fun i k hi=>by
   rw [Nat.zero_add]
   exact hk i k (by simpa using hi)
  have e:keys=keys.toList.toArray:=by rw [Array.toArray_toList]
  rw [e]
  refine kat_kind (T:=.type "str") a (by rw [l,Array.length_toList,hs]; lia) (fun v hv=>?_) (by decide) ?_
  ·refine x23 (c v hv) fun q t hr1=>?_; subst hr1
   exact Looks.of_pure rfl
  ·have:(Value.type "str" != Value.type "tuple")=true:=by decide
   rw [this]
   exact hq
 ·rintro i j ki kj s hi hj ⟨x,t,u,rfl,hx⟩ ⟨y,t',u',rfl,hy⟩ X
  refine kat_lt hx rfl hy rfl ?_
  have R:Ext none_ s s:=Ext.refl X.gens X.t849
  refine kat_cons (eqBool_str ?_)
  cases e:(L i==L j) with
  | true=>
   have e':L i=L j:=eq_of_beq e
   refine kat_yes (kat_cons (wpAny_eqBool_int ?_))
   cases e2:((i:Int)==(j:Int)) with
   | true=>
    have e3:i=j:=by have:=eq_of_beq e2; lia
    subst e3
    refine kat_yes (kat_nil ⟨?_,R⟩)
    show decide (2<2)=_
    unfold ltI
    simp
   | false=>
    refine kat_no (kat_one _ _ (lt_int ⟨?_,R⟩))
    unfold ltI
    rw [e']
    simp [List.lt_irrefl]
  | false=>
   refine kat_no (oneLt_str ⟨?_,R⟩)
   unfold ltI
   have ne: ¬ (L i).cps.toList=(L j).cps.toList:=fun q=>by
    have q2:(L i).cps=(L j).cps:=Array.toList_inj.mp q
    have:L i=L j:=by
     cases h1:L i; cases h2:L j
     rw [h1,h2] at q2
     cases q2
     rfl
    rw [this,beq_self_eq_true] at e
    cases e
   simp [ne]
end
end Mine
namespace Mine
open PySem PySem.W PySem.W.X
noncomputable def noLg (s:St):St:=⟨s.D,s.b,s.m,s.tb,s.ti,[]⟩
noncomputable def CCut {X:Type} (t:St→Sem Value) (pre:St→Prop) (r:X→Value) (nx:St→X→St) (hs:X→List Nat) (P:X→Rs→Prop) (R:Rs):Prop:=
 obsC R=(3,dup (lgOf R),none,true)∧treeOf R=t (stOf R)∧pre (stOf R)∧∀ x,P x (contC R (hs x) (r x) (nx (stOf R) x))
noncomputable instance CCut.rf {X:Type} {t:St→Sem Value} {pre:St→Prop} {r:X→Value} {nx:St→X→St} {hs:X→List Nat} {P:X→Rs→Prop} {R:Rs} [Rx X] [∀ y1,Rf (pre y1)] [∀ y1 y2,Rf (P y1 y2)]:Rf (CCut t pre r nx hs P R):=by
 delta CCut; infer_instance
section
variable {prog:Program} {w:World} {A:Around} {Q:Result→Shared→Prop} {h₀:Heap} {mu:Nat→Prop} {os:OsState} {t₀:Nat} {R:Rs} {k:Nat}
theorem CCut.ok {X:Type} {t:St→Sem Value} {pre:St→Prop} {r:X→Value} {nx:St→X→St} {hs:X→List Nat} {P:X→Rs→Prop} (T:X→Prop) (H:CCut t pre r nx hs P R) (Rm:Room (k+1) A) (h0:278≤h₀.objs.size)
  (spec: ∀ s sh B,pre s→Sat (sv prog w A Q h₀ mu os t₀) s sh→Top w sh→Room k B→wpAny (model prog w) B (t s) (fun v sh'=>∃ x,v=r x∧T x∧Sat (sv prog w A Q h₀ mu os t₀) (nx s x) sh') (fun zz zz=>False) sh)
  (h: ∀ x R',T x→P x R'→Ok (sv prog w A Q h₀ mu os t₀) R'):Ok (sv prog w A Q h₀ mu os t₀) R:=by
 refine ok_cut H.1 fun sh S B h1 h2 h3=>?_
 have T0:=topW w S rfl h0
 rw [H.2.1]
 refine wpAny_mono (spec _ sh B H.2.2.1 S T0 (Rm.down h1 h2 h3)) (fun v sh' hq=>x5 hq fun x hr ht S'=>?_) fun zz zz h=>h
 subst hr
 exact ⟨hs x,_,S',h x _ ht (H.2.2.2 x)⟩
end
noncomputable def same_ {X:Type} (s:St) (_:X):St:=noLg s
theorem wp_isnt {prog:Program} {w:World} {B:Around} {p q:Str} {t u:Nat} {sh:Shared} {Q:Value→Shared→Prop} {E:Value→Shared→Prop} (hpq:(p==q)=false) (ht:t≠0) (hu:u≠0) (htu:t≠u) (h:Q (.bool true) sh):
  wpAny (model prog w) B (compareOp .IsNot (.str p t) (.str q u)) Q E sh:=by
 have e:compareOp .IsNot (.str p t) (.str q u)=(do pure (Value.bool (!(←isSame (.str p t) (.str q u))))):=rfl
 rw [e]
 have e2:isSame (.str p t) (.str q u)=pure false:=by
  show isSame.created (p==q) t u=pure false
  unfold isSame.created
  rw [hpq]
  have a1:(t==0)=false:=by simpa using ht
  have a2:(u==0)=false:=by simpa using hu
  have a3:(t==u)=false:=by simpa using htu
  rw [a1,a2,a3]
  rfl
 rw [e2]
 exact wpAny_pure h
noncomputable def tabO (xs:Array Value):Obj:= {cls:=.none,data:=.fields xs}
noncomputable def codO (xs:Array Value):Obj:= {cls:=.type "code",data:=.fields xs}
noncomputable abbrev sMany:Str:=q [109,97,110,121]
noncomputable abbrev sAny:Str:=q [97,110,121]
noncomputable def patS (j:Nat):Str:=match j with
 | 0=>q [120,45,42]
 | 1=>q [63,45,91,97,98,93]
 | 2=>q [42,116]
 | 3=>q [91,33,120,93,42]
 | 4=>q [42,97,42]
 | _=>q [120,45,63,63]
noncomputable def partS (j:Nat):List Str:=match j with
 | 0=> [q [120],q [92,45],q [109,97,110,121]]
 | 1=> [q [97,110,121],q [92,45],q [91,97,98,93]]
 | 2=> [q [109,97,110,121],q [116]]
 | 3=> [q [91,94,120,93],q [109,97,110,121]]
 | 4=> [q [109,97,110,121],q [97],q [109,97,110,121]]
 | _=> [q [120],q [92,45],q [97,110,121],q [97,110,121]]
noncomputable def strsA:List Str→List Nat→List Value
 | [],_=> []
 | s::l,[]=>.str s 0::strsA l []
 | s::l,t::ts=>.str s t::strsA l ts
noncomputable def toksOf:List Value→List Nat
 | []=> []
 | v::l=>(match v with
  | .str _ t=>t
  | _=>0)::toksOf l
noncomputable def seqOf (o:Obj):List Value:=match o.data with
 | .seq xs _=>xs.toList
 | _=> []
noncomputable def fldOf (o:Obj):Array Value:=match o.data with
 | .fields xs=>xs
 | _=> #[]
noncomputable def trC (j:Nat) (tp tm ta:Nat):Code:=.call (.ref 78) ⟨[.str (patS j) tp,.str sMany tm,.str sAny ta],[]⟩
noncomputable def hTr0_0:List Nat:= [0,0,2,2,2,2,2,2,0,0,2,2,2,3,0,3,0,3,3,3,0,0,3,2,2,0,0,2,0,0,0,0,5,5,5,0,5,0,6,6,0,6,0,6,6,5,6,6,6,0,6,0,6,6,5,6,6,6,0,6,0,6,6,5,6,6,8,2,2,2,2,0,2,2,0,0,2,2,0,0,2,2,2,0,0,2,2,2,0,0,2,0,0,2,0,0,2,0,2,0,0,0,0,9,9,0,0,0,0,9,0,0,0,0,0,9,0,0,0,0,0,0,0,0,0,0,0,0,11,4,0,4,4,3,3,3,0,3,3,3,0,2,2,0,0,2,2,0,0,2,2,2,0,0,2,2,2,0,0,2,0,0,2,0,0,2,0,2,0,0,0,0,12,12,0,0,0,0,12,0,0,0,0,0,12,0,0,0,0,0,0,0,0,0,0,0,0,0,0,0,0,0,0,0,0,0,0,0,0,0,0,0,0,0,4,0,4,4,3,3,3,0,3,3,3,0,2,2,0,0,2,2,0,0,2,2,2,0,0,2,2,2,0,0,2,3,3,0,3,0,3,0,3,2,0,0,3,3,3,0,3,0,3,2]
noncomputable def hTr0_1:List Nat:= [2,2,4,0,4,4,3,3,3,0,3,3,3,0,2,2,0,0,2,2,0,0,2]
noncomputable def hTr1_0:List Nat:= [0,0,2,2,2,2,2,2,0,0,2,2,2,3,0,3,0,3,3,3,0,0,3,2,2,0,0,2,0,0,0,0,5,5,5,0,5,0,6,6,0,6,0,6,6,5,6,6,6,0,6,0,6,6,5,6,6,6,0,6,0,6,6,5,6,6,8,2,2,2,2,0,2,2,0,0,2,2,0,0,2,2,2,0,0,2,2,2,0,0,2,0,0,2,2,4,0,4,4,3,3,3,0,3,3,3,0,2,2,0,0,2,2,0,0,2,2,2,0,0,2,2,2,0,0,2,0,0,2,0,0,2,0,2,0,0,0,0,9,9,0,0,0,0,9,0,0,0,0,0,9,0,0,0,0,0,0,0,0,0,0,0,0,0,0,0,0,0,0,0,0,0,0,0,0,0,0,0,0,0,4,0,4,4,3,3,3,0,3,3,3,0,2,2,0,0,2,2,0,0,2,2,2,0,0,2,2,2,0,0,2,0,0,2,0,0,2,2,2,2,2,0,0,2,2,0,0,0,0,2,2,0,0,2,2,0,0,0,0,0,2,2,0,0,2,2,0,0,0,0,2,0,0,2,2,0,2,2,0,0,2,2,0,0,0,0,2,0,0,2,2,0,2,2,0,0,2,2,0,0,0,0,2,2,0,0,2,2,2,0,0,10,10,10,10,2,2,2,0,0,2,0,0,2,2,0,0,0,0,0,0,1,1,1,1,0,0,0,2,0,0,0,17,0,0,0,0,0,18,18,18,18,0,0,18,18,2,2,2,0,0,2,2,2,0,0,0,2,0,0,2,0,0,0,0,2,0,0,19,19,0,19,0,19,0,0,0,0,2,2,4,0,4,4,3,3,3,0,3,3,3,0,2,2,0,0,2,2,0,0,2]
noncomputable def hTr2_0:List Nat:= [0,0,2,2,2,2,2,2,0,0,2,2,2,3,0,3,0,3,3,3,0,0,3,2,2,0,0,2,0,0,0,0,5,5,5,0,5,0,6,6,0,6,0,6,6,5,6,6,6,0,6,0,6,6,5,6,6,6,0,6,0,6,6,5,6,6,8,2,2,2,2,0,2,2,0,0,2,2,0,0,2,2,2,0,0,2,2,2,0,0,2,3,3,0,3,0,3,0,3,2,2,4,0,4,4,3,3,3,0,3,3,3,0,2,2,0,0,2,2,0,0,2,2,2,0,0,2,2,2,0,0,2,0,0,2,0,0,2,0,2,0,0,0,0,9,9,0,0,0,0,9,0,0,0,0,0,9,0,0,0,0,0,0,0,0,0,0,0,0,11,4,0,4,4,3,3,3,0,3,3,3,0,2,2,0,0,2,2,0,0,2]
noncomputable def hTr3_0:List Nat:= [0,0,2,2,2,2,2,2,0,0,2,2,2,3,0,3,0,3,3,3,0,0,3,2,2,0,0,2,0,0,0,0,5,5,5,0,5,0,6,6,0,6,0,6,6,5,6,6,6,0,6,0,6,6,5,6,6,6,0,6,0,6,6,5,6,6,8,2,2,2,2,0,2,2,0,0,2,2,0,0,2,2,2,0,0,2,2,2,0,0,2,0,0,2,0,0,2,2,2,2,2,0,0,2,2,0,0,0,0,2,0,0,2,2,2,2,0,0,2,2,0,0,0,0,0,2,2,0,0,2,2,0,0,0,0,2,0,0,2,2,0,2,2,0,0,2,2,0,0,0,0,2,2,0,0,2,2,2,0,0,9,9,9,9,2,2,2,0,0,2,0,0,2,2,0,0,0,0,0,0,1,1,1,1,0,0,0,2,0,0,0,16,0,0,0,0,0,17,17,17,17,0,0,17,17,2,2,2,0,0,2,2,2,0,0,0,2,0,0,2,0,0,0,0,2,0,0,18,18,18,18,0,0,2,2,2,2,4,0,4,4,3,3,3,0,3,3,3,0,2,2,0,0,2,2,0,0,2,2,2,0,0,2,2,2,0,0,2,3,3,0,3,0,3,0,3,2,0,0,3,3,3,0,3,0,3,2]
noncomputable def hTr3_1:List Nat:= [2,2,4,0,4,4,3,3,3,0,3,3,3,0,2,2,0,0,2,2,0,0,2]
noncomputable def hTr4_0:List Nat:= [0,0,2,2,2,2,2,2,0,0,2,2,2,3,0,3,0,3,3,3,0,0,3,2,2,0,0,2,0,0,0,0,5,5,5,0,5,0,6,6,0,6,0,6,6,5,6,6,6,0,6,0,6,6,5,6,6,6,0,6,0,6,6,5,6,6,8,2,2,2,2,0,2,2,0,0,2,2,0,0,2,2,2,0,0,2,2,2,0,0,2,3,3,0,3,0,3,0,3,2,2,4,0,4,4,3,3,3,0,3,3,3,0,2,2,0,0,2,2,0,0,2,2,2,0,0,2,2,2,0,0,2,0,0,2,0,0,2,0,2,0,0,0,0,9,9,0,0,0,0,9,0,0,0,0,0,9,0,0,0,0,0,0,0,0,0,0,0,0,11,4,0,4,4,3,3,3,0,3,3,3,0,2,2,0,0,2,2,0,0,2,2,2,0,0,2,2,2,0,0,2,3,3,0,3,0,3,0,3,2,0,0,3,3,3,0,3,0,3,2]
noncomputable def hTr4_1:List Nat:= [2,2,4,0,4,4,3,3,3,0,3,3,3,0,2,2,0,0,2,2,0,0,2]
noncomputable def hTr5_0:List Nat:= [0,0,2,2,2,2,2,2,0,0,2,2,2,3,0,3,0,3,3,3,0,0,3,2,2,0,0,2,0,0,0,0,5,5,5,0,5,0,6,6,0,6,0,6,6,5,6,6,6,0,6,0,6,6,5,6,6,6,0,6,0,6,6,5,6,6,8,2,2,2,2,0,2,2,0,0,2,2,0,0,2,2,2,0,0,2,2,2,0,0,2,0,0,2,0,0,2,0,2,0,0,0,0,9,9,0,0,0,0,9,0,0,0,0,0,9,0,0,0,0,0,0,0,0,0,0,0,0,11,4,0,4,4,3,3,3,0,3,3,3,0,2,2,0,0,2,2,0,0,2,2,2,0,0,2,2,2,0,0,2,0,0,2,0,0,2,0,2,0,0,0,0,12,12,0,0,0,0,12,0,0,0,0,0,12,0,0,0,0,0,0,0,0,0,0,0,0,0,0,0,0,0,0,0,0,0,0,0,0,0,0,0,0,0,4,0,4,4,3,3,3,0,3,3,3,0,2,2,0,0,2,2,0,0,2,2,2,0,0,2,2,2,0,0,2,0,0,2,2,4,0,4,4,3,3,3,0,3,3,3,0,2,2,0,0,2,2,0,0,2,2,2,0,0,2,2,2,0,0,2,0,0,2,2,4,0,4,4,3,3,3,0,3,3,3,0,2,2,0,0,2,2,0,0,2]
noncomputable def hTrB1_0:List Nat:= [0,0,3,3,3,3,3,3,0,0,3,3,3,4,0,4,0,4,4,4,0,0,4,3,3,0,0,3,0,0,0,0,6,6,6,0,6,0,7,7,0,7,0,7,7,6,7,7,7,0,7,0,7,7,6,7,7,7,0,7,0,7,7,6,7,7,9,3,3,3,3,0,3,3,0,0,3,3,0,0,3,3,3,0,0,3,3,3,0,0,3,0,0,3,3,5,0,5,5,4,4,4,0,4,4,4,0,3,3,0,0,3,3,0,0,3,3,3,0,0,3,3,3,0,0,3,0,0,3,0,0,3,0,3,0,0,0,0,10,10,0,0,0,0,10,0,0,0,0,0,10,0,0,0,0,0,0,0,0,0,0,0,0,0,0,0,0,0,0,0,0,0,0,0,0,0,0,0,0,0,5,0,5,5,4,4,4,0,4,4,4,0,3,3,0,0,3,3,0,0,3,3,3,0,0,3,3,3,0,0,3,0,0,3,0,0,3,3,3,3,3,0,0,3,3,0,0,0,0,3,3,0,0,3,3,0,0,0,0,0,3,3,0,0,3,3,0,0,0,0,3,0,0,3,3,0,3,3,0,0,3,3,0,0,0,0,3,0,0,3,3,0,3,3,0,0,3,3,0,0,0,0,3,3,0,0,3,3,3,0,0,11,11,11,11,3,3,3,0,0,3,0,0,3,3,0,0,0,0,0,0,1,0,0,0,3,0,0,0,12,0,0,0,0,0,13,13,13,13,0,0,13,13,3,3,3,0,0,3,3,3,0,0,0,3,0,0,3,0,0,0,0,3,0,0,14,14,0,14,0,14,0,0,0,0,3,3,5,0,5,5,4,4,4,0,4,4,4,0,3,3,0,0,3,3,0,0,3]
noncomputable def hTrB3_0:List Nat:= [0,0,3,3,3,3,3,3,0,0,3,3,3,4,0,4,0,4,4,4,0,0,4,3,3,0,0,3,0,0,0,0,6,6,6,0,6,0,7,7,0,7,0,7,7,6,7,7,7,0,7,0,7,7,6,7,7,7,0,7,0,7,7,6,7,7,9,3,3,3,3,0,3,3,0,0,3,3,0,0,3,3,3,0,0,3,3,3,0,0,3,0,0,3,0,0,3,3,3,3,3,0,0,3,3,0,0,0,0,3,0,0,3,3,3,3,0,0,3,3,0,0,0,0,0,3,3,0,0,3,3,0,0,0,0,3,0,0,3,3,0,3,3,0,0,3,3,0,0,0,0,3,3,0,0,3,3,3,0,0,10,10,10,10,3,3,3,0,0,3,0,0,3,3,0,0,0,0,0,0,1,0,0,0,3,0,0,0,11,0,0,0,0,0,12,12,12,12,0,0,12,12,3,3,3,0,0,3,3,3,0,0,0,3,0,0,3,0,0,0,0,3,0,0,13,13,13,13,0,0,3,3,3,3,5,0,5,5,4,4,4,0,4,4,4,0,3,3,0,0,3,3,0,0,3,3,3,0,0,3,3,3,0,0,3,4,4,0,4,0,4,0,4,3,0,0,4,4,4,0,4,0,4,3]
noncomputable def hTrB3_1:List Nat:= [3,3,5,0,5,5,4,4,4,0,4,4,4,0,3,3,0,0,3,3,0,0,3]
noncomputable def isntT (p:Str) (i:Nat) (tm:Nat) (s:St):Sem Value:=compareOp .IsNot (.str p (Nat.add s.tb i)) (.str sMany tm)
noncomputable def isnt (p:Str) (i:Nat) (tm t:Nat) (h2:List Nat) (P:Rs→Prop):Rs→Prop:=
 CCut (isntT p i tm) (fun s=>s.tb=t+849) (fun _:Unit=>.bool true) same_ (fun zz=>h2) (fun zz=>P)
noncomputable instance isnt.rf {p:Str} {i:Nat} {tm t:Nat} {h2:List Nat} {P:Rs→Prop} {R:Rs} [∀ y1,Rf (P y1)]:Rf (isnt p i tm t h2 P R):=by
 delta isnt; infer_instance
noncomputable def trT (j:Nat) (o:Obj) (K:Nat):Rs→Prop:=
 CEnd (.ok (.ret (.ref (K+279)))) fun s=>keepD [false] s.D= [(73,o)]∧pick [2] s.D= [(K+279,listO (strsA (partS j) (toksOf (seqOf (dOf s 2)))).toArray (epOf (dOf s 2)))]
noncomputable instance trT.rf {j:Nat} {o:Obj} {K:Nat} {R:Rs} :Rf (trT j o K R):=by
 delta trT; infer_instance
noncomputable def trTN (j ci:Nat) (K:Nat):Rs→Prop:=
 CEnd (.ok (.ret (.ref (K+279)))) fun s=>pick [2,ci] s.D= [(K+279,listO (strsA (partS j) (toksOf (seqOf (dOf s 2)))).toArray (epOf (dOf s 2))),(aOf s ci,codO (fldOf (dOf s ci)))]∧getD s.D 0=some (73,tabO #[rawInt 100,rawInt 39,.ref (aOf s ci)])
noncomputable instance trTN.rf {j ci:Nat} {K:Nat} {R:Rs} :Rf (trTN j ci K R):=by
 delta trTN; infer_instance
noncomputable def trTB (j:Nat) (c:Nat) (cvs:Array Value) (K:Nat):Rs→Prop:=
 CEnd (.ok (.ret (.ref (K+279)))) fun s=>keepD [false,false] s.D= [(73,tabO #[rawInt 100,rawInt 39,.ref c]),(c,codO cvs)]∧pick [3] s.D= [(K+279,listO (strsA (partS j) (toksOf (seqOf (dOf s 3)))).toArray (epOf (dOf s 3)))]
noncomputable instance trTB.rf {j:Nat} {c:Nat} {cvs:Array Value} {K:Nat} {R:Rs} :Rf (trTB j c cvs K R):=by
 delta trTB; infer_instance
theorem trT_0 (b1 b2 b3:Bool) (prog:Program) (P:Params) (o:Obj) (K t tp tm ta:Nat):(isnt (q [92,45]) 36 tm t hTr0_1 (trT 0 o K)) (runC prog (pset b1 b2 (rset "fstring-hands-on-the-str" b3 P)) 1400 (trC 0 tp tm ta) hTr0_0 [(73,o)] K t):=by
 revert b2; exact Rf.prove _ (by kernel_rfl)
theorem trT_2 (b1 b2 b3:Bool) (prog:Program) (P:Params) (o:Obj) (K t tp tm ta:Nat):(trT 2 o K) (runC prog (pset b1 b2 (rset "fstring-hands-on-the-str" b3 P)) 1400 (trC 2 tp tm ta) hTr2_0 [(73,o)] K t):=by
 revert b2; exact Rf.prove _ (by kernel_rfl)
theorem trT_4 (b1 b2 b3:Bool) (prog:Program) (P:Params) (o:Obj) (K t tp tm ta:Nat):(isnt (q [97]) 30 tm t hTr4_1 (trT 4 o K)) (runC prog (pset b1 b2 (rset "fstring-hands-on-the-str" b3 P)) 1400 (trC 4 tp tm ta) hTr4_0 [(73,o)] K t):=by
 revert b2; exact Rf.prove _ (by kernel_rfl)
theorem trT_5 (b1 b2 b3:Bool) (prog:Program) (P:Params) (o:Obj) (K t tp tm ta:Nat):(trT 5 o K) (runC prog (pset b1 b2 (rset "fstring-hands-on-the-str" b3 P)) 1400 (trC 5 tp tm ta) hTr5_0 [(73,o)] K t):=by
 revert b2; exact Rf.prove _ (by kernel_rfl)
theorem trTN_1 (b1 b2 b3:Bool) (prog:Program) (P:Params) (K t tp tm ta:Nat):(trTN 1 15 K) (runC prog (pset b1 b2 (rset "fstring-hands-on-the-str" b3 P)) 1400 (trC 1 tp tm ta) hTr1_0 [(73,tabO #[])] K t):=by
 revert b2 b3; exact Rf.prove _ (by kernel_rfl)
theorem trTB_1 (b1 b2 b3:Bool) (prog:Program) (P:Params) (K t c tp tm ta:Nat) (cvs:Array Value):(trTB 1 c cvs K) (runC prog (pset b1 b2 (rset "fstring-hands-on-the-str" b3 P)) 1400 (trC 1 tp tm ta) hTrB1_0 [(73,tabO #[rawInt 100,rawInt 39,.ref c]),(c,codO cvs)] K t):=by
 revert b2 b3; exact Rf.prove _ (by kernel_rfl)
theorem trTN_3 (b1 b2 b3:Bool) (prog:Program) (P:Params) (K t tp tm ta:Nat):(isnt (q [91,94,120,93]) (cond b3 66 65) tm t hTr3_1 (trTN 3 14 K)) (runC prog (pset b1 b2 (rset "fstring-hands-on-the-str" b3 P)) 1400 (trC 3 tp tm ta) hTr3_0 [(73,tabO #[])] K t):=by
 revert b2 b3; exact Rf.prove _ (by kernel_rfl)
theorem trTB_3 (b1 b2 b3:Bool) (prog:Program) (P:Params) (K t c tp tm ta:Nat) (cvs:Array Value):(isnt (q [91,94,120,93]) (cond b3 60 59) tm t hTrB3_1 (trTB 3 c cvs K)) (runC prog (pset b1 b2 (rset "fstring-hands-on-the-str" b3 P)) 1400 (trC 3 tp tm ta) hTrB3_0 [(73,tabO #[rawInt 100,rawInt 39,.ref c]),(c,codO cvs)] K t):=by
 revert b2 b3; exact Rf.prove _ (by kernel_rfl)
noncomputable def KtNo (a:Nat):Prop:=∀ P,(kt P).get a=none
theorem ktno_ge {a:Nat} (h:277≤a):KtNo a:=fun P=>by
 cases q:(kt P).get a with
 | none=>rfl
 | some o=>exact absurd (kt_low q) (Nat.not_lt.mpr h)
theorem ktno_73:KtNo 73:=fun P=>by kernel_rfl
theorem ktno_40:KtNo 40:=fun P=>by kernel_rfl
theorem ktno_273:KtNo 273:=fun P=>by kernel_rfl
noncomputable def AllK:List (Nat×Obj)→Prop
 | []=>True
 | x::l=>KtNo x.1∧AllK l
theorem AllK.at: ∀ {D:List (Nat×Obj)},AllK D→∀ (i:Nat) (x:Nat×Obj),D[i]? =some x→KtNo x.1
 | [],_,i,x,e=>by simp at e
 | y::l,h,i,x,e=>by
  cases i with
  | zero=>simp at e; subst e; exact h.1
  | succ i=>simp at e; exact AllK.at h.2 i x e
theorem Sat.startG {prog:Program} {w:World} {A:Around} {R:Result→Shared→Prop} {sh:Shared} (T:Top w sh) {D:List (Nat×Obj)} (F:Facts 0 sh D) (hk:AllK D) {K t:Nat} (hK:sh.heap.objs.size=K+278) (ht:sh.toks=t+849):
  Sat ⟨prog,w,A,R,Mine.kt w.params,sh.heap,inD D,sh.os,sh.toks⟩ ⟨D,K+278,0,t+849,0,[]⟩ sh where
 size:=hK
 toks:=ht
 gens:=T.gens
 os:=rfl
 kt:=T.kt
 own:=fun i x e=>(F.own i x e).1
 apart:=F.apart
 ktno:=fun i x e=>hk.at i x e _
 keep:=fun b o e zz=>e
 muD:=fun i x e=>.inl (inD_of e)
 grow:=by show sh.heap.objs.size≤K+278+0; lia
 t849:=by show 849≤t+849+0; lia
 t0:=by show sh.toks≤t+849+0; lia
theorem walk_codeG {prog:Program} {w:World} {A:Around} {R:Result→Shared→Prop} {sh:Shared} {c:Code} (T:Top w sh) {k:Nat} (Rm:Room k A) (hn:ncal c=true) {D:List (Nat×Obj)} (F:Facts 0 sh D) (hk:AllK D) (n:Nat) (hs:List Nat)
  (h: ∀ K t,sh.heap.objs.size=K+278→sh.toks=t+849→Ok ⟨prog,w,A,R,Mine.kt w.params,sh.heap,inD D,sh.os,sh.toks⟩ (runC prog w.params n c hs D K t)):
  codeAny (model prog w) A c R sh:=by
 refine x1 T.K fun K hK=>?_
 have ht:sh.toks=(sh.toks - 849)+849:=(Nat.sub_add_cancel T.toks).symm
 have z:=h K (sh.toks - 849) hK ht
 unfold runC at z
 exact code_in n hs _ (Rm.mono (Nat.zero_le _)).depth Rm.handled hn (Sat.startG T F hk hK ht) z
theorem Sat.all0 {V:Sv} {s:St} {sh':Shared} (S:Sat V s sh') {js:List Nat} : ∀ {D2:List (Nat×Obj)},pick js s.D=D2→OwnAll 0 sh' D2:=by
 suffices h: ∀ D2:List (Nat×Obj),(∀ x∈D2,∃ i:Nat,s.D[i]? =some x)→OwnAll 0 sh' D2 by
  intro D2 e
  subst e
  exact h _ fun x hx=>pick_sub hx
 intro D2
 induction D2 with
 | nil=>intro _; trivial
 | cons x l ih=>
  intro h
  refine x1 (h x List.mem_cons_self) fun i hi=>?_
  exact ⟨⟨S.own i x hi,Nat.zero_le _⟩,ih fun y hy=>h y (List.mem_cons_of_mem _ hy)⟩
section
variable {prog:Program} {w:World} {A:Around} {Q:Result→Shared→Prop} {h₀:Heap} {mu:Nat→Prop} {os:OsState} {t₀:Nat} {R:Rs}
theorem isnt_ok {p:Str} {i tm t:Nat} {h2:List Nat} {P:Rs→Prop} (H:isnt p i tm t h2 P R) (hp:(p==sMany)=false) (h1:849≤tm) (h3:tm<t+849) (Rm:Room 1 A) (h0:278≤h₀.objs.size)
  (h: ∀ R',P R'→Ok (sv prog w A Q h₀ mu os t₀) R'):Ok (sv prog w A Q h₀ mu os t₀) R:=by
 refine CCut.ok (fun zz=>True) H Rm h0 (fun s sh B pre S T RB=>?_) fun zz R' zz q=>h R' q
 have pre:s.tb=t+849:=pre
 unfold isntT
 rw [pre]
 exact wp_isnt hp (by show t+849+i≠0; lia) (by lia) (by show t+849+i≠tm; lia) ⟨(),rfl,trivial,S.lg []⟩
end
inductive Tab (sh:Shared):Prop
 | none (h:sh.heap.get? 73=some (tabO #[]))
 | code (c:Nat) (cvs:Array Value) (h:sh.heap.get? 73=some (tabO #[rawInt 100,rawInt 39,.ref c])) (hc:sh.heap.get? c=some (codO cvs)) (hc7:277≤c)
noncomputable def TrEnd (j:Nat) (sh:Shared) (r:Result) (sh':Shared):Prop:=
 ∃ a ts e,r= .ok (.ret (.ref a))∧sh.heap.objs.size≤a∧sh'.heap.get? a=some (listO (strsA (partS j) ts).toArray e)∧
  (Ext none_ sh sh'∨(sh.heap.get? 73=some (tabO #[])∧∃ c cvs,Ext (fun b=>b=73) sh sh'∧sh'.heap.get? 73=some (tabO #[rawInt 100,rawInt 39,.ref c])∧sh'.heap.get? c=some (codO cvs)∧sh.heap.objs.size≤c))
section
variable {prog:Program} {w:World} {A:Around} {sh:Shared}
theorem trT_end {j:Nat} {o:Obj} {K t:Nat} (hK:sh.heap.objs.size=K+278) (ho:sh.heap.get? 73=some o) {R:Rs} (q:trT j o K R):Ok (sv prog w A (TrEnd j sh) sh.heap (inD [(73,o)]) sh.os sh.toks) R:=by
 refine CEnd.ok q fun sh' q S=>?_
 refine x2 q fun q1 q2=>?_; clear q
 refine x3 (S.all0 q2) fun o1 zz zz=>?_
 refine ⟨K+279,_,_,rfl,by lia,o1,.inl ?_⟩
 have F:Facts 0 sh [(73,o)]:=.of ⟨⟨ho,Nat.zero_le _⟩,trivial⟩ (by kernel_rfl)
 exact (S.only (sh:=sh) (cs:= [false]) rfl rfl rfl F q1).weak fun b h=>h
theorem trTN_end {j ci:Nat} {K t:Nat} (hci:0<ci) (hK:sh.heap.objs.size=K+278) (ho:sh.heap.get? 73=some (tabO #[])) {R:Rs} (q:trTN j ci K R):Ok (sv prog w A (TrEnd j sh) sh.heap (inD [(73,tabO #[])]) sh.os sh.toks) R:=by
 refine CEnd.ok q fun sh' q S=>?_
 refine x2 q fun q1 q2=>?_; clear q
 refine x6 (S.all0 q1) fun o1 zz o2 zz zz=>?_
 have o3:=S.obj q2
 refine ⟨K+279,_,_,rfl,by lia,o1,.inr ⟨ho,aOf (stOf R) ci,_,?_,o3,o2,?_⟩⟩
 ·refine (S.ext (sh₀:=sh) rfl rfl).weak fun b hb=>?_
  rcases hb with hb | hb
  ·exact hb
  ·exact hb.elim
 ·have m:((aOf (stOf R) ci,codO (fldOf (dOf (stOf R) ci))):Nat×Obj)∈pick [2,ci] (stOf R).D:=by rw [q1]; simp
  have g:(getD (stOf R).D ci).isSome=true:=by
   cases h:getD (stOf R).D ci with
   | some _=>rfl
   | none=>
    exfalso
    have e:pick [2,ci] (stOf R).D=pick [2] (stOf R).D:=by
     simp only [pick,h]
    have:(pick [2] (stOf R).D).length≤1:=by
     unfold pick
     cases getD (stOf R).D 2<;>simp [pick]
    rw [←e,q1] at this
    simp at this
  rcases S.muD ci _ (aOf_get g) with q | q
  ·rcases q with q | q
   ·have q:aOf (stOf R) ci=73:=q
    rw [q] at o2
    rw [o3] at o2
    cases o2
   ·exact q.elim
  ·exact q
theorem two_facts {sh:Shared} {c:Nat} {o o':Obj} (ho:sh.heap.get? 73=some o) (hc:sh.heap.get? c=some o') (hc7:277≤c):Facts 0 sh [(73,o),(c,o')]:=
 .cons ho (Nat.zero_le _) (ne_cons (by lia) ne_nil) (.cons hc (Nat.zero_le _) ne_nil .nil)
theorem trTB_end {j:Nat} {c:Nat} {cvs:Array Value} {K t:Nat} (hc7:277≤c) (hK:sh.heap.objs.size=K+278) (ho:sh.heap.get? 73=some (tabO #[rawInt 100,rawInt 39,.ref c])) (hc:sh.heap.get? c=some (codO cvs)) {R:Rs} (q:trTB j c cvs K R):
  Ok (sv prog w A (TrEnd j sh) sh.heap (inD [(73,tabO #[rawInt 100,rawInt 39,.ref c]),(c,codO cvs)]) sh.os sh.toks) R:=by
 refine CEnd.ok q fun sh' q S=>?_
 refine x2 q fun q1 q2=>?_; clear q
 refine x3 (S.all0 q2) fun o1 zz zz=>?_
 refine ⟨K+279,_,_,rfl,by lia,o1,.inl ?_⟩
 have F:=two_facts ho hc hc7
 exact (S.only (sh:=sh) (cs:= [false,false]) rfl rfl rfl F q1).weak fun b h=>h
theorem three {X:Params→Prop} {P:Params} (h: ∀ b1 b2 b3,X (pset b1 b2 (rset "fstring-hands-on-the-str" b3 P))):X P:=
 rset_all "fstring-hands-on-the-str" (X:=X) fun b3=>pset_all (X:=X) fun b1 b2=>h b1 b2 b3
theorem trr_0 (prog:Program) (P:Params) (o:Obj) (K t tp tm ta:Nat):(isnt (q [92,45]) 36 tm t hTr0_1 (trT 0 o K)) (runC prog P 1400 (trC 0 tp tm ta) hTr0_0 [(73,o)] K t):=
 three (X:=fun P=>(isnt (q [92,45]) 36 tm t hTr0_1 (trT 0 o K)) (runC prog P 1400 (trC 0 tp tm ta) hTr0_0 [(73,o)] K t)) fun b1 b2 b3=>trT_0 b1 b2 b3 prog P o K t tp tm ta
theorem tro_0 (T:Top w sh) (Rm:Room 1 A) (tp tm ta:Nat) (h1:849≤tm) (h2:tm<sh.toks) {o:Obj} (ho:sh.heap.get? 73=some o):codeAny (model prog w) A (trC 0 tp tm ta) (TrEnd 0 sh) sh:=by
 refine walk_codeG T Rm rfl (D:= [(73,o)]) (.of ⟨⟨ho,Nat.zero_le _⟩,trivial⟩ (by kernel_rfl)) ⟨ktno_73,trivial⟩ 1400 hTr0_0 fun K t hK ht=>?_
 have z:=trr_0 prog w.params o K t tp tm ta
 revert z
 generalize runC prog w.params 1400 (trC 0 tp tm ta) hTr0_0 [(73,o)] K t=R
 intro z
 exact isnt_ok z (by kernel_rfl) h1 (by lia) Rm T.size fun R' z=>trT_end (t:=t) hK ho z
theorem trr_2 (prog:Program) (P:Params) (o:Obj) (K t tp tm ta:Nat):(trT 2 o K) (runC prog P 1400 (trC 2 tp tm ta) hTr2_0 [(73,o)] K t):=
 three (X:=fun P=>(trT 2 o K) (runC prog P 1400 (trC 2 tp tm ta) hTr2_0 [(73,o)] K t)) fun b1 b2 b3=>trT_2 b1 b2 b3 prog P o K t tp tm ta
theorem tro_2 (T:Top w sh) (Rm:Room 1 A) (tp tm ta:Nat) (h1:849≤tm) (h2:tm<sh.toks) {o:Obj} (ho:sh.heap.get? 73=some o):codeAny (model prog w) A (trC 2 tp tm ta) (TrEnd 2 sh) sh:=by
 refine walk_codeG T Rm rfl (D:= [(73,o)]) (.of ⟨⟨ho,Nat.zero_le _⟩,trivial⟩ (by kernel_rfl)) ⟨ktno_73,trivial⟩ 1400 hTr2_0 fun K t hK ht=>?_
 have z:=trr_2 prog w.params o K t tp tm ta
 revert z
 generalize runC prog w.params 1400 (trC 2 tp tm ta) hTr2_0 [(73,o)] K t=R
 intro z
 exact trT_end (t:=t) hK ho z
theorem trr_4 (prog:Program) (P:Params) (o:Obj) (K t tp tm ta:Nat):(isnt (q [97]) 30 tm t hTr4_1 (trT 4 o K)) (runC prog P 1400 (trC 4 tp tm ta) hTr4_0 [(73,o)] K t):=
 three (X:=fun P=>(isnt (q [97]) 30 tm t hTr4_1 (trT 4 o K)) (runC prog P 1400 (trC 4 tp tm ta) hTr4_0 [(73,o)] K t)) fun b1 b2 b3=>trT_4 b1 b2 b3 prog P o K t tp tm ta
theorem tro_4 (T:Top w sh) (Rm:Room 1 A) (tp tm ta:Nat) (h1:849≤tm) (h2:tm<sh.toks) {o:Obj} (ho:sh.heap.get? 73=some o):codeAny (model prog w) A (trC 4 tp tm ta) (TrEnd 4 sh) sh:=by
 refine walk_codeG T Rm rfl (D:= [(73,o)]) (.of ⟨⟨ho,Nat.zero_le _⟩,trivial⟩ (by kernel_rfl)) ⟨ktno_73,trivial⟩ 1400 hTr4_0 fun K t hK ht=>?_
 have z:=trr_4 prog w.params o K t tp tm ta
 revert z
 generalize runC prog w.params 1400 (trC 4 tp tm ta) hTr4_0 [(73,o)] K t=R
 intro z
 exact isnt_ok z (by kernel_rfl) h1 (by lia) Rm T.size fun R' z=>trT_end (t:=t) hK ho z
theorem trr_5 (prog:Program) (P:Params) (o:Obj) (K t tp tm ta:Nat):(trT 5 o K) (runC prog P 1400 (trC 5 tp tm ta) hTr5_0 [(73,o)] K t):=
 three (X:=fun P=>(trT 5 o K) (runC prog P 1400 (trC 5 tp tm ta) hTr5_0 [(73,o)] K t)) fun b1 b2 b3=>trT_5 b1 b2 b3 prog P o K t tp tm ta
theorem tro_5 (T:Top w sh) (Rm:Room 1 A) (tp tm ta:Nat) (h1:849≤tm) (h2:tm<sh.toks) {o:Obj} (ho:sh.heap.get? 73=some o):codeAny (model prog w) A (trC 5 tp tm ta) (TrEnd 5 sh) sh:=by
 refine walk_codeG T Rm rfl (D:= [(73,o)]) (.of ⟨⟨ho,Nat.zero_le _⟩,trivial⟩ (by kernel_rfl)) ⟨ktno_73,trivial⟩ 1400 hTr5_0 fun K t hK ht=>?_
 have z:=trr_5 prog w.params o K t tp tm ta
 revert z
 generalize runC prog w.params 1400 (trC 5 tp tm ta) hTr5_0 [(73,o)] K t=R
 intro z
 exact trT_end (t:=t) hK ho z
theorem trr_N1 (prog:Program) (P:Params) (K t tp tm ta:Nat):(trTN 1 15 K) (runC prog P 1400 (trC 1 tp tm ta) hTr1_0 [(73,tabO #[])] K t):=
 three (X:=fun P=>(trTN 1 15 K) (runC prog P 1400 (trC 1 tp tm ta) hTr1_0 [(73,tabO #[])] K t)) fun b1 b2 b3=>trTN_1 b1 b2 b3 prog P K t tp tm ta
theorem tro_N1 (T:Top w sh) (Rm:Room 1 A) (tp tm ta:Nat) (h1:849≤tm) (h2:tm<sh.toks) (ho:sh.heap.get? 73=some (tabO #[])):codeAny (model prog w) A (trC 1 tp tm ta) (TrEnd 1 sh) sh:=by
 refine walk_codeG T Rm rfl (D:= [(73,tabO #[])]) (.of ⟨⟨ho,Nat.zero_le _⟩,trivial⟩ (by kernel_rfl)) ⟨ktno_73,trivial⟩ 1400 hTr1_0 fun K t hK ht=>?_
 have z:=trr_N1 prog w.params K t tp tm ta
 revert z
 generalize runC prog w.params 1400 (trC 1 tp tm ta) hTr1_0 [(73,tabO #[])] K t=R
 intro z
 exact trTN_end (t:=t) (by lia) hK ho z
theorem trr_B1 (prog:Program) (P:Params) (c:Nat) (cvs:Array Value) (K t tp tm ta:Nat):(trTB 1 c cvs K) (runC prog P 1400 (trC 1 tp tm ta) hTrB1_0 [(73,tabO #[rawInt 100,rawInt 39,.ref c]),(c,codO cvs)] K t):=
 three (X:=fun P=>(trTB 1 c cvs K) (runC prog P 1400 (trC 1 tp tm ta) hTrB1_0 [(73,tabO #[rawInt 100,rawInt 39,.ref c]),(c,codO cvs)] K t)) fun b1 b2 b3=>trTB_1 b1 b2 b3 prog P K t c tp tm ta cvs
theorem tro_B1 (T:Top w sh) (Rm:Room 1 A) (tp tm ta:Nat) (h1:849≤tm) (h2:tm<sh.toks) {c:Nat} {cvs:Array Value} (ho:sh.heap.get? 73=some (tabO #[rawInt 100,rawInt 39,.ref c])) (hc:sh.heap.get? c=some (codO cvs)) (hc7:277≤c):codeAny (model prog w) A (trC 1 tp tm ta) (TrEnd 1 sh) sh:=by
 refine walk_codeG T Rm rfl (D:= [(73,tabO #[rawInt 100,rawInt 39,.ref c]),(c,codO cvs)]) (two_facts ho hc hc7) ⟨ktno_73,ktno_ge hc7,trivial⟩ 1400 hTrB1_0 fun K t hK ht=>?_
 have z:=trr_B1 prog w.params c cvs K t tp tm ta
 revert z
 generalize runC prog w.params 1400 (trC 1 tp tm ta) hTrB1_0 [(73,tabO #[rawInt 100,rawInt 39,.ref c]),(c,codO cvs)] K t=R
 intro z
 exact trTB_end (t:=t) hc7 hK ho hc z
theorem trr_N3 (prog:Program) (P:Params) (K t tp tm ta:Nat): ∃ i,(isnt (q [91,94,120,93]) i tm t hTr3_1 (trTN 3 14 K)) (runC prog P 1400 (trC 3 tp tm ta) hTr3_0 [(73,tabO #[])] K t):=
 three (X:=fun P=>∃ i,(isnt (q [91,94,120,93]) i tm t hTr3_1 (trTN 3 14 K)) (runC prog P 1400 (trC 3 tp tm ta) hTr3_0 [(73,tabO #[])] K t)) fun b1 b2 b3=>⟨_,trTN_3 b1 b2 b3 prog P K t tp tm ta⟩
theorem tro_N3 (T:Top w sh) (Rm:Room 1 A) (tp tm ta:Nat) (h1:849≤tm) (h2:tm<sh.toks) (ho:sh.heap.get? 73=some (tabO #[])):codeAny (model prog w) A (trC 3 tp tm ta) (TrEnd 3 sh) sh:=by
 refine walk_codeG T Rm rfl (D:= [(73,tabO #[])]) (.of ⟨⟨ho,Nat.zero_le _⟩,trivial⟩ (by kernel_rfl)) ⟨ktno_73,trivial⟩ 1400 hTr3_0 fun K t hK ht=>?_
 have z:=trr_N3 prog w.params K t tp tm ta
 revert z
 generalize runC prog w.params 1400 (trC 3 tp tm ta) hTr3_0 [(73,tabO #[])] K t=R
 intro z
 refine x1 z fun i z=>?_
 exact isnt_ok z (by kernel_rfl) h1 (by lia) Rm T.size fun R' z=>trTN_end (t:=t) (by lia) hK ho z
theorem trr_B3 (prog:Program) (P:Params) (c:Nat) (cvs:Array Value) (K t tp tm ta:Nat): ∃ i,(isnt (q [91,94,120,93]) i tm t hTrB3_1 (trTB 3 c cvs K)) (runC prog P 1400 (trC 3 tp tm ta) hTrB3_0 [(73,tabO #[rawInt 100,rawInt 39,.ref c]),(c,codO cvs)] K t):=
 three (X:=fun P=>∃ i,(isnt (q [91,94,120,93]) i tm t hTrB3_1 (trTB 3 c cvs K)) (runC prog P 1400 (trC 3 tp tm ta) hTrB3_0 [(73,tabO #[rawInt 100,rawInt 39,.ref c]),(c,codO cvs)] K t)) fun b1 b2 b3=>⟨_,trTB_3 b1 b2 b3 prog P K t c tp tm ta cvs⟩
theorem tro_B3 (T:Top w sh) (Rm:Room 1 A) (tp tm ta:Nat) (h1:849≤tm) (h2:tm<sh.toks) {c:Nat} {cvs:Array Value} (ho:sh.heap.get? 73=some (tabO #[rawInt 100,rawInt 39,.ref c])) (hc:sh.heap.get? c=some (codO cvs)) (hc7:277≤c):codeAny (model prog w) A (trC 3 tp tm ta) (TrEnd 3 sh) sh:=by
 refine walk_codeG T Rm rfl (D:= [(73,tabO #[rawInt 100,rawInt 39,.ref c]),(c,codO cvs)]) (two_facts ho hc hc7) ⟨ktno_73,ktno_ge hc7,trivial⟩ 1400 hTrB3_0 fun K t hK ht=>?_
 have z:=trr_B3 prog w.params c cvs K t tp tm ta
 revert z
 generalize runC prog w.params 1400 (trC 3 tp tm ta) hTrB3_0 [(73,tabO #[rawInt 100,rawInt 39,.ref c]),(c,codO cvs)] K t=R
 intro z
 refine x1 z fun i z=>?_
 exact isnt_ok z (by kernel_rfl) h1 (by lia) Rm T.size fun R' z=>trTB_end (t:=t) hc7 hK ho hc z
theorem tr_spec (T:Top w sh) (Rm:Room 1 A) (j:Nat) (hj:j<6) (tp tm ta:Nat) (h1:849≤tm) (h2:tm<sh.toks) (H:Tab sh):codeAny (model prog w) A (trC j tp tm ta) (TrEnd j sh) sh:=by
 have plain: ∀ o,sh.heap.get? 73=some o→j=0∨j=2∨j=4∨j=5→codeAny (model prog w) A (trC j tp tm ta) (TrEnd j sh) sh:=fun o ho hj=>by
  rcases hj with rfl | rfl | rfl | rfl
  ·exact tro_0 T Rm tp tm ta h1 h2 ho
  ·exact tro_2 T Rm tp tm ta h1 h2 ho
  ·exact tro_4 T Rm tp tm ta h1 h2 ho
  ·exact tro_5 T Rm tp tm ta h1 h2 ho
 have cases6:(j=0∨j=2∨j=4∨j=5)∨j=1∨j=3:=by lia
 cases H with
 | none ho=>
  rcases cases6 with hj | rfl | rfl
  ·exact plain _ ho hj
  ·exact tro_N1 T Rm tp tm ta h1 h2 ho
  ·exact tro_N3 T Rm tp tm ta h1 h2 ho
 | code c cvs ho hc hc7=>
  rcases cases6 with hj | rfl | rfl
  ·exact plain _ ho hj
  ·exact tro_B1 T Rm tp tm ta h1 h2 ho hc hc7
  ·exact tro_B3 T Rm tp tm ta h1 h2 ho hc hc7
end
theorem runs_mono {M:Model} {Γ:Ctx} {p:Pos} {t:Sem PySem.Fin} {fs:List Frame} {s:Shared} {e:End} {s':Shared} (h:Runs M Γ p t fs s e s'):s.toks≤s'.toks∧s.heap.objs.size≤s'.heap.objs.size:=by
 have sg: ∀ (s:Shared) g x,(s.setGen g x).toks=s.toks∧(s.setGen g x).heap=s.heap:=fun s g x=>⟨rfl,rfl⟩
 induction h with
 | done=>exact ⟨Nat.le_refl _,Nat.le_refl _⟩
 | raise=>exact ⟨Nat.le_refl _,Nat.le_refl _⟩
 | yield=>exact ⟨Nat.le_refl _,Nat.le_refl _⟩
 | update _ _ ih=>
  refine ⟨ih.1,?_⟩
  have:=ih.2
  simp only [Heap.size_after_update] at this
  exact this
 | alloc _ ih=>
  refine ⟨ih.1,?_⟩
  have:=ih.2
  simp only [Heap.size_push] at this
  lia
 | fresh _ ih=>
  refine ⟨?_,ih.2⟩
  have:=ih.1
  simp only at this
  lia
 | call _ _ ih1 ih2=>exact ⟨Nat.le_trans ih1.1 ih2.1,Nat.le_trans ih1.2 ih2.2⟩
 | resumeFresh _ _ _ _ ih1 ih2=>exact ⟨Nat.le_trans ih1.1 ih2.1,Nat.le_trans ih1.2 ih2.2⟩
 | resumeSuspended _ _ _ _ ih1 ih2=>exact ⟨Nat.le_trans ih1.1 ih2.1,Nat.le_trans ih1.2 ih2.2⟩
 | segRet _ _ ih1 ih2=>exact ⟨Nat.le_trans ih1.1 ih2.1,Nat.le_trans ih1.2 ih2.2⟩
 | segGen _ _ ih1 ih2=>exact ⟨Nat.le_trans ih1.1 ih2.1,Nat.le_trans ih1.2 ih2.2⟩
 | segSuspGen _ _ _ _ ih1 ih2=>exact ⟨Nat.le_trans ih1.1 ih2.1,Nat.le_trans ih1.2 ih2.2⟩
 | _=>first | (rename_i ih; exact ih) | (rename_i _ ih; exact ih)
theorem codeAny_grow {M:Model} {A:Around} {c:Code} {R:Result→Shared→Prop} {s:Shared} (h:codeAny M A c R s):codeAny M A c (fun r s'=>R r s'∧s.toks≤s'.toks∧s.heap.objs.size≤s'.heap.objs.size) s:=fun Γ p hc hΓ=>by
 refine x12 (h Γ p hc hΓ) fun r s' h1 h2=>?_
 exact ⟨r,s',h1,h2,runs_mono h1⟩
section
variable {V:Sv}
theorem Sat.swap0 {s:St} {sh sh':Shared} (hk: ∀ a o,V.kt.get a=some o→a<277) (h0:278≤V.h₀.objs.size) (S:Sat V s sh) {cs:List Bool} (X:Ext (chA cs s.D) sh sh')
  {D':List (Nat×Obj)} (N:Facts 0 sh' D') (N2: ∀ y∈D',sh.heap.objs.size≤y.1∨chA cs s.D y.1) {b t:Nat} (hb:sh'.heap.objs.size=b) (ht:sh'.toks=t):Sat V ⟨apL (keepA cs s.D) D',b,0,t,0,[]⟩ sh':=by
 have hsz:V.h₀.objs.size≤sh.heap.objs.size:=by rw [S.size]; exact S.grow
 have S1:Sat V ⟨apL (keepA cs s.D) [],b,0,t,0,[]⟩ sh':=S.drop hk h0 X .nil hb ht
 have e0:apL (keepA cs s.D) []=keepA cs s.D:=by rw [apL_eq]; simp
 rw [e0] at S1
 have spl: ∀ (i:Nat) (y:Nat×Obj),(apL (keepA cs s.D) D')[i]? =some y→(keepA cs s.D)[i]? =some y∨∃ k,i=(keepA cs s.D).length+k∧D'[k]? =some y:=by
  intro i y h
  rw [apL_eq,List.getElem?_append] at h
  split at h
  ·exact .inl h
  ·exact .inr ⟨i - (keepA cs s.D).length,by lia,h⟩
 have ne: ∀ (i k:Nat) (y z:Nat×Obj),(keepA cs s.D)[i]? =some y→D'[k]? =some z→y.1≠z.1:=by
  intro i k y z h1 h2 e
  refine x5 (keepA_idx h1) fun j g1 zz g3=>?_
  rcases N2 z (List.mem_of_getElem? h2) with q | q
  ·have:=Heap.lt_size (S.own j y g1)
   rw [e] at this
   exact absurd this (Nat.not_lt.mpr q)
  ·refine x10 (chA_idx q) fun j' x' q1 q2 q3=>?_
   have:=S.apart j j' y x' g1 q1 (e.trans q3)
   subst this
   exact g3 q2
 refine ⟨S1.size,S1.toks,S1.gens,S1.os,S1.kt,fun i y h=>?_,fun i k y z h1 h2 e=>?_,fun i y h=>?_,S1.keep,fun i y h=>?_,S1.grow,S1.t849,S1.t0⟩
 ·rcases spl i y h with h | ⟨k,_,h⟩
  ·exact S1.own i y h
  ·exact (N.own k y h).1
 ·rcases spl i y h1 with h1 | ⟨k1,e1,h1⟩<;>rcases spl k z h2 with h2 | ⟨k2,e2,h2⟩
  ·exact S1.apart i k y z h1 h2 e
  ·exact absurd e (ne i k2 y z h1 h2)
  ·exact absurd e.symm (ne k k1 z y h2 h1)
  ·rw [e1,e2,N.apart k1 k2 y z h1 h2 e]
 ·rcases spl i y h with h | ⟨k,_,h⟩
  ·exact S1.ktno i y h
  ·rcases N2 y (List.mem_of_getElem? h) with q | q
   ·cases q':V.kt.get y.1 with
    | none=>rfl
    | some o'=>
     have h1:=hk _ _ q'
     have h2:V.h₀.objs.size≤y.1:=Nat.le_trans hsz q
     lia
   ·refine x10 (chA_idx q) fun j' x' q1 q2 q3=>?_
    rw [q3]
    exact S.ktno j' x' q1
 ·rcases spl i y h with h | ⟨k,_,h⟩
  ·exact S1.muD i y h
  ·rcases N2 y (List.mem_of_getElem? h) with q | q
   ·exact .inr (Nat.le_trans hsz q)
   ·refine x10 (chA_idx q) fun j' x' q1 q2 q3=>?_
    rw [q3]
    exact S.muD j' x' q1
end
section
variable {prog:Program} {w:World} {A:Around} {Q:Result→Shared→Prop} {h₀:Heap} {mu:Nat→Prop} {os:OsState} {t₀:Nat} {R:Rs} {k:Nat}
theorem CSw.ok0 {X:Type} {c:St→Code} {pre:St→Prop} {r:X→Result} {cs:List Bool} {D':St→X→List (Nat×Obj)} {hs:X→List Nat} {P:X→Rs→Prop} (T:X→Prop) (H:CSw c pre r cs D' hs P R) (Rm:Room (k+1) A) (h0:278≤h₀.objs.size)
  (spec: ∀ s sh B,pre s→Sat (sv prog w A Q h₀ mu os t₀) s sh→Top w sh→Room k B→codeAny (model prog w) B (c s) (Po 0 r T (chA cs s.D) (D' s) sh) sh)
  (h: ∀ x R',T x→P x R'→Ok (sv prog w A Q h₀ mu os t₀) R'):Ok (sv prog w A Q h₀ mu os t₀) R:=by
 refine ok_stop H.1 fun sh S B h1 h2 h3=>?_
 have T0:=topW w S rfl h0
 refine codeAny_mono (spec _ sh B H.2.1 S T0 (Rm.down h1 h2 h3)) fun r' sh' hq=>x16 hq fun x hr ht X N N2=>?_
 have hz:278≤sh'.heap.objs.size:=Nat.le_trans T0.size X.size
 have q:=h x _ ht (H.2.2 x (sh'.heap.objs.size - 278) (sh'.toks - 849))
 subst hr
 exact ⟨hs x,_,Sat.swap0 (fun zz zz e=>kt_low e) h0 S X N N2 (b:=sh'.heap.objs.size - 278+278) (t:=sh'.toks - 849+849) (Nat.sub_add_cancel hz).symm (Nat.sub_add_cancel X.t849).symm,q⟩
end
noncomputable abbrev Row:=Str×Str
noncomputable def RowAt (sh:Shared) (a:Nat) (r:Row):Prop:=277≤a∧∃ tk tv,sh.heap.get? a=some (tupO [.str r.1 tk,.str r.2 tv])
inductive RowsAt (sh:Shared):List Nat→List Row→Prop
 | nil:RowsAt sh [] []
 | cons {a:Nat} {r:Row} {l:List Nat} {rs:List Row} (h:RowAt sh a r) (t:RowsAt sh l rs):RowsAt sh (a::l) (r::rs)
theorem RowsAt.length {sh:Shared} {l:List Nat} {rs:List Row} (h:RowsAt sh l rs):l.length=rs.length:=by
 induction h with
 | nil=>rfl
 | cons _ _ ih=>simp [ih]
theorem RowsAt.get {sh:Shared} {l:List Nat} {rs:List Row} (h:RowsAt sh l rs) {i:Nat} {a:Nat} (e:l[i]? =some a): ∃ r,rs[i]? =some r∧RowAt sh a r:=by
 induction h generalizing i with
 | nil=>simp at e
 | cons q _ ih=>
  cases i with
  | zero=>simp at e; subst e; exact ⟨_,rfl,q⟩
  | succ i=>simp at e; simpa using ih e
theorem RowsAt.mono {sh sh':Shared} {l:List Nat} {rs:List Row} (h:RowsAt sh l rs) (f: ∀ a r,RowAt sh a r→RowAt sh' a r):RowsAt sh' l rs:=by
 induction h with
 | nil=>exact .nil
 | cons q _ ih=>exact .cons (f _ _ q) ih
theorem RowsAt.app {sh:Shared} {l l':List Nat} {rs rs':List Row} (h:RowsAt sh l rs) (h':RowsAt sh l' rs'):RowsAt sh (l++l') (rs++rs'):=by
 induction h with
 | nil=>exact h'
 | cons q _ ih=>exact .cons q ih
theorem RowAt.ext {sh sh':Shared} {mu:Nat→Prop} {a:Nat} {r:Row} (h:RowAt sh a r) (X:Ext mu sh sh') (hm: ¬ mu a):RowAt sh' a r:=by
 refine x11 h fun h1 tk tv h2=>?_; clear h
 exact ⟨h1,tk,tv,X.keep _ _ h2 hm⟩
noncomputable def NoTup (sh:Shared) (mu:Nat→Prop):Prop:=∀ b,mu b→∀ xs,sh.heap.get? b≠some (tupO xs)
theorem RowAt.ext' {sh sh':Shared} {mu:Nat→Prop} {a:Nat} {r:Row} (h:RowAt sh a r) (X:Ext mu sh sh') (hm:NoTup sh mu):RowAt sh' a r:=by
 refine h.ext X fun q=>?_
 refine x11 h fun zz tk tv h2=>?_; clear h
 exact hm _ q _ h2
theorem RowsAt.ext {sh sh':Shared} {mu:Nat→Prop} {l:List Nat} {rs:List Row} (h:RowsAt sh l rs) (X:Ext mu sh sh') (hm:NoTup sh mu):RowsAt sh' l rs:=
 h.mono fun zz zz q=>q.ext' X hm
theorem RowsAt.ext0 {sh sh':Shared} {l:List Nat} {rs:List Row} (h:RowsAt sh l rs) (X:Ext none_ sh sh'):RowsAt sh' l rs:=
 h.mono fun zz zz q=>q.ext X id
noncomputable abbrev refsA (l:List Nat):Array Value:=(l.map Value.ref).toArray
theorem refsA_get {l:List Nat} {i:Nat} {a:Nat} (h:l[i]? =some a):(refsA l)[i]? =some (.ref a):=by simp [refsA,h]
theorem refsA_end {l:List Nat} {i:Nat} (h:l.length≤i):(refsA l)[i]? =none:=by simp [refsA,h]
noncomputable def names7:List Str:= [sAccept,saccept,sXA,sxb,sHost,sXAB,sxa]
noncomputable def vals6:List Str:= [sv0,sv1,sv2,sv3,sn,swq]
noncomputable def OkRow (r:Row):Prop:=r.1∈names7∧r.2∈vals6
noncomputable def memS (a:Str) (l:List Str):Bool:=l.any (PySem.W.Fast.sEq a)
theorem memS_of {a:Str} {l:List Str} (h:memS a l=true):a∈l:=
 have ⟨_,h1,h2⟩:=List.any_eq_true.mp h
 PySem.W.Fast.sEq_iff.mp h2▸h1
theorem sub_of {l m:List Str} (f:Str→Str) (h:(l.all fun a=>memS (f a) m)=true) {s:Str} (hs:s∈l):f s∈m:=memS_of (List.all_eq_true.mp h s hs)
theorem okN_of {s:Str} (h:s∈names7):s∈okN:=sub_of id (by kernel_rfl) h
theorem okV_of {s:Str} (h:s∈vals6):s∈okV:=sub_of id (by kernel_rfl) h
noncomputable def initFor:ForP:=forP (nthS (ifB (nthS (meth 0).body 3)) 0)
noncomputable abbrev qInit:Str:=Str.ofString "Headers.__init__.<locals>."
noncomputable def instO (d:Nat):Obj:= {cls:=.ref 224,dict:=some d}
structure IP where
 prog:Program
 P:Params
 hs:Nat→Int
 ts:Nat→Nat
 ep:Nat
 it:Nat
 l:Nat
 i:Nat
 n:Nat
 self:Nat
 d:Nat
 fr:Nat
 a:Nat
 tk:Nat
 tv:Nat
 hs':Nat→Int
 ts':Nat→Nat
 ep':Nat
 xs:Array Value
 k:Str
 v:Str
noncomputable def initC (it fr:Nat):Code:=forC initFor it (fenv (meth 0) qInit 116 115 fr [])
noncomputable def initF (p:IP) (e:List (Str×Value)):Obj:=frmO (("self",.ref p.self)::("headers",.ref p.l)::e) p.hs p.ts p.ep
noncomputable def initD5 (p:IP) (e:List (Str×Value)):List (Nat×Obj):=
 [(p.it,iterO p.l p.i),(p.l,listO p.xs p.n),(p.fr,initF p e),(p.self,instO p.d),(p.d,dicO [("_headers",.ref p.l)] p.hs' p.ts' p.ep')]
noncomputable def initD (p:IP) (e:List (Str×Value)):List (Nat×Obj):=
 [(p.it,iterO p.l p.i),(p.l,listO p.xs p.n),(p.fr,initF p e),(p.self,instO p.d),(p.d,dicO [("_headers",.ref p.l)] p.hs' p.ts' p.ep'),(p.a,tupO [.str p.k p.tk,.str p.v p.tv])]
noncomputable def csI:List Bool:= [true,false,true,false,false,false]
noncomputable def csE:List Bool:= [true,false,false,false,false]
noncomputable def hI1:List Nat:= [1,1]
noncomputable def hI2:List Nat:= [1,6,6,6,0,6,0,7,7,0,7,0,7,7,6,7,7,7,0,7,0,7,7,6,7,7,7,0,7,0,7,7,6,7,7,9,3,3,3,3,3,4,0,0,0,4,0,0,0,4,0,0,0,0,4,5,3,0,1]
noncomputable def hI3:List Nat:= [3,4,0,0,0,4,0,0,0,4,0,0,0,0,4,5,3,0,1]
noncomputable def hI4:List Nat:= [1]
noncomputable def hI6:List Nat:= [6,0]
noncomputable def initT (p:IP):Rs→Prop:=
 CNext p.it p.l p.i p.n p.xs 0 1 (.ref p.a) hI2<|CExt (convC p.k true p.self p.tk) (.ok (.ret (.str p.k p.tk))) hI3<|CExt (convC p.v false p.self p.tv) (.ok (.ret (.str p.v p.tv))) hI4<|
  CLoop (initC p.it p.fr) fun s=>keepD csI s.D= [(p.l,listO p.xs p.n),(p.self,instO p.d),(p.d,dicO [("_headers",.ref p.l)] p.hs' p.ts' p.ep'),(p.a,tupO [.str p.k p.tk,.str p.v p.tv])]∧getD s.D 0=some (p.it,iterO p.l (p.i+1))∧getD s.D 2=some (p.fr,initF {p with hs:=hsOf (dOf s 2),ts:=tsOf (dOf s 2),ep:=epOf (dOf s 2)} [("k",.str p.k p.tk),("v",.str p.v p.tv)])
noncomputable instance initT.rf {p:IP} {R:Rs} :Rf (initT p R):=by
 delta initT; infer_instance
theorem initT_0: ∀ (p:IP) K t,initT p (runC p.prog p.P 150 (initC p.it p.fr) hI1 (initD p []) K t):=by
 intro p K t
 refine pset_all (X:=fun P=>initT p (runC p.prog P 150 (initC p.it p.fr) hI1 (initD p []) K t)) fun b1 b2=>?_
 revert b2; exact Rf.prove _ (by kernel_rfl)
theorem initT_1: ∀ (p:IP) (v1 v2:Value) K t,initT p (runC p.prog p.P 150 (initC p.it p.fr) hI1 (initD p [("k",v1),("v",v2)]) K t):=by
 intro p v1 v2 K t
 refine pset_all (X:=fun P=>initT p (runC p.prog P 150 (initC p.it p.fr) hI1 (initD p [("k",v1),("v",v2)]) K t)) fun b1 b2=>?_
 revert b2; exact Rf.prove _ (by kernel_rfl)
noncomputable def initE (p:IP) (e:List (Str×Value)):Rs→Prop:=
 CLast p.it p.l p.i p.n p.xs 0 1 hI6 fun zz=>CEnd (.ok .next) fun s=>keepD csE s.D=keepD csE (initD5 p e)
noncomputable instance initE.rf {p:IP} {e:List (Str×Value)} {R:Rs} :Rf (initE p e R):=by
 delta initE; infer_instance
theorem initE_0: ∀ (p:IP) K t,initE p [] (runC p.prog p.P 150 (initC p.it p.fr) hI1 (initD5 p []) K t):=by
 intro p K t
 exact Rf.prove _ (by kernel_rfl)
theorem initE_1: ∀ (p:IP) (v1 v2:Value) K t,initE p [("k",v1),("v",v2)] (runC p.prog p.P 150 (initC p.it p.fr) hI1 (initD5 p [("k",v1),("v",v2)]) K t):=by
 intro p v1 v2 K t
 exact Rf.prove _ (by kernel_rfl)
section
variable {prog:Program} {w:World}
structure InitI (sh:Shared) (p:IP) (e:List (Str×Value)):Prop where
 it:sh.heap.get? p.it=some (iterO p.l p.i)
 l:sh.heap.get? p.l=some (listO p.xs p.n)
 fr:sh.heap.get? p.fr=some (initF p e)
 self:sh.heap.get? p.self=some (instO p.d)
 d:sh.heap.get? p.d=some (dicO [("_headers",.ref p.l)] p.hs' p.ts' p.ep')
 itL:277≤p.it
 lL:277≤p.l
 frL:277≤p.fr
 selfL:277≤p.self
 dL:277≤p.d
theorem init_apart (p:IP) (e:List (Str×Value)):apartB (initD p e)=true:=by kernel_rfl
theorem init_apart5 (p:IP) (e:List (Str×Value)):apartB (initD5 p e)=true:=by kernel_rfl
theorem InitI.facts5 {sh:Shared} {p:IP} {e:List (Str×Value)} (H:InitI sh p e):Facts 277 sh (initD5 p e):=
 .of ⟨⟨H.it,H.itL⟩,⟨H.l,H.lL⟩,⟨H.fr,H.frL⟩,⟨H.self,H.selfL⟩,⟨H.d,H.dL⟩,trivial⟩ (init_apart5 p e)
theorem InitI.noTup {sh:Shared} {p:IP} {e:List (Str×Value)} (H:InitI sh p e):NoTup sh (fun b=>b=p.it∨b=p.fr):=by
 rintro b (rfl | rfl) xs h
 ·exact ne_of (o:=iterO p.l p.i) (o':=tupO xs) H.it h (by kernel_rfl) rfl
 ·exact ne_of (o:=initF p e) (o':=tupO xs) H.fr h (by kernel_rfl) rfl
noncomputable def Ent:List (Str×Value)→Prop
 | []=>True
 | [x,y]=>x.1= "k" ∧y.1= "v"
 | _=>False
theorem init_turn {p:IP} {e:List (Str×Value)} (he:Ent e) (K t:Nat):initT p (runC p.prog p.P 150 (initC p.it p.fr) hI1 (initD p e) K t):=by
 match e,he with
 | [],_=>exact initT_0 p K t
 | [(_,v1),(_,v2)],⟨rfl,rfl⟩=>exact initT_1 p v1 v2 K t
theorem init_end {p:IP} {e:List (Str×Value)} (he:Ent e) (K t:Nat):initE p e (runC p.prog p.P 150 (initC p.it p.fr) hI1 (initD5 p e) K t):=by
 match e,he with
 | [],_=>exact initE_0 p K t
 | [(_,v1),(_,v2)],⟨rfl,rfl⟩=>exact initE_1 p v1 v2 K t
theorem init_loop {A:Around} (Rm:Room 2 A) (m:Nat): ∀ {sh:Shared} (T:Top w sh) (p:IP) (hp:p.P=w.params) (hg:p.prog=prog) (e:List (Str×Value)) (he:Ent e) (H:InitI sh p e) (refs:List Nat) (rows:List Row) (hx:p.xs=refsA refs)
  (hr:RowsAt sh refs rows) (ok: ∀ r∈rows,OkRow r) (hm:p.i+m=refs.length),
  codeAny (model prog w) A (initC p.it p.fr) (fun r sh'=>r= .ok .next∧Ext (fun b=>b=p.it∨b=p.fr) sh sh') sh:=by
 induction m with
 | zero=>
  intro sh T p hp hg e he H refs rows hx hr ok hm
  subst hg
  refine walk_code T Rm rfl H.facts5 150 hI1 fun K t hK=>?_
  have q:=init_end (p:=p) he K t
  rw [hp] at q
  revert q
  generalize runC p.prog w.params 150 (initC p.it p.fr) hI1 (initD5 p e) K t=R
  intro q
  refine CLast.ok q Rm T.size (by rw [hx]; exact refsA_end (by lia)) fun e R' q=>?_
  refine CEnd.ok q fun sh' q S=>⟨rfl,(S.only (sh:=sh) rfl rfl rfl H.facts5 q).weak fun b h=>?_⟩
  rcases h with h | h
  ·exact .inl h
  ·exact h.elim
 | succ m ih=>
  intro sh T p hp hg e he H refs rows hx hr ok hm
  subst hg
  have hlt:p.i<refs.length:=by lia
  refine x0 (hr.get (List.getElem?_eq_getElem hlt)) fun r e1 ha=>?_
  have okr:=ok r (List.mem_of_getElem? e1)
  refine x11 ha fun h1 tk tv h2=>?_; clear ha
  let p':IP:= {p with a:=refs[p.i],k:=r.1,v:=r.2,tk:=tk,tv:=tv}
  have H':InitI sh p' e:=⟨H.it,H.l,H.fr,H.self,H.d,H.itL,H.lL,H.frL,H.selfL,H.dL⟩
  have F:Facts 277 sh (initD p' e):=.of ⟨⟨H.it,H.itL⟩,⟨H.l,H.lL⟩,⟨H.fr,H.frL⟩,⟨H.self,H.selfL⟩,⟨H.d,H.dL⟩,⟨h2,h1⟩,trivial⟩ (init_apart p' e)
  refine walk_code T Rm rfl F 150 hI1 fun K t hK=>?_
  have q:=init_turn (p:=p') he K t
  rw [show p'.P=w.params from hp] at q
  revert q
  show initT p' (runC p.prog w.params 150 (initC p.it p.fr) hI1 (initD p' e) K t)→_
  generalize runC p.prog w.params 150 (initC p.it p.fr) hI1 (initD p' e) K t=R
  intro q
  refine CNext.ok q Rm T.size (by show p.xs[p.i]? =some (.ref refs[p.i]); rw [hx]; exact refsA_get (List.getElem?_eq_getElem hlt)) fun R' q=>?_
  refine CExt.ok q Rm T.size (fun sh B zz T RB=>conv_spec (b:=true) (okN_of okr.1) T RB _ _) fun R' q=>?_
  refine CExt.ok q Rm T.size (fun sh B zz T RB=>conv_spec (b:=false) (okV_of okr.2) T RB _ _) fun R' q=>?_
  refine CLoop.ok q fun sh' q S=>?_
  refine x4 q fun q1 q2 q3=>?_; clear q
  have X:=S.only (sh:=sh) rfl rfl rfl F (cs:=csI) (q1.trans rfl)
  let s:=stOf R'
  let p2:IP:= {p' with i:=p.i+1,hs:=hsOf (dOf s 2),ts:=tsOf (dOf s 2),ep:=epOf (dOf s 2)}
  have X':Ext (fun b=>b=p.it∨b=p.fr) sh sh':=X.weak fun b h=>by
   rcases h with h | h | h
   ·exact .inl h
   ·exact .inr h
   ·exact h.elim
  have k1: ∀ {a:Nat} {o:Obj},sh.heap.get? a=some o→kne (iterO p.l p.i).cls o.cls=true→kne (initF p e).cls o.cls=true→sh'.heap.get? a=some o:=fun h h1 h2=>X'.keep _ _ h (by
   rintro (rfl | rfl)
   ·exact ne_of H.it h h1 rfl
   ·exact ne_of H.fr h h2 rfl)
  refine codeAny_mono (ih (T.ext X' ?_) p2 hp rfl [("k",.str p'.k p'.tk),("v",.str p'.v p'.tv)] ⟨rfl,rfl⟩ ⟨S.obj q2,k1 H.l ?_ ?_,S.obj q3,k1 H.self ?_ ?_,k1 H.d ?_ ?_,H.itL,H.lL,H.frL,H.selfL,H.dL⟩ refs rows hx (hr.ext X' H.noTup) ok (by show p.i+1+m=_; lia)) fun r sh'' hq=>⟨hq.1,X'.trans hq.2⟩
  ·rintro b (rfl | rfl)
   ·exact H.itL
   ·exact H.frL
  all_goals kernel_rfl
end
structure HdrAt (sh:Shared) (h d l:Nat):Prop where
 inst:sh.heap.get? h=some (instO d)
 dict: ∃ hs ts ep,sh.heap.get? d=some (dicO [("_headers",.ref l)] hs ts ep)
 hL:277≤h
 dL:277≤d
theorem HdrAt.ext {sh sh':Shared} {h d l:Nat} {mu:Nat→Prop} (H:HdrAt sh h d l) (X:Ext mu sh sh') (h1: ¬ mu h) (h2: ¬ mu d):HdrAt sh' h d l:=by
 refine x8 H.dict fun hs ts ep e=>?_
 exact ⟨X.keep _ _ H.inst h1,⟨hs,ts,ep,X.keep _ _ e h2⟩,H.hL,H.dL⟩
structure LP where
 prog:Program
 P:Params
 l:Nat
 n:Nat
 xs:Array Value
noncomputable def hdrP (p:LP) (s:St):IP:= {prog:=p.prog,P:=p.P,hs:=hsOf (dOf s 3),ts:=tsOf (dOf s 3),ep:=epOf (dOf s 3),it:=aOf s 4,l:=p.l,i:=0,n:=p.n,self:=aOf s 2,d:=aOf s 1,fr:=aOf s 3,a:=0,tk:=0,tv:=0,hs':=hsOf (dOf s 1),ts':=tsOf (dOf s 1),ep':=epOf (dOf s 1),xs:=p.xs,k:=⟨#[]⟩,v:=⟨#[]⟩}
noncomputable def hH1:List Nat:= [0,0,0,0,0,0,0,0,0,0,0,0,0,0,0,0,0,0,0,0,0,0,0,0,0,0,0,0,0,0,0,3,0,3,0,0,0,0,0,0,0,0,4,4,4,4,0,0,4,4,4,4,0,0,4,0,0,1,0,0,4,4,3,0,0,0,0,3,0,0,3,0,3,0,0,0,3,0,2,2,2,4,1,1,0,1,0,5,1]
noncomputable def csH:List Bool:= [false,false,false,true,true]
noncomputable def hdrC (l:Nat):Code:=.call (.ref 224) ⟨[.ref l],[]⟩
noncomputable def hdrD (p:LP):List (Nat×Obj):= [(p.l,listO p.xs p.n)]
noncomputable def hdrT (p:LP) (K:Nat):Rs→Prop:=
 CCall (X:=Unit) (fun s=>initC (aOf s 4) (aOf s 3)) (fun s=>pick [4,0,3,2,1] s.D=initD5 (hdrP p s) []∧(getD s.D 3).isSome=true∧(getD s.D 4).isSome=true) (fun zz=>.ok .next) csH (fun zz=> []) [] fun zz=>
  CEnd (.ok (.ret (.ref (K+279)))) fun s=>keepD [false] s.D=hdrD p∧pick [2,1] s.D= [(K+279,instO (K+278)),(K+278,dicO [("_headers",.ref p.l)] (hsOf (dOf s 1)) (tsOf (dOf s 1)) (epOf (dOf s 1)))]
noncomputable instance hdrT.rf {p:LP} {K:Nat} {R:Rs} :Rf (hdrT p K R):=by
 delta hdrT; infer_instance
theorem hdrT_0: ∀ (p:LP) K t,hdrT p K (runC p.prog p.P 170 (hdrC p.l) hH1 (hdrD p) K t):=by
 intro p K t
 refine pset_all (X:=fun P=>hdrT p K (runC p.prog P 170 (hdrC p.l) hH1 (hdrD p) K t)) fun b1 b2=>?_
 revert b2; exact Rf.prove _ (by kernel_rfl)
theorem noTup_one {sh:Shared} {l:Nat} {o:Obj} (hl:sh.heap.get? l=some o) (h:kne o.cls (.type "tuple")=true) {mu:Nat→Prop} (hm: ∀ b,mu b→b=l):NoTup sh mu:=by
 intro b hb xs e
 exact ne_of (o:=o) (o':=tupO xs) hl e h (hm b hb)
theorem hdr_spec {prog:Program} {w:World} {A:Around} (Rm:Room 3 A) {sh:Shared} (T:Top w sh) {l n:Nat} {refs:List Nat} {rows:List Row} (hl:sh.heap.get? l=some (listO (refsA refs) n)) (hL:277≤l) (hr:RowsAt sh refs rows) (ok: ∀ r∈rows,OkRow r):
  codeAny (model prog w) A (hdrC l) (fun r sh'=>∃ h d,r= .ok (.ret (.ref h))∧sh.heap.objs.size≤h∧sh.heap.objs.size≤d∧HdrAt sh' h d l∧Ext none_ sh sh') sh:=by
 let p:LP:=⟨prog,w.params,l,n,refsA refs⟩
 have F:Facts 277 sh (hdrD p):=.of ⟨⟨hl,hL⟩,trivial⟩ (by kernel_rfl)
 refine walk_code T Rm rfl F 170 hH1 fun K t hK=>?_
 have q:=hdrT_0 p K t
 revert q
 show hdrT p K (runC prog w.params 170 (hdrC l) hH1 (hdrD p) K t)→_
 generalize runC prog w.params 170 (hdrC l) hH1 (hdrD p) K t=R
 intro q
 refine CCall.ok (fun zz=>True) q Rm T.size (fun s sh1 B pre S T1 RB=>?_) fun zz R' zz q=>?_
 ·refine x4 pre fun pre g3 g4=>?_
  have O:=S.all rfl rfl T.l7 F pre
  refine x18 O fun o1 l1 o2 l2 o3 l3 o4 l4 o5 l5 zz=>?_; clear O
  have X:=S.ext (sh₀:=sh) rfl rfl
  have nt:NoTup sh (inD (hdrD p)):=noTup_one hl (by kernel_rfl) fun b h=>h.elim id fun h=>h.elim
  refine codeAny_mono (init_loop RB refs.length T1 (hdrP p s) rfl rfl [] trivial ⟨o1,o2,o3,o4,o5,l1,l2,l3,l4,l5⟩ refs rows rfl (hr.ext X nt) ok (by show 0+_=_; lia)) fun r sh' hq=>x2 hq fun h1 h2=>?_
  refine ⟨(),h1,trivial,h2.weak fun b hb=>?_,.nil⟩
  rcases hb with rfl | rfl
  ·exact chA_at g4 rfl
  ·exact chA_at g3 rfl
 ·refine CEnd.ok q fun sh' q S=>?_
  refine x2 q fun q1 q2=>?_; clear q
  refine x6 (S.all rfl rfl T.l7 F q2) fun o1 l1 o2 l2 zz=>?_
  refine ⟨K+279,K+278,rfl,by lia,by lia,⟨o1,⟨_,_,_,o2⟩,l1,l2⟩,(S.only (sh:=sh) (cs:= [false]) rfl rfl rfl F q1).weak fun b h=>h⟩
structure HP where
 prog:Program
 P:Params
 h:Nat
 d:Nat
 l:Nat
 n:Nat
 hs:Nat→Int
 ts:Nat→Nat
 ep:Nat
noncomputable def hdD (p:HP) (xs:Array Value):List (Nat×Obj):= [(p.h,instO p.d),(p.d,dicO [("_headers",.ref p.l)] p.hs p.ts p.ep),(p.l,listO xs p.n)]
noncomputable def hItems:List Nat:= [0,0,4,4,0,0,4,1,0,0,0,0,1,0,0,0,1,1,0,2,3,3,3,0,3,0,5,5,5,5,5,3,0]
noncomputable def itemsC (h:Nat):Code:=.call (.ref 188) ⟨[.ref h],[]⟩
noncomputable def itemsT (p:HP) (vs:List Value) (K:Nat):Rs→Prop:=
 CEnd (.ok (.ret (.ref (K+280)))) fun s=>keepD [false,false,false] s.D=hdD p vs.toArray∧pick [5] s.D= [(K+280,listO vs.toArray 0)]
noncomputable instance itemsT.rf {p:HP} {vs:List Value} {K:Nat} {R:Rs} :Rf (itemsT p vs K R):=by
 delta itemsT; infer_instance
noncomputable def Wt.lists {α:Type} :Nat→(List α→Wt)→Wt
 | 0,k=>k []
 | n+1,k=>.and (k []) (.all fun v=>Wt.lists n fun l=>k (v::l))
theorem Wt.lists_ok {α:Type} : ∀ {n:Nat} {k:List α→Wt},(Wt.lists n k).holds→∀ l:List α,l.length≤n→(k l).holds
 | 0,_,h,[],_=>h
 | _+1,_,h,[],_=>h.1
 | n+1,k,h,v::l,hl=>Wt.lists_ok (n:=n) (k:=fun l=>k (v::l)) (h.2 v) l (Nat.le_of_succ_le_succ hl)
 | 0,_,_,_::_,hl=>absurd hl (by simp)
theorem Rf.lists {α:Type} (n:Nat) {P:List α→Prop} [i: ∀ l,Rf (P l)] (h:Wt.lists n (fun l=>(i l).w)=(Wt.lists n fun l=>(i l).w).r) {l:List α} (hl:l.length≤n):P l:=(i l).ok (Wt.lists_ok (Wt.of h) l hl)
noncomputable def Wt.mems {α:Type} (k:α→Wt):List α→Wt
 | []=>.tt
 | a::l=>.and (k a) (Wt.mems k l)
theorem Wt.mems_ok {α:Type} {k:α→Wt} : ∀ {l:List α},(Wt.mems k l).holds→∀ a,a∈l→(k a).holds
 | a::l,h,b,hb=>by
  rcases List.mem_cons.mp hb with rfl | hb
  ·exact h.1
  ·exact Wt.mems_ok h.2 b hb
noncomputable instance Rf.mem {α:Type} {L:List α} {P:α→Prop} [i: ∀ a,Rf (P a)]:Rf (∀ a,a∈L→P a):=⟨.mems (fun a=>(i a).w) L,fun h a ha=>(i a).ok (Wt.mems_ok h a ha)⟩
theorem items_all (b1 b2:Bool) (p:HP) (K t:Nat) (vs:List Value) (h:vs.length≤15):itemsT p vs K (runC p.prog (pset b1 b2 p.P) 80 (itemsC p.h) hItems (hdD p vs.toArray) K t):=
 Rf.lists 15 (P:=fun vs=>∀ b2,itemsT p vs K (runC p.prog (pset b1 b2 p.P) 80 (itemsC p.h) hItems (hdD p vs.toArray) K t)) (by kernel_rfl) h b2
theorem items_run (p:HP) (K t:Nat) (vs:List Value) (h:vs.length≤15):itemsT p vs K (runC p.prog p.P 80 (itemsC p.h) hItems (hdD p vs.toArray) K t):=
 pset_all (X:=fun P=>itemsT p vs K (runC p.prog P 80 (itemsC p.h) hItems (hdD p vs.toArray) K t)) fun b1 b2=>items_all b1 b2 p K t vs h
theorem hd_apart (p:HP) (xs:Array Value):apartB (hdD p xs)=true:=by kernel_rfl
theorem items_spec {prog:Program} {w:World} {A:Around} {k:Nat} (Rm:Room k A) {sh:Shared} (T:Top w sh) {h d l n:Nat} {vs:List Value} (H:HdrAt sh h d l) (hl:sh.heap.get? l=some (listO vs.toArray n)) (hL:277≤l) (hn:vs.length≤15):
  codeAny (model prog w) A (itemsC h) (fun r sh'=>∃ l',r= .ok (.ret (.ref l'))∧sh.heap.objs.size≤l'∧sh'.heap.get? l'=some (listO vs.toArray 0)∧Ext none_ sh sh') sh:=by
 refine x8 H.dict fun hs ts ep hd=>?_
 let p:HP:=⟨prog,w.params,h,d,l,n,hs,ts,ep⟩
 have F:Facts 277 sh (hdD p vs.toArray):=.of ⟨⟨H.inst,H.hL⟩,⟨hd,H.dL⟩,⟨hl,hL⟩,trivial⟩ (hd_apart _ _)
 refine walk_code T Rm rfl F 80 hItems fun K t hK=>?_
 have q:=items_run p K t vs hn
 revert q
 show itemsT p vs K (runC prog w.params 80 (itemsC h) hItems (hdD p vs.toArray) K t)→_
 generalize runC prog w.params 80 (itemsC h) hItems (hdD p vs.toArray) K t=R
 intro q
 refine CEnd.ok q fun sh' q S=>?_
 refine x2 q fun q1 q2=>?_; clear q
 refine x3 (S.all rfl rfl T.l7 F q2) fun o1 l1 zz=>?_
 exact ⟨K+280,rfl,by lia,o1,(S.only (sh:=sh) (cs:= [false,false,false]) rfl rfl rfl F q1).weak fun b h=>h⟩
structure Tp where
 a:Nat
 k:Str
 tk:Nat
 v:Str
 tv:Nat
noncomputable def tupL:List Tp→List (Nat×Obj)
 | []=> []
 | t::l=>(t.a,tupO [.str t.k t.tk,.str t.v t.tv])::tupL l
noncomputable def tpR (ts:List Tp):Array Value:=(ts.map fun t=>Value.ref t.a).toArray
noncomputable def tpK (ts:List Tp):Array Value:=(ts.map fun t=>Value.str t.k t.tk).toArray
theorem tps_of {sh:Shared} {refs:List Nat} {rows:List Row} (h:RowsAt sh refs rows): ∃ ts:List Tp,refs=ts.map (·.a)∧rows=ts.map (fun t=>(t.k,t.v))∧OwnAll 277 sh (tupL ts):=by
 induction h with
 | nil=>exact ⟨[],rfl,rfl,trivial⟩
 | cons q _ ih=>
  refine x5 ih fun ts hr1 hr2 o=>?_; clear ih; subst hr1; subst hr2
  refine x11 q fun h1 tk tv h2=>?_; clear q
  exact ⟨⟨_,_,tk,_,tv⟩::ts,rfl,rfl,⟨h2,h1⟩,o⟩
theorem tupL_mem {ts:List Tp} {x:Nat×Obj} (h:x∈tupL ts): ∃ t∈ts,x=(t.a,tupO [.str t.k t.tk,.str t.v t.tv]):=by
 induction ts with
 | nil=>cases h
 | cons t l ih=>
  rcases List.mem_cons.mp h with rfl | h
  ·exact ⟨t,List.mem_cons_self,rfl⟩
  ·refine x0 (ih h) fun t' h1 h2=>?_
   exact ⟨t',List.mem_cons_of_mem _ h1,h2⟩
theorem facts_tupL {sh:Shared} : ∀ {ts:List Tp},OwnAll 277 sh (tupL ts)→(ts.map (·.a)).Nodup→Facts 277 sh (tupL ts)
 | [],_,_=>.nil
 | t::l,H,hd=>by
  simp only [List.map_cons,List.nodup_cons] at hd
  refine .cons H.1.1 H.1.2 (fun i x e hx=>hd.1 ?_) (facts_tupL H.2 hd.2)
  refine x0 (tupL_mem (List.mem_of_getElem? e)) fun t' h1 hr3=>?_; subst hr3
  rw [←hx]
  exact List.mem_map_of_mem h1
noncomputable def noTupB:List (Nat×Obj)→Bool
 | []=>true
 | x::l=>match kne x.2.cls (.type "tuple") with
  | true=>noTupB l
  | false=>false
theorem facts_ahead {sh:Shared} {ts:List Tp} (F:Facts 277 sh (tupL ts)): ∀ {D:List (Nat×Obj)},Facts 277 sh D→noTupB D=true→Facts 277 sh (apL D (tupL ts))
 | [],_,_=>F
 | x::l,.cons h hlo hne r,hb=>by
  unfold noTupB at hb
  cases q:kne x.2.cls (.type "tuple") with
  | false=>rw [q] at hb; cases hb
  | true=>
   rw [q] at hb
   refine .cons h hlo (fun i y e hy=>?_) (facts_ahead F r hb)
   rw [apL_eq,List.getElem?_append] at e
   split at e
   ·exact hne i y e hy
   ·refine x0 (tupL_mem (List.mem_of_getElem? e)) fun t zz hr4=>?_; subst hr4
    have w:=(F.own _ _ e).1
    exact ne_of h w q hy
noncomputable def keysPre (n:Nat):Bool→List Nat
 | true=> [0,0,n+4,n+4,0,0,n+4,1,0,0,0,0,1,0,0,0,1,1,0,2,3,3,0,3,0,n+5,0,0,n+5,0,n+5,0]
 | false=> [0,0,n+4,n+4,0,0,n+4,1,0,0,0,0,1,0,0,0,1,1,0,2,3,3,0,3,0,n+5,0,n+5,n+5,0,n+5,0,n+5,0,n+5,0,n+5,0]
noncomputable def keysTurn (a c x y z b e:Nat):List Nat:= [a,a,3,a,a,a,x,x,x,0,x,0,y,y,0,y,0,y,y,x,y,y,y,0,y,0,y,y,x,y,y,y,0,y,0,y,y,x,y,y,z,e,e,e,e,e,0,b,0,b,b,b,0,a,0,a,0]
noncomputable def keysTurns (n:Nat):Nat→Nat→List Nat
 | 0,i=> [n+5,n+5,3,n+5,n+5,n+9+3*i,n+7,n+7,n+7,n+7,n+7,n+7]
 | m+1,i=>keysTurn (n+5) 0 (4+i) (n+8+3*i) (n+10+3*i) (n+6) (n+7)++keysTurns n m (i+1)
noncomputable def hKeys (b:Bool) (n:Nat):List Nat:=keysPre n b++keysTurns n n 0
noncomputable def keysC (h:Nat):Code:=.call (.ref 176) ⟨[.ref h],[]⟩
noncomputable def keysN:Nat→List Bool
 | 0=> [false,false,false]
 | n+1=>false::keysN n
noncomputable def keysT (p:HP) (ts:List Tp) (K:Nat):Rs→Prop:=
 CEnd (.ok (.ret (.ref (K+280)))) fun s=>keepD (keysN ts.length) s.D=apL (hdD p (tpR ts)) (tupL ts)∧pick [5+ts.length] s.D= [(K+280,listO (tpK ts) (epOf (dOf s (5+ts.length))))]
noncomputable instance keysT.rf {p:HP} {ts:List Tp} {K:Nat} {R:Rs} :Rf (keysT p ts K R):=by
 delta keysT; infer_instance
theorem keys_ff (p:HP) (K t:Nat) (ts:List Tp) (h:ts.length≤13):keysT p ts K (runC p.prog (pset false false p.P) 2000 (keysC p.h) (hKeys false ts.length) (apL (hdD p (tpR ts)) (tupL ts)) K t):=
 Rf.lists 13 (P:=fun ts=>keysT p ts K (runC p.prog (pset false false p.P) 2000 (keysC p.h) (hKeys false ts.length) (apL (hdD p (tpR ts)) (tupL ts)) K t)) (by kernel_rfl) h
theorem keys_ft (p:HP) (K t:Nat) (ts:List Tp) (h:ts.length≤13):keysT p ts K (runC p.prog (pset false true p.P) 2000 (keysC p.h) (hKeys false ts.length) (apL (hdD p (tpR ts)) (tupL ts)) K t):=
 Rf.lists 13 (P:=fun ts=>keysT p ts K (runC p.prog (pset false true p.P) 2000 (keysC p.h) (hKeys false ts.length) (apL (hdD p (tpR ts)) (tupL ts)) K t)) (by kernel_rfl) h
theorem keys_tf (p:HP) (K t:Nat) (ts:List Tp) (h:ts.length≤13):keysT p ts K (runC p.prog (pset true false p.P) 2000 (keysC p.h) (hKeys true ts.length) (apL (hdD p (tpR ts)) (tupL ts)) K t):=
 Rf.lists 13 (P:=fun ts=>keysT p ts K (runC p.prog (pset true false p.P) 2000 (keysC p.h) (hKeys true ts.length) (apL (hdD p (tpR ts)) (tupL ts)) K t)) (by kernel_rfl) h
theorem keys_tt (p:HP) (K t:Nat) (ts:List Tp) (h:ts.length≤13):keysT p ts K (runC p.prog (pset true true p.P) 2000 (keysC p.h) (hKeys true ts.length) (apL (hdD p (tpR ts)) (tupL ts)) K t):=
 Rf.lists 13 (P:=fun ts=>keysT p ts K (runC p.prog (pset true true p.P) 2000 (keysC p.h) (hKeys true ts.length) (apL (hdD p (tpR ts)) (tupL ts)) K t)) (by kernel_rfl) h
theorem keys_all (b1 b2:Bool) (p:HP) (K t:Nat) (ts:List Tp) (h:ts.length≤13):keysT p ts K (runC p.prog (pset b1 b2 p.P) 2000 (keysC p.h) (hKeys b1 ts.length) (apL (hdD p (tpR ts)) (tupL ts)) K t):=
 match b1,b2 with
 | false,false=>keys_ff p K t ts h
 | false,true=>keys_ft p K t ts h
 | true,false=>keys_tf p K t ts h
 | true,true=>keys_tt p K t ts h
theorem keys_run (p:HP) (K t:Nat) (ts:List Tp) (h:ts.length≤13):keysT p ts K (runC p.prog p.P 2000 (keysC p.h) (hKeys (itw p.P) ts.length) (apL (hdD p (tpR ts)) (tupL ts)) K t):=
 pset_two (X:=fun b1 zz P=>keysT p ts K (runC p.prog P 2000 (keysC p.h) (hKeys b1 ts.length) (apL (hdD p (tpR ts)) (tupL ts)) K t)) fun b1 b2=>keys_all b1 b2 p K t ts h
theorem hd_noTup (p:HP) (xs:Array Value):noTupB (hdD p xs)=true:=by kernel_rfl
theorem keepN_false: ∀ (n:Nat) {D:List (Nat×Obj)} {b:Nat},chD (List.replicate n false) D b→D.length≤n→False
 | 0,D,b,h,hn=>by
  cases D with
  | nil=>exact h
  | cons x l=>simp at hn
 | n+1,D,b,h,hn=>by
  cases D with
  | nil=>exact h
  | cons x l=>exact keepN_false n (D:=l) h (by simpa using hn)
theorem keysN_eq: ∀ n,keysN n=List.replicate (n+3) false
 | 0=>rfl
 | n+1=>by show false::keysN n=_; rw [keysN_eq n]; rfl
theorem tupL_length (ts:List Tp):(tupL ts).length=ts.length:=by
 induction ts with
 | nil=>rfl
 | cons t l ih=>show (tupL l).length+1=_; rw [ih]; rfl
theorem keepAll: ∀ (D:List (Nat×Obj)),keepD (List.replicate D.length false) D=D
 | []=>rfl
 | x::l=>by show x::keepD (List.replicate l.length false) l=_; rw [keepAll l]
theorem keys_spec {prog:Program} {w:World} {A:Around} {k:Nat} (Rm:Room k A) {sh:Shared} (T:Top w sh) {h d l n:Nat} {refs:List Nat} {rows:List Row} (H:HdrAt sh h d l) (hl:sh.heap.get? l=some (listO (refsA refs) n)) (hL:277≤l) (hr:RowsAt sh refs rows) (hd:refs.Nodup) (hn:rows.length≤13):
  codeAny (model prog w) A (keysC h) (fun r sh'=>∃ l' n' ts,r= .ok (.ret (.ref l'))∧rows=ts.map (fun t=>(t.k,t.v))∧sh.heap.objs.size≤l'∧sh'.heap.get? l'=some (listO (tpK ts) n')∧Ext none_ sh sh') sh:=by
 refine x8 H.dict fun hs tts ep hdd=>?_
 refine x5 (tps_of hr) fun ts hr5 hr6 o=>?_; subst hr5; subst hr6
 have hn:ts.length≤13:=by simpa using hn
 have e:refsA (ts.map (·.a))=tpR ts:=by simp [refsA,tpR,List.map_map,Function.comp_def]
 rw [e] at hl
 let p:HP:=⟨prog,w.params,h,d,l,n,hs,tts,ep⟩
 have F1:Facts 277 sh (hdD p (tpR ts)):=.of ⟨⟨H.inst,H.hL⟩,⟨hdd,H.dL⟩,⟨hl,hL⟩,trivial⟩ (hd_apart _ _)
 have F:=facts_ahead (facts_tupL o hd) F1 (hd_noTup _ _)
 refine walk_code T Rm rfl F 2000 (hKeys (itw w.params) ts.length) fun K t hK=>?_
 have q:=keys_run p K t ts hn
 revert q
 show keysT p ts K (runC prog w.params 2000 (keysC h) (hKeys (itw w.params) ts.length) (apL (hdD p (tpR ts)) (tupL ts)) K t)→_
 generalize runC prog w.params 2000 (keysC h) (hKeys (itw w.params) ts.length) (apL (hdD p (tpR ts)) (tupL ts)) K t=R
 intro q
 refine CEnd.ok q fun sh' q S=>?_
 refine x2 q fun q1 q2=>?_; clear q
 refine x3 (S.all rfl rfl T.l7 F q2) fun o1 l1 zz=>?_
 have hlen:(apL (hdD p (tpR ts)) (tupL ts)).length=ts.length+3:=by
  rw [apL_eq,List.length_append,tupL_length]
  show 3+ts.length=ts.length+3
  lia
 refine ⟨K+280,_,ts,rfl,rfl,by lia,o1,(S.only (sh:=sh) rfl rfl rfl F (q1.trans ?_)).weak fun b h=>?_⟩
 ·rw [keysN_eq,←hlen]; exact (keepAll _).symm
 ·rw [keysN_eq] at h
  exact keepN_false _ h (Nat.le_of_eq hlen)
noncomputable def asgV:Stmt→Expr
 | .Assign _ v _=>v
 | _=>.Constant .none 0 ⟨0,0,0,0⟩
noncomputable def retV:Stmt→Expr
 | .Return (some v) _=>v
 | _=>.Constant .none 0 ⟨0,0,0,0⟩
noncomputable def compSc:Expr→Scope
 | .ListComp _ _ sc _=>sc
 | _=> {kind:=.function,names:= [],isGenerator:=false,isCoroutine:=false}
noncomputable def freeCell:List (Str×NameKind)→List (Str×NameKind)
 | []=> []
 | x::l=>(match x.2 with
  | .free=>(x.1,.cell)
  | k=>(x.1,k))::freeCell l
noncomputable def compScC (e:Expr):Scope:= {compSc e with names:=freeCell (compSc e).names}
noncomputable def compEnv (sc:Scope) (qual:Str) (cd fr cf:Nat) (cells:List (Str×Addr)):Env:=
 {scope:=sc,locals:=cf,globals:=3,cells:=cells,qual:=qual,func:=none,code:=.ref cd,frame:=some fr,builtins:=0}
noncomputable def compC (e:Expr) (it acc:Nat) (env:Env):Code:=.compLoop e 0 (.ref it) (.ref acc) env
noncomputable def cellO (v:Value):Obj:= {cls:=.type "cell",data:=.cell (some v)}
noncomputable def sameS (a b:Str):Bool:=PySem.W.Fast.sEq a b
noncomputable def lowS (s:Str):Str:=match sameS s sAccept with
 | true=>saccept
 | false=>match sameS s sXA with
  | true=>sxa
  | false=>match sameS s sHost with
   | true=>shost
   | false=>match sameS s sXAB with
    | true=>sxab
    | false=>s
noncomputable def neS (a b:Str):Bool:=a.cps.toList != b.cps.toList
noncomputable def names9:List Str:= [sAccept,saccept,sXA,sxb,sHost,sXAB,sxa,shost,sxab]
noncomputable def lows5:List Str:= [saccept,sxa,sxb,shost,sxab]
noncomputable def lowerC (s:Str) (tk:Nat):Code:=.call (.builtin "str.lower") ⟨[.str s tk],[]⟩
noncomputable def neC (a b:Str) (ta tb:Nat):Code:=.call (.builtin "str.__ne__") ⟨[.str a ta,.str b tb],[]⟩
theorem low_names9 {s:Str} (h:s∈names9):lowS s∈lows5:=sub_of lowS (by kernel_rfl) h
theorem names7_9 {s:Str} (h:s∈names7):s∈names9:=sub_of id (by kernel_rfl) h
theorem lows5_N {s:Str} (h:s∈lows5):s∈okN:=sub_of id (by kernel_rfl) h
noncomputable def lowerP (prog:Program) (P:Params) (s:Str):Prop:=∀ tk K t,CEnd (.ok (.ret (.str (lowS s) (t+849)))) (fun zz=>True) (runC prog P 10 (lowerC s tk) [0] [] K t)
theorem lower_all (prog:Program) (P:Params) {s:Str} (h:s∈names9):lowerP prog P s:=by
 simp only [names9,List.mem_cons,List.not_mem_nil,or_false] at h
 rcases h with rfl | rfl | rfl | rfl | rfl | rfl | rfl | rfl | rfl<;>intro tk K t<;>exact Rf.prove _ (by kernel_rfl)
theorem ne_all (prog:Program) (P:Params) (a b:Str) (ta tb K t:Nat):CEnd (.ok (.ret (.bool (neS a b)))) (fun zz=>True) (runC prog P 10 (neC a b ta tb) [0] [] K t):=by
 refine ⟨?_,trivial⟩
 kernel_rfl
section
variable {prog:Program} {w:World} {A:Around} {sh:Shared} {k:Nat}
theorem lower_spec {s:Str} (h:s∈names9) (T:Top w sh) (Rm:Room k A) (tk:Nat):
  codeAny (model prog w) A (lowerC s tk) (fun r sh'=>∃ t,r= .ok (.ret (.str (lowS s) t))∧Ext none_ sh sh') sh:=by
 refine walk_code T Rm rfl .nil 10 [0] fun K t zz=>?_
 have e:=lower_all prog w.params h tk K t
 revert e
 generalize runC prog w.params 10 (lowerC s tk) [0] [] K t=R
 intro e
 exact CEnd.ok e fun sh' zz S=>⟨t+849,rfl,(S.ext (sh₀:=sh) rfl rfl).weak fun zz h=>h⟩
theorem ne_spec (a b:Str) (T:Top w sh) (Rm:Room k A) (ta tb:Nat):
  codeAny (model prog w) A (neC a b ta tb) (fun r sh'=>r= .ok (.ret (.bool (neS a b)))∧Ext none_ sh sh') sh:=by
 refine walk_code T Rm rfl .nil 10 [0] fun K t zz=>?_
 have e:=ne_all prog w.params a b ta tb K t
 revert e
 generalize runC prog w.params 10 (neC a b ta tb) [0] [] K t=R
 intro e
 exact CEnd.ok e fun sh' zz S=>⟨rfl,(S.ext (sh₀:=sh) rfl rfl).weak fun zz h=>h⟩
end
noncomputable def intsA:List Nat→List Nat→List Value
 | [],_=> []
 | v::l,[]=>.int (Int.ofNat v) 0::intsA l []
 | v::l,t::ts=>.int (Int.ofNat v) t::intsA l ts
noncomputable def itks:List Value→List Nat
 | []=> []
 | v::l=>(match v with
  | .int _ t=>t
  | _=>0)::itks l
noncomputable def fldL (o:Obj):List Value:=match o.data with
 | .fields xs=>xs.toList
 | _=> []
noncomputable def upTo (a:Nat):Nat→List Nat
 | 0=> []
 | n+1=>a::upTo (Nat.succ a) n
noncomputable def tokL (τ:Nat→Nat) (i:Nat):Nat→List Nat
 | 0=> []
 | n+1=>τ i::tokL τ (Nat.succ i) n
noncomputable def neB (vs:List Nat):Bool:=match vs with
 | []=>false
 | _=>true
noncomputable def csAt:Nat→List Bool
 | 0=> [true]
 | n+1=>false::csAt n
noncomputable def hasV (v:Nat):List Nat→Bool
 | []=>false
 | x::l=>match Nat.beq x v with
  | true=>true
  | false=>hasV v l
noncomputable def rngO (a b:Nat) (ts:List Nat):Obj:= {cls:=.type "range",data:=.fields (intsA [a,b,1] ts).toArray}
inductive TEv where
 | cut (ip ie:Nat) (vs:List Nat) (h:List Nat)
 | new (ir:Nat) (h:List Nat)
 | init (iS ir a n:Nat) (h:List Nat)
 | inn (il v:Nat) (vs:List Nat) (tk:Nat) (h:List Nat)
noncomputable def TP (b:Bool) (D:List (Nat×Obj)):List TEv→Rs→Prop
 | []=>CEnd (.ok (.ret (.bool b))) fun s=>keepD [false] s.D=D
 | .cut ip ie vs h::l=>CCut (X:=Unit) (fun s=>compareOp .NotEq (.ref (aOf s ip)) (.ref (aOf s ie)))
   (fun s=>pick [ip,ie] s.D= [(aOf s ip,listO (intsA vs (itks (seqOf (dOf s ip)))).toArray (epOf (dOf s ip))),(aOf s ie,listO #[] (epOf (dOf s ie)))]) (fun zz=>.bool (neB vs)) same_ (fun zz=>h) (fun zz=>TP b D l)
 | .new ir h::l=>CSw (X:=Nat) (fun s=>.call (.builtin "list.__new__") ⟨[.type "list",.ref (aOf s ir)],[]⟩) (fun zz=>True) (fun x=>.ok (.ret (.ref x))) [] (fun zz x=> [(x,listO #[] 0)]) (fun zz=>h) (fun zz=>TP b D l)
 | .init iS ir a n h::l=>CSw (X:=(Nat→Nat)×Nat) (fun s=>.call (.builtin "list.__init__") ⟨[.ref (aOf s iS),.ref (aOf s ir)],[]⟩)
   (fun s=>pick [iS,ir] s.D= [(aOf s iS,listO #[] 0),(aOf s ir,rngO a (a+n) (itks (fldL (dOf s ir))))]∧(getD s.D iS).isSome=true) (fun zz=>.ok (.ret .none)) (csAt iS)
   (fun s x=> [(aOf s iS,listO (intsA (upTo a n) (tokL x.1 0 n)).toArray x.2)]) (fun zz=>h) (fun zz=>TP b D l)
 | .inn il v vs tk h::l=>CSw (X:=Unit) (fun s=>.call (.builtin "list.__contains__") ⟨[.ref (aOf s il),.int (Int.ofNat v) (Nat.add s.tb tk)],[]⟩)
   (fun s=>pick [il] s.D= [(aOf s il,listO (intsA vs (itks (seqOf (dOf s il)))).toArray (epOf (dOf s il)))]) (fun zz=>.ok (.ret (.bool (hasV v vs)))) [] (fun zz zz=> []) (fun zz=>h) (fun zz=>TP b D l)
noncomputable instance TP.rf {b:Bool} {D:List (Nat×Obj)} : ∀ {e:List TEv} {R:Rs},Rf (TP b D e R)
 | [],R=>by show Rf (CEnd _ _ R); infer_instance
 | .cut .. ::l,R=>by
  have i: ∀ R,Rf (TP b D l R):=fun R=>TP.rf
  show Rf (CCut _ _ _ _ _ _ R); infer_instance
 | .new .. ::l,R=>by
  have i: ∀ R,Rf (TP b D l R):=fun R=>TP.rf
  show Rf (CSw _ _ _ _ _ _ _ R); infer_instance
 | .init .. ::l,R=>by
  have i: ∀ R,Rf (TP b D l R):=fun R=>TP.rf
  show Rf (CSw _ _ _ _ _ _ _ R); infer_instance
 | .inn .. ::l,R=>by
  have i: ∀ R,Rf (TP b D l R):=fun R=>TP.rf
  show Rf (CSw _ _ _ _ _ _ _ R); infer_instance
theorem csAt_at: ∀ i:Nat,(csAt i)[i]? =some true
 | 0=>rfl
 | i+1=>by simp [csAt,csAt_at i]
theorem intsA_are: ∀ (vs ts:List Nat),PyProof.Rows.IntsAre (intsA vs ts) (vs.map Int.ofNat)
 | [],_=>.nil
 | v::l,[]=>.cons _ _ (intsA_are l [])
 | v::l,t::ts=>.cons _ _ (intsA_are l ts)
theorem intsA_mem: ∀ {vs ts:List Nat} {y:Value},y∈intsA vs ts→∃ v t,y= .int (Int.ofNat v) t
 | v::l,[],y,h=>by
  rcases List.mem_cons.mp h with rfl | h
  ·exact ⟨_,_,rfl⟩
  ·exact intsA_mem h
 | v::l,t::ts,y,h=>by
  rcases List.mem_cons.mp h with rfl | h
  ·exact ⟨_,_,rfl⟩
  ·exact intsA_mem h
noncomputable def isN (v:Nat) (y:Value):Bool:=match y with
 | .int i _=>i==Int.ofNat v
 | _=>false
theorem natBeq (x v:Nat):((Int.ofNat x:Int)==Int.ofNat v)=Nat.beq x v:=by
 cases h:Nat.beq x v with
 | true=>rw [Nat.eq_of_beq_eq_true h]; simp
 | false=>
  have hn:=Nat.ne_of_beq_eq_false h
  have: ¬ (Int.ofNat x=Int.ofNat v):=fun e=>hn (Int.ofNat.inj e)
  simp only [beq_eq_false_iff_ne,ne_eq]
  exact this
theorem hasV_any (v:Nat): ∀ (vs ts:List Nat),(intsA vs ts).any (isN v)=hasV v vs
 | [],_=>rfl
 | x::l,[]=>by
  show ((Int.ofNat x:Int)==Int.ofNat v || (intsA l []).any (isN v))=hasV v (x::l)
  rw [natBeq,hasV_any v l []]
  show _=(match Nat.beq x v with
   | true=>true
   | false=>hasV v l)
  cases Nat.beq x v<;>rfl
 | x::l,t::ts=>by
  show ((Int.ofNat x:Int)==Int.ofNat v || (intsA l ts).any (isN v))=hasV v (x::l)
  rw [natBeq,hasV_any v l ts]
  show _=(match Nat.beq x v with
   | true=>true
   | false=>hasV v l)
  cases Nat.beq x v<;>rfl
section
variable {prog:Program} {w:World} {A:Around} {sh:Shared}
theorem isList {l:Nat} {xs:List Value} {n:Nat} (h:sh.heap.get? l=some (listO xs.toArray n)):sh.heap.IsList l xs.toArray:=⟨_,h,rfl,n,rfl⟩
theorem wp_ne_ints {k:Nat} (Rm:Room k A) {a b:Nat} {vs ts:List Nat} {e e':Nat} (ha:sh.heap.get? a=some (listO (intsA vs ts).toArray e)) (hb:sh.heap.get? b=some (listO #[] e')) {Q:Value→Shared→Prop} {E:Value→Shared→Prop} (h:Q (.bool (neB vs)) sh):
  wpAny (model prog w) A (compareOp .NotEq (.ref a) (.ref b)) Q E sh:=by
 refine ne_intsK (isList ha) (intsA_are vs ts) (isList (xs:= []) hb) .nil (by have:=Rm.units; lia) ?_
 have e:(!decide (vs.map Int.ofNat= []))=neB vs:=by cases vs<;>rfl
 rw [e]; exact h
theorem new_spec (a:Value) (hg:sh.gens= #[]) (ht:849≤sh.toks):codeAny (model prog w) A (.call (.builtin "list.__new__") ⟨[.type "list",a],[]⟩) (fun r sh'=>r= .ok (.ret (.ref sh.heap.objs.size))∧Ext none_ sh sh'∧sh'.heap.get? sh.heap.objs.size=some (listO #[] 0)) sh:=by
 refine codeAny_mono (code_list_new a (Q₁:=fun v s'=>v= .ref sh.heap.objs.size∧s'= {sh with heap:=sh.heap.push (listO #[] 0)}) (E:=fun zz zz=>False) ⟨rfl,rfl⟩) fun r s' h=>?_
 match r,h with
 | .ok (.ret v),h=>
  refine x2 h fun hr1 hr2=>?_; clear h; subst hr1; subst hr2
  exact ⟨rfl,push_ext hg ht,Heap.get?_push_size _ rfl⟩
theorem init_spec {S r a n:Nat} {ts:List Nat} (hn:n≤100) (ha:a≤100) (hg:sh.gens= #[]) (ht:849≤sh.toks) (hh:A.handled=none) (hS:sh.heap.get? S=some (listO #[] 0)) (hr:sh.heap.get? r=some (rngO a (a+n) ts)):
  codeAny (model prog w) A (.call (.builtin "list.__init__") ⟨[.ref S,.ref r],[]⟩) (fun r sh'=>r= .ok (.ret .none)∧Ext (fun b=>b=S) sh sh'∧∃ τ e,sh'.heap.get? S=some (listO (intsA (upTo a n) (tokL τ 0 n)).toArray e)) sh:=by
 have hr': ∃ t u v,IsRange sh.heap r (Int.ofNat a) (Int.ofNat (a+n)) 1 t u v:=by
  match ts,hr with
  | [],hr=>exact ⟨0,0,0,hr⟩
  | [t],hr=>exact ⟨t,0,0,hr⟩
  | [t,u],hr=>exact ⟨t,u,0,hr⟩
  | t::u::v::_,hr=>exact ⟨t,u,v,hr⟩
 refine x8 hr' fun t u v hr'=>?_
 have hsz:Builtin.Range.rangeSize (Int.ofNat a) (Int.ofNat (a+n)) 1=(n:Int):=by
  unfold Builtin.Range.rangeSize
  simp only [Int.ofNat_eq_natCast]
  by_cases h:n=0
  ·subst h; simp
  ·rw [if_pos (by lia),if_pos (by lia)]; simp; lia
 have hsm:Builtin.Range.small (Int.ofNat a) (Int.ofNat (a+n)) 1=true:=by
  unfold Builtin.Range.small
  rw [hsz]
  unfold Builtin.Range.rangeFitsLong
  simp only [Int.ofNat_eq_natCast]
  simp
  lia
 refine codeAny_mono (codeAny_grow (R:=fun r sh'=>r= .ok (.ret .none)∧∃ h' tk,sh'= {sh with heap:=h',toks:=tk} ∧(∀ b o,b≠S→sh.heap.get? b=some o→h'.get? b=some o)∧∃ τ e,h'.get? S=some (listO (intsA (upTo a n) (tokL τ 0 n)).toArray e))
  (code_slot F.slot_list_init ⟨_,hS,rfl⟩ F.entry_list_init (F.args_list_init_2 _ _) (wpAny_list_init_range (prog:=prog) (w:=w) (R:=fun r sh'=>r= .ok (.ret .none)∧∃ h' tk,sh'= {sh with heap:=h',toks:=tk} ∧(∀ b o,b≠S→sh.heap.get? b=some o→h'.get? b=some o)∧∃ τ e,h'.get? S=some (listO (intsA (upTo a n) (tokL τ 0 n)).toArray e)) hh hr' hsm hsz (by lia) S hS fun h' tk acc c' hk hS' hacc=>⟨rfl,h',tk,rfl,hk,?_⟩))) fun r sh' h=>?_
 ·refine ⟨fun i=>match acc[i]? with
   | some (.int _ t)=>t
   | _=>0,c',?_⟩
  rw [hS']
  have key:acc=(intsA (upTo a n) (tokL (fun i=>match acc[i]? with
   | some (.int _ t)=>t
   | _=>0) 0 n)).toArray:=by
   have gen: ∀ (n b j:Nat) (τ:Nat→Nat) (i:Nat),i<n→(intsA (upTo b n) (tokL τ j n))[i]? =some (.int (Int.ofNat (b+i)) (τ (j+i))):=by
    intro n
    induction n with
    | zero=>intro b j τ i h; lia
    | succ n ih=>
     intro b j τ i h
     cases i with
     | zero=>rfl
     | succ i=>
      show (intsA (upTo (b+1) n) (tokL τ (j+1) n))[i]? =_
      rw [ih (b+1) (j+1) τ i (by lia)]
      have e1:b+1+i=b+(i+1):=by lia
      have e2:j+1+i=j+(i+1):=by lia
      rw [e1,e2]
   have genL: ∀ (n b j:Nat) (τ:Nat→Nat),(intsA (upTo b n) (tokL τ j n)).length=n:=by
    intro n
    induction n with
    | zero=>intro b j τ; rfl
    | succ n ih=>
     intro b j τ
     show (intsA (upTo (b+1) n) (tokL τ (j+1) n)).length+1=n+1
     rw [ih]
   apply Array.ext
   ·rw [hacc.1]; simp [genL]
   ·intro i h1 h2
    have hi:i<n:=by rw [←hacc.1]; exact h1
    refine x1 (hacc.2 i acc[i] (by simp [h1])) fun t ht=>?_
    have g:=gen n a 0 (fun i=>match acc[i]? with
     | some (.int _ t)=>t
     | _=>0) i hi
    have e3:acc[i]? =some (.int (Int.ofNat a+i * 1) t):=by rw [←ht]; simp [h1]
    have e4:((Int.ofNat a:Int)+i * 1)=Int.ofNat (a+i):=by simp
    rw [e4] at e3
    simp only [Nat.zero_add,e3] at g
    rw [ht,e4]
    have:=g
    rw [List.getElem?_eq_some_iff] at this
    refine x1 this fun hh hv=>?_; clear this
    simp only [List.getElem_toArray]
    exact hv.symm
  rw [←key]
  rfl
 ·refine x43 h fun h1 h' tk hr3 hk h3 h4 h5=>?_; clear h; subst hr3
  exact ⟨h1,⟨fun b o e hb=>hk b o hb e,hg,rfl,h5,Nat.le_trans ht h4,h4⟩,h3⟩
theorem in_spec {l v:Nat} {vs ts:List Nat} {e tk:Nat} (hg:sh.gens= #[]) (ht:849≤sh.toks) (hl:sh.heap.get? l=some (listO (intsA vs ts).toArray e)):
  codeAny (model prog w) A (.call (.builtin "list.__contains__") ⟨[.ref l,.int (Int.ofNat v) tk],[]⟩) (fun r sh'=>r= .ok (.ret (.bool (hasV v vs)))∧Ext none_ sh sh') sh:=by
 refine code_slot F.slot_list_contains ⟨_,hl,rfl⟩ F.entry_list_contains (F.args_list_contains_2 _ _) (PySem.SeqAt.list_containsAt l (intsA vs ts).toArray e none #[] _ (isN v) prog w A _ sh ⟨hl,fun y hy=>?_,?_⟩)
 ·refine x23 (intsA_mem (by simpa using hy)) fun x t hr4=>?_; subst hr4
  exact (MeetsSeq.EqGives.int _ _ _ _).at _ _
 ·refine ⟨?_,.refl hg ht⟩
  rw [←hasV_any v vs ts]
  simp
end
section
variable {prog:Program} {w:World} {A:Around} {Q:Result→Shared→Prop} {h₀:Heap} {mu:Nat→Prop} {os:OsState} {t₀:Nat}
theorem TP.ok {b:Bool} {D:List (Nat×Obj)} (Rm:Room 1 A) (h0:278≤h₀.objs.size) (fin: ∀ s sh',keepD [false] s.D=D→Sat (sv prog w A Q h₀ mu os t₀) s sh'→Q (.ok (.ret (.bool b))) sh') (bnd:List TEv→Prop)
  (hb: ∀ e l,bnd (e::l)→bnd l∧∀ iS ir a n h,e= .init iS ir a n h→a≤100∧n≤100): ∀ {l:List TEv} {R:Rs},bnd l→TP b D l R→Ok (sv prog w A Q h₀ mu os t₀) R
 | [],R,_,q=>CEnd.ok q fun sh' e S=>fin _ sh' e S
 | .cut ip ie vs h::l,R,B,q=>CCut.ok (fun zz=>True) q Rm h0 (fun s sh B pre S T RB=>by
   refine x6 (S.all0 pre) fun o1 zz o2 zz zz=>?_
   exact wp_ne_ints RB o1 o2 ⟨(),rfl,trivial,S.lg []⟩) fun zz R' zz q=>TP.ok Rm h0 fin bnd hb (hb _ _ B).1 q
 | .new ir h::l,R,B,q=>CSw.ok0 (fun zz=>True) q Rm h0 (fun s sh B pre S T RB=>by
   refine codeAny_mono (new_spec _ S.gens T.toks) fun r' sh' hq=>x4 hq fun h1 h2 h3=>⟨_,h1,trivial,h2.weak fun zz h=>h.elim,.of ⟨⟨h3,Nat.zero_le _⟩,trivial⟩ (by kernel_rfl),fun y hy=>.inl ?_⟩
   ·rcases List.mem_cons.mp hy with rfl | hy
    ·exact Nat.le_refl _
    ·cases hy) fun zz R' zz q=>TP.ok Rm h0 fin bnd hb (hb _ _ B).1 q
 | .init iS ir a n h::l,R,B,q=>CSw.ok0 (fun zz=>True) q Rm h0 (fun s sh B' pre S T RB=>by
   refine x2 pre fun pre g=>?_
   refine x6 (S.all0 pre) fun o1 l1 o2 l2 zz=>?_
   have ch:chA (csAt iS) s.D (aOf s iS):=chA_at g (csAt_at iS)
   refine x2 ((hb _ _ B).2 _ _ _ _ _ rfl) fun b1 b2=>?_
   refine codeAny_mono (init_spec b2 b1 S.gens T.toks RB.handled o1 o2) fun r' sh' hq=>x44 hq fun h1 h2 τ e h3=>⟨(τ,e),h1,trivial,h2.weak fun b hb=>by rw [hb]; exact ch,.of ⟨⟨h3,Nat.zero_le _⟩,trivial⟩ (by kernel_rfl),fun y hy=>.inr ?_⟩
   ·rcases List.mem_cons.mp hy with rfl | hy
    ·exact ch
    ·cases hy) fun zz R' zz q=>TP.ok Rm h0 fin bnd hb (hb _ _ B).1 q
 | .inn il v vs tk h::l,R,B,q=>CSw.ok0 (fun zz=>True) q Rm h0 (fun s sh B pre S T RB=>by
   refine x3 (S.all0 pre) fun o1 zz zz=>?_
   exact codeAny_mono (in_spec S.gens T.toks o1) fun r' sh' hq=>x2 hq fun h1 h2=>⟨(),h1,trivial,h2.weak fun zz h=>h.elim,.nil,fun y hy=>by cases hy⟩) fun zz R' zz q=>TP.ok Rm h0 fin bnd hb (hb _ _ B).1 q
end
noncomputable def ifT:Stmt→Expr
 | .If t _ _ _=>t
 | _=>.Constant .none 0 ⟨0,0,0,0⟩
noncomputable def nthE':List Expr→Nat→Expr
 | [],_=>.Constant .none 0 ⟨0,0,0,0⟩
 | x::l,i=>match Nat.beq i 0 with | true=>x | false=>nthE' l (Nat.pred i)
noncomputable def boolA (i:Nat):Expr→Expr
 | .BoolOp _ vs _=>nthE' vs i
 | _=>.Constant .none 0 ⟨0,0,0,0⟩
noncomputable def cmpR:Expr→Expr
 | .Compare _ _ rs _=>nthE' rs 0
 | _=>.Constant .none 0 ⟨0,0,0,0⟩
noncomputable def compSc':Expr→Scope
 | .ListComp _ _ sc _=>sc
 | _=> {kind:=.function,names:= [],isGenerator:=false,isCoroutine:=false}
noncomputable def compEnv' (sc:Scope) (qual:Str) (cd fr cf:Nat) (cells:List (Str×Addr)):Env:=
 {scope:=sc,locals:=cf,globals:=3,cells:=cells,qual:=qual,func:=none,code:=.ref cd,frame:=some fr,builtins:=0}
noncomputable section
noncomputable def ruFor1:ForP:=forP (nthS (fn 22).body 5)
noncomputable def ruFor2:ForP:=forP (nthS (fn 22).body 6)
noncomputable abbrev qRu:Str:=Str.ofString "_law_ruled.<locals>."
noncomputable def ruC (p:ForP) (it fr:Nat):Code:=forC p it (fenv (fn 22) qRu 252 251 fr [])
noncomputable def ruE:Expr:=cmpR (boolA 1 (ifT (nthS ruFor1.body 0)))
noncomputable def ruCompC (it acc fr cf:Nat):Code:=.compStart ruE 0 (.ref it) (.ref acc) (compEnv' (compSc' ruE) qRu 251 fr cf [])
end
noncomputable def strsP:List (Str×Nat)→List Value
 | []=> []
 | x::l=>.str x.1 x.2::strsP l
noncomputable def lowP:List (Str×Nat)→List Nat→List (Str×Nat)
 | [],_=> []
 | x::l,[]=>(lowS x.1,0)::lowP l []
 | x::l,t::ts=>(lowS x.1,t)::lowP l ts
noncomputable def toksS:List Value→List Nat
 | []=> []
 | v::l=>(match v with
  | .str _ t=>t
  | _=>0)::toksS l
noncomputable def LwP (fin:Rs→Prop):List (Str×Nat)→List (List Nat)→Rs→Prop
 | [],_=>fin
 | x::l,[]=>fun zz=>False
 | x::l,h::hs=>CCall (X:=Nat) (fun zz=>lowerC x.1 x.2) (fun zz=>True) (fun t=>.ok (.ret (.str (lowS x.1) t))) [] (fun zz=> []) h fun zz=>LwP fin l hs
noncomputable instance LwP.rf {fin:Rs→Prop} [∀ R,Rf (fin R)]: ∀ {l:List (Str×Nat)} {hs:List (List Nat)} {R:Rs},Rf (LwP fin l hs R)
 | [],_,R=>by show Rf (fin R); infer_instance
 | _::_,[],_=>⟨.eq true false,fun h=>Bool.noConfusion (h:true=false)⟩
 | x::l,h::hs,R=>by
  have i: ∀ R,Rf (LwP fin l hs R):=fun R=>LwP.rf
  show Rf (CCall _ _ _ _ _ _ _ R); infer_instance
noncomputable def lastE:List (Str×Nat)→List (Str×Value)
 | []=> []
 | x::l=>match l with
  | []=> [("one",.str x.1 x.2)]
  | _::_=>lastE l
structure CP where
 prog:Program
 P:Params
 it:Nat
 acc:Nat
 fr:Nat
 cf:Nat
 nl:Nat
 nn:Nat
 ep:Nat
 hs:Nat→Int
 ts:Nat→Nat
noncomputable def cpD (p:CP) (ss:List (Str×Nat)):List (Nat×Obj):= [(p.nl,listO (strsP ss).toArray p.nn),(p.it,iterO p.nl 0),(p.acc,listO #[] 0),(p.cf,dicO [] p.hs p.ts p.ep)]
noncomputable def cpEnd (p:CP) (ss:List (Str×Nat)):Rs→Prop:=
 CEnd (.ok .next) fun s=>keepD [false,true,true,true] s.D= [(p.nl,listO (strsP ss).toArray p.nn)]∧
  pick [2,3] s.D= [(p.acc,listO (strsP (lowP ss (toksS (seqOf (dOf s 2))))).toArray (epOf (dOf s 2))),(p.cf,dicO (lastE ss) (hsOf (dOf s 3)) (tsOf (dOf s 3)) (epOf (dOf s 3)))]
noncomputable instance cpEnd.rf {p:CP} {ss:List (Str×Nat)} {R:Rs} :Rf (cpEnd p ss R):=by
 delta cpEnd; infer_instance
noncomputable def cpT (p:CP) (ss:List (Str×Nat)) (hs:List (List Nat)):Rs→Prop:=LwP (cpEnd p ss) ss hs
noncomputable def cLst:List Nat:= [0,3,0,3,3,3,0,2,0,2,0,2,2,1,2,2,6]
noncomputable def cMid:List Nat:= [0,3,0,3,3,3,0,2,0,2,0,2,2,1,2,2,4,4,4,1]
noncomputable def cHs:Nat→List (List Nat)
 | 0=> []
 | n+1=>match n with
  | 0=> [cLst]
  | _+1=>cMid::cHs n
noncomputable def cH0 (b:Bool) (m:Nat):List Nat:=match b with
 | true=>(match m with
  | 0=> [0,2,0,2,0,2,2,1,2,2,6]
  | _+1=> [0,2,0,2,0,2,2,1,2,2,4,4,4,1])
 | false=>(match m with
  | 0=> [2,2,0,2,0,2,0,2,0,2,0,2,2,1,2,2,6]
  | _+1=> [2,2,0,2,0,2,0,2,0,2,0,2,2,1,2,2,4,4,4,1])
noncomputable abbrev cpRun (p:CP) (P:Params) (b:Bool) (ss:List (Str×Nat)) (K t:Nat):Rs:=runC p.prog P 300 (ruCompC p.it p.acc p.fr p.cf) (cH0 b ss.length) (cpD p ss) K t
noncomputable instance cpT.rf {p:CP} {ss:List (Str×Nat)} {hs:List (List Nat)} {R:Rs} :Rf (cpT p ss hs R):=by
 delta cpT; infer_instance
theorem cp_all (p:CP) (b1 b2:Bool) (ss:List (Str×Nat)) (h:ss.length≤5) (K t:Nat):cpT p ss (cHs ss.length) (cpRun p (pset b1 b2 p.P) b1 ss K t):=
 Rf.lists 5 (P:=fun ss=>∀ b1 b2,cpT p ss (cHs ss.length) (cpRun p (pset b1 b2 p.P) b1 ss K t)) (by kernel_rfl) h b1 b2
theorem cp_run (p:CP) (ss:List (Str×Nat)) (h:ss.length≤5) (K t:Nat):cpT p ss (cHs ss.length) (cpRun p p.P (itw p.P) ss K t):=
 pset_two (X:=fun b1 zz P=>cpT p ss (cHs ss.length) (cpRun p P b1 ss K t)) (P:=p.P) fun b1 b2=>cp_all p b1 b2 ss h K t
section
variable {prog:Program} {w:World} {A:Around} {Q:Result→Shared→Prop} {h₀:Heap} {mu:Nat→Prop} {os:OsState} {t₀:Nat}
theorem LwP.ok {fin:Rs→Prop} {k:Nat} (Rm:Room (k+1) A) (h0:278≤h₀.objs.size) (hf: ∀ R,fin R→Ok (sv prog w A Q h₀ mu os t₀) R): ∀ {ss:List (Str×Nat)} {hs:List (List Nat)} {R:Rs},(∀ x∈ss,x.1∈names9)→LwP fin ss hs R→Ok (sv prog w A Q h₀ mu os t₀) R
 | [],_,R,_,q=>hf R q
 | x::l,[],R,_,q=>(show False from q).elim
 | x::l,h::hs,R,ok,q=>CCall.ok (fun zz=>True) q Rm h0 (fun s sh1 B zz S T1 RB=>codeAny_mono (lower_spec (ok x List.mem_cons_self) T1 RB x.2) fun r' sh' hq=>x0 hq fun t' h1 h2=>⟨t',h1,trivial,h2,.nil⟩)
   fun t' R' zz q=>LwP.ok Rm h0 hf (fun y hy=>ok y (List.mem_cons_of_mem _ hy)) q
end
theorem strsP_low: ∀ (ss:List (Str×Nat)) (ts:List Nat),(lowP ss ts).map (·.1)=ss.map fun x=>lowS x.1
 | [],_=>rfl
 | x::l,[]=>by show lowS x.1::_=_; rw [strsP_low l []]; rfl
 | x::l,t::ts=>by show lowS x.1::_=_; rw [strsP_low l ts]; rfl
theorem lastE_kv (ss:List (Str×Nat)):lastE ss= []∨∃ v,lastE ss= [(("one" :Str),v)]:=by
 induction ss with
 | nil=>exact .inl rfl
 | cons x l ih=>
  cases l with
  | nil=>exact .inr ⟨_,rfl⟩
  | cons y l=>exact ih
section
variable {prog:Program} {w:World} {A:Around}
theorem cp_facts {sh:Shared} {p:CP} {ss:List (Str×Nat)} (H:OwnAll 277 sh (cpD p ss)) (hne:p.acc≠p.nl):Facts 277 sh (cpD p ss):=by
 refine x9 H fun o1 l1 o2 l2 o3 l3 o4 l4 zz=>?_; clear H
 refine .cons o1 l1 (ne_cons ?_ (ne_cons hne (ne_cons ?_ ne_nil))) (.of ⟨⟨o2,l2⟩,⟨o3,l3⟩,⟨o4,l4⟩,trivial⟩ (by kernel_rfl))
 ·exact ne_of o1 o2 (by kernel_rfl)
 ·exact ne_of o1 o4 (by kernel_rfl)
theorem comp_spec (Rm:Room 1 A) {sh:Shared} (T:Top w sh) (p:CP) (hp:p.P=w.params) (hg:p.prog=prog) (ss:List (Str×Nat)) (hn:ss.length≤5) (ok: ∀ x∈ss,x.1∈names9) (H:OwnAll 277 sh (cpD p ss)) (hne:p.acc≠p.nl):
  codeAny (model prog w) A (ruCompC p.it p.acc p.fr p.cf) (fun r sh'=>r= .ok .next∧Ext (fun b=>b=p.it∨b=p.acc∨b=p.cf) sh sh'∧
   ∃ (ts:List Nat) (e:Nat) (kv:List (Str×Value)) (hs:Nat→Int) (tt:Nat→Nat) (ep:Nat),sh'.heap.get? p.acc=some (listO (strsP (lowP ss ts)).toArray e)∧(kv= []∨∃ v,kv= [(("one" :Str),v)])∧sh'.heap.get? p.cf=some (dicO kv hs tt ep)) sh:=by
 subst hg
 have F:=cp_facts H hne
 have hz:277≤sh.heap.objs.size:=T.l7
 refine walk_code T Rm rfl F 300 (cH0 (itw p.P) ss.length) fun K t hK=>?_
 have q:=cp_run p ss hn K t
 revert q
 rw [hp]
 show cpT p ss (cHs ss.length) (runC p.prog w.params 300 (ruCompC p.it p.acc p.fr p.cf) (cH0 (itw w.params) ss.length) (cpD p ss) K t)→_
 generalize runC p.prog w.params 300 (ruCompC p.it p.acc p.fr p.cf) (cH0 (itw w.params) ss.length) (cpD p ss) K t=R
 intro q
 refine LwP.ok Rm T.size (fun R q=>?_) ok q
 refine CEnd.ok q fun sh' q S=>?_
 refine x2 q fun q1 q2=>?_; clear q
 refine x6 (S.all rfl rfl hz F q2) fun o1 l1 o2 l2 zz=>?_
 refine ⟨rfl,(S.only (sh:=sh) (cs:= [false,true,true,true]) rfl rfl rfl F q1).weak fun b hb=>?_,_,_,_,_,_,_,o1,lastE_kv ss,o2⟩
 rcases hb with hb | hb | hb | hb
 ·exact .inl hb
 ·exact .inr (.inl hb)
 ·exact .inr (.inr hb)
 ·exact hb.elim
end
noncomputable def evOk:List TEv→Bool
 | []=>true
 | .init _ _ a n _::l=>Nat.ble a 100&&Nat.ble n 100&&evOk l
 | _::l=>evOk l
noncomputable def takC (l:Nat) (nm:Str) (tm tn:Nat):Code:=.call (.ref 247) ⟨[.ref l,.str sMany tm,.str nm tn],[]⟩
noncomputable def takD (j l n u0 u1 u2 u3:Nat):List (Nat×Obj):= [(l,listO (strsA (partS j) [u0,u1,u2,u3]).toArray n)]
noncomputable def takP (b:Bool) (j:Nat) (nm:Str) (prog:Program) (P:Params) (h0:List Nat) (evs:List TEv):Prop:=∀ l n u0 u1 u2 u3 tm tn K t,TP b (takD j l n u0 u1 u2 u3) evs (runC prog P 1800 (takC l nm tm tn) h0 (takD j l n u0 u1 u2 u3) K t)
noncomputable def jn:List (List Nat)→List Nat
 | []=> []
 | a::l=>a.append (jn l)
noncomputable def g0:List Nat:= [14,14,13,14,14,16,16,16,0,0,3,0,0,0,0,0,0,0,4,3,16,0,0,0,0,0,0,17,17,17,17,0,0,17,0,0,17,0,0,0,0,17,0,0,17,0,0,0,0,17,0,0,0,14,0,14,0,14,14,13,14,14,16,16,16,0,0,3,0,0,0,0,0,0,0,4,3,16,0,0,0,0,0,0,18,18,18,18,0,0,18,0,0,18,0,0,0,0,18,0,0,18,0,0,0,0,18,0,0,0,14,0,14,0,14,14,13,14,14,16]
noncomputable def g1:List Nat:= [7,7,12,2,2,9,9,9,0,6,0,6,0,6,6,1,6,6,4,4,4,2,0,0,2,8,8,0,8,0,13,0,13,13,0,13,0,13,0,13,0,13,0,13,13,8,13,13,15,15,15,0,0,3,0,0,0,0,0,0,0,4,3,15,0,0,0,0,0,0,16,16,16,16,0,0,16,0,0,16,0,0,0,0,16,0,0,16,0,0,0,0,16,0,0,15,0,0,0,14,0,14,14,14,0,13,0,13,0,13,13,8,13,13,18,2,2,15,15,15]
noncomputable def g2:List Nat:= [0,7,0,7,7,5,7,7,12,2,2,9,9,9,0,6,0,6,0,6,6,1,6,6,4,4,4,2,0,0,2,8,8,0,8,0,13,0,0,13,0,13,0,13,13,8,13,13,15,15,15,0,0,3,0,0,0,0,0,0,0,4,3,15,0,0,0,0,0,0,16,16,16,16,0,0,16,0,0,16,0,0,0,0,16,0,0,16,0,0,0,0,16,0,0,15,0,0,0,14,0,14,14,14,0,13,0,13,0,13,13,8,13,13,18,2,2,15,15,15]
noncomputable def g3:List Nat:= [16,16,0,0,3,0,0,0,0,0,0,0,4,3,16,0,0,0,0,0,0,19,19,19,19,0,0,19,0,0,19,0,0,0,0,19,0,0,19,0,0,0,0,19,0,0,0,14,0,14,0,14,14,13,14,14,16,16,16,0,0,3,0,0,0,0,0,0,0,4,3,16,0,0,0,0,0,0,20,20,20,20,0,0,20,0,0,20,0,0,0,0,20,0,0,20,0,0,0,0,20,0,0,0,14,0,14,0,14,14,13,14,14,16,16,16,0,0,3,0]
noncomputable def g4:List Nat:= [0,0,2,2,2,2,3,3,0,0,2,2,2,1,1,0,1,0,6,0,6,0,6,0,6,6,1,6,6,4,4,4,2,0,0,2,5,5,0,5,0,7,0,7,7,0,7,0,7,0,7,0,7,0,7,7,5,7,7,9,9,9,0,0,3,0,0,0,0,0,0,0,4,3,9,0,0,0,0,0,0,10,10,10,10,0,0,10,0,0,10,0,0,0,0,10,0,0,10,0,0,0,0,10,0,0,9,0,0,0,8,0,8,8,8,0,7,0,7,0]
noncomputable def g5:List Nat:= [7,0,7,0,7,0,7,0,7,7,5,7,7,9,9,9,0,0,3,0,0,0,0,0,0,0,4,3,9,0,0,0,0,0,0,10,10,10,10,0,0,10,0,0,10,0,0,0,0,10,0,0,10,0,0,0,0,10,0,0,0,7,0,7,0,7,7,5,7,7,12,2,2,9,9,9,0,6,0,6,0,6,6,1,6,6,4,4,4,2,0,0,2,8,8,0,8,0,13,0,13,13,0,13,0,13,0,13,0,13,0,13,13,8,13,13,17,2,2,15]
noncomputable def g6:List Nat:= [0,2,5,5,0,5,0,7,0,0,7,0,7,0,7,7,5,7,7,9,9,9,0,0,3,0,0,0,0,0,0,0,4,3,9,0,0,0,0,0,0,10,10,10,10,0,0,10,0,0,10,0,0,0,0,10,0,0,10,0,0,0,0,10,0,0,0,7,0,7,0,7,7,5,7,7,12,2,2,9,9,9,0,6,0,6,0,6,6,1,6,6,4,4,4,2,0,0,2,8,8,0,8,0,13,0,0,13,0,13,0,13,13,8,13,13,17,2,2,15]
noncomputable def g7:List Nat:= [19,0,19,19,0,19,0,19,0,19,0,19,0,19,19,14,19,19,21,21,21,0,0,3,0,0,0,0,0,0,0,4,3,21,0,0,0,0,0,0,22,22,22,22,0,0,22,0,0,22,0,0,21,0,0,0,20,0,20,20,20,0,19,0,19,0,19,19,14,19,19,24,2,2,21,21,21,0,6,0,6,0,6,6,1,6,6,4,4,4,2,0,0,2,20,20,0,20,0,25,0,25,25,0,25,0,25,0,25,0,25,0,25,25,20,25,25,27,27,27]
noncomputable def g8:List Nat:= [4,4,4,2,0,0,2,14,14,0,14,0,19,0,0,19,0,19,0,19,19,14,19,19,21,21,21,0,0,3,0,0,0,0,0,0,0,4,3,21,0,0,0,0,0,0,22,22,22,22,0,0,22,0,0,22,0,0,21,0,0,0,20,0,20,20,20,0,19,0,19,0,19,19,14,19,19,24,2,2,21,21,21,0,6,0,6,0,6,6,1,6,6,4,4,4,2,0,0,2,20,20,0,20,0,25,0,0,25,0,25,0,25,25,20,25,25,27,27,27]
noncomputable def g9:List Nat:= [0,0,2,14,14,0,14,0,19,0,19,19,0,19,0,19,0,19,0,19,0,19,19,14,19,19,21,21,21,0,0,3,0,0,0,0,0,0,0,4,3,21,0,0,0,0,0,0,22,22,22,22,0,0,22,0,0,22,0,0,0,0,22,22,0,0,22,0,0,0,0,0,0,21,0,0,0,20,0,20,20,20,0,19,0,19,0,19,19,14,19,19,24,2,2,21,21,21,0,6,0,6,0,6,6,1,6,6,26,0,0,0,3,0,0,0,0,2,20,20]
noncomputable def g10:List Nat:= [6,6,4,4,4,2,0,0,2,14,14,0,14,0,19,0,0,19,0,19,0,19,19,14,19,19,21,21,21,0,0,3,0,0,0,0,0,0,0,4,3,21,0,0,0,0,0,0,22,22,22,22,0,0,22,0,0,22,0,0,0,0,22,22,0,0,22,0,0,0,0,0,0,21,0,0,0,20,0,20,20,20,0,19,0,19,0,19,19,14,19,19,24,2,2,21,21,21,0,6,0,6,0,6,6,1,6,6,26,0,0,0,3,0,0,0,0,2,20,20]
noncomputable def g11:List Nat:= [0,0,2,2,2,2,3,3,0,0,2,2,2,1,1,0,1,0,6,0,6,0,6,0,6,6,1,6,6,4,4,4,2,0,0,2,5,5,0,5,0,7,0,0,7,0,7,0,7,7,5,7,7,9,9,9,0,0,3,0,0,0,0,0,0,0,4,3,9,0,0,0,0,0,0,10,10,10,10,0,0,10,0,0,10,0,0,0,0,10,10,0,0,10,0,0,0,0,0,0,0,7,0,7,0,7,7,5,7,7,12,2,2,9,9,9,0,6,0,6]
noncomputable def g12:List Nat:= [0,0,2,2,2,2,3,3,0,0,2,2,2,1,1,0,1,0,6,0,6,0,6,0,6,6,1,6,6,4,4,4,2,0,0,2,5,5,0,5,0,7,0,7,7,0,7,0,7,0,7,0,7,0,7,7,5,7,7,9,9,9,0,0,3,0,0,0,0,0,0,0,4,3,9,0,0,0,0,0,0,10,10,10,10,0,0,10,0,0,10,0,0,0,0,10,10,0,0,10,0,0,0,0,0,0,0,7,0,7,0,7,7,5,7,7,12,2,2,9]
noncomputable def g13:List Nat:= [21,0,0,0,0,21,0,0,21,0,0,0,0,21,0,0,0,14,0,14,0,14,14,13,14,14,16,16,16,0,0,3,0,0,0,0,0,0,0,4,3,16,0,0,0,0,0,0,22,22,22,22,0,0,22,0,0,22,0,0,0,0,22,0,0,22,0,0,0,0,22,0,0,16,0,0,0,15,0,15,15,15,0,14,0,14,0,14,14,13,14,14,16,16,16,0,0,3,0,0,0,0,0,0,0,14,0,14,0,14,14,13,14,14,24,2,2,16,16,16]
noncomputable def g14:List Nat:= [19,0,0,0,0,19,0,0,19,0,0,0,0,19,0,0,0,14,0,14,0,14,14,13,14,14,16,16,16,0,0,3,0,0,0,0,0,0,0,4,3,16,0,0,0,0,0,0,20,20,20,20,0,0,20,0,0,20,0,0,0,0,20,0,0,20,0,0,0,0,20,0,0,16,0,0,0,15,0,15,15,15,0,14,0,14,0,14,14,13,14,14,16,16,16,0,0,3,0,0,0,0,0,0,0,14,0,14,0,14,14,13,14,14,22,2,2,16,16,16]
noncomputable def g15:List Nat:= [21,21,21,21,0,0,21,0,0,21,0,0,0,0,21,0,0,21,0,0,0,0,21,0,0,0,14,0,14,0,14,14,13,14,14,16,16,16,0,0,3,0,0,0,0,0,0,0,4,3,16,0,0,0,0,0,0,22,22,22,22,0,0,22,0,0,22,0,0,0,0,22,0,0,22,0,0,0,0,22,0,0,0,14,0,14,0,14,14,13,14,14,16,16,16,0,0,3,0,0,0,0,0,0,0,14,0,14,0,14,14,13,14,14,24,2,2,16,16,16]
noncomputable def g16:List Nat:= [19,0,0,0,0,19,0,0,19,0,0,0,0,19,0,0,16,0,0,0,15,0,15,15,15,0,14,0,14,0,14,14,13,14,14,16,16,16,0,0,3,0,0,0,0,0,0,0,4,3,16,0,0,0,0,0,0,20,20,20,20,0,0,20,0,0,20,0,0,0,0,20,0,0,20,0,0,0,0,20,0,0,0,14,0,14,0,14,14,13,14,14,16,16,16,0,0,3,0,0,0,0,0,0,0,14,0,14,0,14,14,13,14,14,22,2,2,16,16,16]
noncomputable def g17:List Nat:= [13,13,0,13,0,13,0,13,0,13,0,13,13,8,13,13,15,15,15,0,0,3,0,0,0,0,0,0,0,4,3,15,0,0,0,0,0,0,16,16,16,16,0,0,16,0,0,16,0,0,0,0,16,0,0,16,0,0,0,0,16,0,0,0,13,0,13,0,13,13,8,13,13,18,2,2,15,15,15,0,6,0,6,0,6,6,1,6,6,4,4,4,2,0,0,2,14,14,0,14,0,19,0,19,19,0,19,0,19,0,19,0,19,0,19,19,14,19,19,23]
noncomputable def g18:List Nat:= [14,0,14,0,14,14,13,14,14,16,16,16,0,0,3,0,0,0,0,0,0,0,4,3,16,0,0,0,0,0,0,17,17,17,17,0,0,17,0,0,17,0,0,0,0,17,0,0,17,0,0,0,0,17,0,0,16,0,0,0,15,0,15,15,15,0,14,0,14,0,14,14,13,14,14,16,16,16,0,0,3,0,0,0,0,0,0,0,4,3,16,0,0,0,0,0,0,18,18,18,18,0,0,18,0,0,18,0,0,0,0,18,0,0,18,0,0,0,0,18]
noncomputable def g19:List Nat:= [0,2,8,8,0,8,0,13,0,0,13,0,13,0,13,13,8,13,13,15,15,15,0,0,3,0,0,0,0,0,0,0,4,3,15,0,0,0,0,0,0,16,16,16,16,0,0,16,0,0,16,0,0,0,0,16,0,0,16,0,0,0,0,16,0,0,0,13,0,13,0,13,13,8,13,13,18,2,2,15,15,15,0,6,0,6,0,6,6,1,6,6,4,4,4,2,0,0,2,14,14,0,14,0,19,0,0,19,0,19,0,19,19,14,19,19,23,2,2,21]
noncomputable def g20:List Nat:= [0,0,2,2,2,2,3,3,0,0,2,2,2,1,1,0,1,0,6,0,6,0,6,0,6,6,1,6,6,4,4,4,2,0,0,2,5,5,0,5,0,7,0,0,7,0,7,0,7,7,5,7,7,9,9,9,0,0,3,0,0,0,0,0,0,0,4,3,9,0,0,0,0,0,0,10,10,10,10,0,0,10,0,0,10,0,0,0,0,10,10,0,0,10,0,0,0,0,0,0,9,0,0,0,8,0,8,8,8,0,7,0,7,0,7,7,5,7,7,12]
noncomputable def g21:List Nat:= [3,3,0,0,2,2,2,1,1,0,1,0,6,0,6,0,6,0,6,6,1,6,6,4,4,4,2,0,0,2,5,5,0,5,0,7,0,7,7,0,7,0,7,0,7,0,7,0,7,7,5,7,7,9,9,9,0,0,3,0,0,0,0,0,0,0,4,3,9,0,0,0,0,0,0,10,10,10,10,0,0,10,0,0,10,0,0,0,0,10,10,0,0,10,0,0,0,0,0,0,9,0,0,0,8,0,8,8,8,0,7,0,7,0,7,7,5,7,7,12]
noncomputable def g22:List Nat:= [0,6,0,6,6,1,6,6,4,4,4,2,0,0,2,5,5,0,5,0,7,0,7,7,0,7,0,7,0,7,0,7,0,7,7,5,7,7,9,9,9,0,0,3,0,0,0,0,0,0,0,4,3,9,0,0,0,0,0,0,10,10,10,10,0,0,10,0,0,10,0,0,9,0,0,0,8,0,8,8,8,0,7,0,7,0,7,7,5,7,7,12,2,2,9,9,9,0,6,0,6,0,6,6,1,6,6,4,4,4,2,0,0,2,8,8,0,8,0,13]
noncomputable def g23:List Nat:= [0,0,2,2,2,2,3,3,0,0,2,2,2,1,1,0,1,0,6,0,6,0,6,0,6,6,1,6,6,4,4,4,2,0,0,2,5,5,0,5,0,7,0,0,7,0,7,0,7,7,5,7,7,9,9,9,0,0,3,0,0,0,0,0,0,0,4,3,9,0,0,0,0,0,0,10,10,10,10,0,0,10,0,0,10,0,0,9,0,0,0,8,0,8,8,8,0,7,0,7,0,7,7,5,7,7,12,2,2,9,9,9,0,6,0,6,0,6,6,1]
noncomputable def g24:List Nat:= [2,2,2,2,3,3,0,0,2,2,2,1,1,0,1,0,6,0,6,0,6,0,6,6,1,6,6,4,4,4,2,0,0,2,5,5,0,5,0,7,0,0,7,0,7,0,7,7,5,7,7,9,9,9,0,0,3,0,0,0,0,0,0,0,4,3,9,0,0,0,0,0,0,10,10,10,10,0,0,10,0,0,10,0,0,0,0,10,0,0,10,0,0,0,0,10]
noncomputable def g25:List Nat:= [16,16,0,0,3,0,0,0,0,0,0,0,4,3,16,0,0,0,0,0,0,19,19,19,19,0,0,19,0,0,19,0,0,0,0,19,0,0,19,0,0,0,0,19,0,0,0,14,0,14,0,14,14,13,14,14,16,16,16,0,0,3,0,0,0,0,0,0,0,14,0,14,0,14,14,13,14,14,21,2,2,16,16,16,0,6,0,6,0,6,6,1,6,6,23,0]
noncomputable def g26:List Nat:= [0,0,2,2,2,2,3,3,0,0,2,2,2,1,1,0,1,0,6,0,6,0,6,0,6,6,1,6,6,4,4,4,2,0,0,2,5,5,0,5,0,7,0,0,7,0,7,0,7,7,5,7,7,9,9,9,0,0,3,0,0,0,0,0,0,0,4,3,9,0,0,0,0,0,0,10,10,10,10,0,0,10,0,0,10,0,0,9,0,0,0,8,0,8,8,8]
noncomputable def g27:List Nat:= [0,0,2,2,2,2,3,3,0,0,2,2,2,1,1,0,1,0,6,0,6,0,6,0,6,6,1,6,6,4,4,4,2,0,0,2,5,5,0,5,0,7,0,7,7,0,7,0,7,0,7,0,7,0,7,7,5,7,7,9,9,9,0,0,3,0,0,0,0,0,0,0,4,3,9,0,0,0,0,0,0,10,10,10,10,0,0,10,0,0,10,0,0,9,0,0]
noncomputable def g28:List Nat:= [16,16,0,0,3,0,0,0,0,0,0,0,4,3,16,0,0,0,0,0,0,19,19,19,19,0,0,19,0,0,19,0,0,0,0,19,0,0,19,0,0,0,0,19,0,0,16,0,0,0,15,0,15,15,15,0,14,0,14,0,14,14,13,14,14,16,16,16,0,0,3,0,0,0,0,0,0,0,14,0,14,0,14,14,13,14,14,21,2,2,16,16,16,0,6,0]
noncomputable def g29:List Nat:= [0,0,2,14,14,0,14,0,18,0,18,18,0,18,0,18,0,18,0,18,0,18,18,14,18,18,22,2,2,20,0,6,0,6,0,6,6,1,6,6,4,4,4,2,0,0,2,19,19,0,19,0,23,0,23,23,0,23,0,23,0,23,0,23,0,23,23,19,23,23,27,2,2,25,0,6,0,6,0,6,6,1,6,6,29,0,0,0,3,0,0,0,0,2,24,24]
noncomputable def g30:List Nat:= [16,16,0,0,3,0,0,0,0,0,0,0,4,3,16,0,0,0,0,0,0,19,19,19,19,0,0,19,0,0,19,0,0,0,0,19,0,0,19,0,0,0,0,19,0,0,0,14,0,14,0,14,14,13,14,14,16,16,16,0,0,3,0,0,0,0,0,0,0,14,0,14,0,14,14,13,14,14,21,2,2,16,16,16,0,6,0,6,0,6,6,1,6,6,4,4]
noncomputable def g31:List Nat:= [0,6,0,6,6,1,6,6,4,4,4,2,0,0,2,14,14,0,14,0,18,0,0,18,0,18,0,18,18,14,18,18,22,2,2,20,0,6,0,6,0,6,6,1,6,6,4,4,4,2,0,0,2,19,19,0,19,0,23,0,0,23,0,23,0,23,23,19,23,23,27,2,2,25,0,6,0,6,0,6,6,1,6,6,29,0,0,0,3,0,0,0,0,2,24,24]
noncomputable def g32:List Nat:= [0,0,0,0,0,0,2,0,0,5,5,0,5,0,8,0,9,8,0,8,0,8,8,5,8,8,9,9,9,0,9,8,0,8,0,8,8,5,8,8,11,9,9,9,0,0,3,0,0,0,0,0,0,0,0,0,0,12,12,0,12,0,12,0]
noncomputable def g33:List Nat:= [0,0,0,0,0,0,2,0,0,14,14,0,14,0,20,0,21,20,0,20,0,20,20,14,20,20,21,21,21,0,21,20,0,20,0,20,20,14,20,20,23,21,21,21,0,0,3,0,0,0,0,0,0,0,0,0,0,24,24,0,24,0,24,0]
noncomputable def g34:List Nat:= [0,0,0,0,0,0,2,0,0,8,8,0,8,0,14,0,15,14,0,14,0,14,14,8,14,14,15,15,15,0,15,14,0,14,0,14,14,8,14,14,17,15,15,15,0,0,3,0,0,0,0,0,0,0,0,0,0,18,18,0,18,0,18,0]
noncomputable def g35:List Nat:= [0,0,0,0,0,0,2,0,0,15,15,0,15,0,26,0,27,26,0,26,0,26,26,15,26,26,27,27,27,0,27,26,0,26,0,26,26,15,26,26,29,27,27,27,0,0,3,0,0,0,0,0,0,0,0,0,0,30,30,0,30,0,30,0]
noncomputable def g36:List Nat:= [0,0,0,0,0,0,2,0,0,15,15,0,15,0,23,0,24,23,0,23,0,23,23,15,23,23,24,24,24,0,24,23,0,23,0,23,23,15,23,23,26,24,24,24,0,0,3,0,0,0,0,0,0,0,0,0,0,27,27,0,27,0,27,0]
noncomputable def g37:List Nat:= [0,0,0,0,0,0,2,0,0,15,15,0,15,0,24,0,25,24,0,24,0,24,24,15,24,24,25,25,25,0,25,24,0,24,0,24,24,15,24,24,27,25,25,25,0,0,3,0,0,0,0,0,0,0,0,0,0,28,28,0,28,0,28,0]
noncomputable def g38:List Nat:= [0,0,0,0,0,28,28,28,28,0,0,28,0,0,28,0,0,27,0,0,0,26,0,26,26,26,0,25,0,25,0,25,25,20,25,25,30,2,2,27,27,27,0,6,0,6,0,6,6,1,6,6,32,0,0,0,3,0,0,0,0,2,26,26]
noncomputable def g39:List Nat:= [0,0,3,0,0,0,0,0,0,0,25,0,25,0,25,25,20,25,25,29,2,2,27,27,27,0,6,0,6,0,6,6,1,6,6,31,0,0,0,3,0,0,0,0,2,26,26,1]
noncomputable def g40:List Nat:= [0,0,2,2,2,2,3,3,0,0,2,2,2,1,1,0,1,0,6,0,6,0,6,0,6,6,1,6,6,4,4,4,2,0,0,2,5,5,0,5]
noncomputable def g41:List Nat:= [0,0,0,14,0,14,0,14,14,13,14,14,22,2,2,16,16,16,0,6,0,6,0,6,6,1,6,6,24,0,0,0,3,0,0,0,0,2,15,15]
noncomputable def g42:List Nat:= [0,0,2,2,2,2,3,3,0,0,2,2,2,1,1,0,1,0,6,0,6,0,6,0,6,6,1,6,6,4,4,4,2,0]
noncomputable def g43:List Nat:= [0,6,0,6,0,6,6,1,6,6,4,4,4,2,0,0,2,13,13,0,13,0,14,0,14,14,0,14,0,14,0,14,0,14]
noncomputable def g44:List Nat:= [0,0,0,0,0,0,14,0,14,0,14,14,13,14,14,22,2,2,16,16,16,0,6,0,6,0,6,6,1,6,6,4,4,4]
noncomputable def g45:List Nat:= [0,6,0,6,0,6,6,1,6,6,4,4,4,2,0,0,2,13,13,0,13,0,14,0,0,14,0,14]
noncomputable def g46:List Nat:= [16,16,0,0,3,0,0,0,0,0,0,0,4,3,16,0,0,0,0,0,0,19,19,19,19,0,0,19]
noncomputable def g47:List Nat:= [2,2,0,6,0,6,0,6,6,1,6,6,21,0,0,0,3,0,0,0,0,2,19,19]
noncomputable def g48:List Nat:= [2,2,0,6,0,6,0,6,6,1,6,6,27,0,0,0,3,0,0,0,0,2,25,25]
noncomputable def g49:List Nat:= [2,2,0,6,0,6,0,6,6,1,6,6,16,0,0,0,3,0,0,0,0,2,14,14]
noncomputable def g50:List Nat:= [0,6,0,6,0,6,6,1,6,6,25,0,0,0,3,0,0,0,0,2]
noncomputable def g51:List Nat:= [0,6,0,6,0,6,6,1,6,6,26,0,0,0,3,0,0,0,0,2]
noncomputable def g52:List Nat:= [2,2,9,9,9,0,6,0,6,0,6,6,1,6,6,4,4,4,2,0]
noncomputable def g53:List Nat:= [6,0,6,0,6,6,1,6,6,4,4,4,2,0,0,2,14,14,0,14]
noncomputable def g54:List Nat:= [0,6,0,6,0,6,6,1,6,6,4,4,4,2,0,0,2]
noncomputable def g55:List Nat:= [0,6,0,6,0,6,6,1,6,6,4,4,4,2]
noncomputable def g56:List Nat:= [0,0,0,0,0,0,4,3,16,0,0,0,0,0]
noncomputable def g57:List Nat:= [0,0,9,0,0,0,8,0,8,8,8,0]
noncomputable def g58:List Nat:= [2,2,0,6,0,6,0,6,6,1,6,6]
noncomputable def g59:List Nat:= [0,6,6,1,6,6,4,4,4,2,0,0]
noncomputable def h0_00:Bool→List Nat
 | true=>jn [g42,g6,g54]
 | false=>jn [g40,[0,7,0,7,7,0],g5,g54]
noncomputable def e_00 (_:Bool):List TEv:= [.cut 13 17 [] (jn [g47,[1]]),.inn 18 6 [] 22 ([])]
theorem tak_00 (prog:Program) (P:Params):takP false 0 saccept prog P (h0_00 (itw P)) (e_00 (itw P)):=pset_two (X:=fun b1 zz P=>takP false 0 saccept prog P (h0_00 b1) (e_00 b1)) fun b1 b2 l n u0 u1 u2 u3 tm tn K t=>by
 revert b1 b2; exact Rf.prove _ (by kernel_rfl)
theorem eok_00 (b:Bool):evOk (e_00 b)=true:=by cases b<;>kernel_rfl
noncomputable def h0_01:Bool→List Nat
 | true=>jn [[0,0],g24,g57,[7],g2,g54]
 | false=>jn [g4,[7,7,5],g1,g54]
noncomputable def e_01 (_:Bool):List TEv:= [.cut 13 18 [2] (jn [g33,[0,1]]),.new 23 ([25,25,1]),.init 24 23 2 2 (jn [g48,[1]]),.inn 24 3 [2,3] 2 ([])]
theorem tak_01 (prog:Program) (P:Params):takP true 0 sxa prog P (h0_01 (itw P)) (e_01 (itw P)):=pset_two (X:=fun b1 zz P=>takP true 0 sxa prog P (h0_01 b1) (e_01 b1)) fun b1 b2 l n u0 u1 u2 u3 tm tn K t=>by
 revert b1 b2; exact Rf.prove _ (by kernel_rfl)
theorem eok_01 (b:Bool):evOk (e_01 b)=true:=by cases b<;>kernel_rfl
noncomputable def h0_02:Bool→List Nat
 | true=>jn [[0,0],g24,g57,[7],g2,g54]
 | false=>jn [g4,[7,7,5],g1,g54]
noncomputable def e_02 (_:Bool):List TEv:= [.cut 13 18 [2] (jn [g33,[0,1]]),.new 23 ([25,25,1]),.init 24 23 2 2 (jn [g48,[1]]),.inn 24 3 [2,3] 2 ([])]
theorem tak_02 (prog:Program) (P:Params):takP true 0 sxb prog P (h0_02 (itw P)) (e_02 (itw P)):=pset_two (X:=fun b1 zz P=>takP true 0 sxb prog P (h0_02 b1) (e_02 b1)) fun b1 b2 l n u0 u1 u2 u3 tm tn K t=>by
 revert b1 b2; exact Rf.prove _ (by kernel_rfl)
theorem eok_02 (b:Bool):evOk (e_02 b)=true:=by cases b<;>kernel_rfl
noncomputable def h0_03:Bool→List Nat
 | true=>jn [g42,g6,g54]
 | false=>jn [g40,[0,7,0,7,7,0],g5,g54]
noncomputable def e_03 (_:Bool):List TEv:= [.cut 13 17 [] (jn [g47,[1]]),.inn 18 4 [] 22 ([])]
theorem tak_03 (prog:Program) (P:Params):takP false 0 shost prog P (h0_03 (itw P)) (e_03 (itw P)):=pset_two (X:=fun b1 zz P=>takP false 0 shost prog P (h0_03 b1) (e_03 b1)) fun b1 b2 l n u0 u1 u2 u3 tm tn K t=>by
 revert b1 b2; exact Rf.prove _ (by kernel_rfl)
theorem eok_03 (b:Bool):evOk (e_03 b)=true:=by cases b<;>kernel_rfl
noncomputable def h0_04:Bool→List Nat
 | true=>jn [[0,0],g24,g57,[7],g2,g54]
 | false=>jn [g4,[7,7,5],g1,g54]
noncomputable def e_04 (_:Bool):List TEv:= [.cut 13 18 [2] (jn [g33,[0,1]]),.new 23 ([25,25,1]),.init 24 23 2 3 (jn [g48,[1]]),.inn 24 4 [2,3,4] 2 ([])]
theorem tak_04 (prog:Program) (P:Params):takP true 0 sxab prog P (h0_04 (itw P)) (e_04 (itw P)):=pset_two (X:=fun b1 zz P=>takP true 0 sxab prog P (h0_04 b1) (e_04 b1)) fun b1 b2 l n u0 u1 u2 u3 tm tn K t=>by
 revert b1 b2; exact Rf.prove _ (by kernel_rfl)
theorem eok_04 (b:Bool):evOk (e_04 b)=true:=by cases b<;>kernel_rfl
noncomputable def h0_10:Bool→List Nat
 | true=>jn [g23,[6,6,4,4,4,2,0],g19,g50,[20,20,1]]
 | false=>jn [[0,0,2,2,2,2,3,3,0,0,2,2,2,1,1,0,1,0,6,0,6],g22,[0],g17,[2,2,21],g50,[20,20,1]]
noncomputable def e_10 (_:Bool):List TEv:= [.inn 19 6 [] 32 ([])]
theorem tak_10 (prog:Program) (P:Params):takP false 1 saccept prog P (h0_10 (itw P)) (e_10 (itw P)):=pset_two (X:=fun b1 zz P=>takP false 1 saccept prog P (h0_10 b1) (e_10 b1)) fun b1 b2 l n u0 u1 u2 u3 tm tn K t=>by
 revert b1 b2; exact Rf.prove _ (by kernel_rfl)
theorem eok_10 (b:Bool):evOk (e_10 b)=true:=by cases b<;>kernel_rfl
noncomputable def h0_11:Bool→List Nat
 | true=>jn [g26,[0,7],g2,[0,6,0,6,0,6,6,1],g10,[1]]
 | false=>jn [g27,[0,8,0,8,8,8,0,7,0,7,0,7,7,5],g1,g55,g9,[1]]
noncomputable def e_11 (_:Bool):List TEv:= [.inn 19 3 [3] 49 ([])]
theorem tak_11 (prog:Program) (P:Params):takP true 1 sxa prog P (h0_11 (itw P)) (e_11 (itw P)):=pset_two (X:=fun b1 zz P=>takP true 1 sxa prog P (h0_11 b1) (e_11 b1)) fun b1 b2 l n u0 u1 u2 u3 tm tn K t=>by
 revert b1 b2; exact Rf.prove _ (by kernel_rfl)
theorem eok_11 (b:Bool):evOk (e_11 b)=true:=by cases b<;>kernel_rfl
noncomputable def h0_12:Bool→List Nat
 | true=>jn [g26,[0,7],g2,[0,6,0,6,0,6,6,1],g10,[1]]
 | false=>jn [g27,[0,8,0,8,8,8,0,7,0,7,0,7,7,5],g1,g55,g9,[1]]
noncomputable def e_12 (_:Bool):List TEv:= [.inn 19 3 [3] 49 ([])]
theorem tak_12 (prog:Program) (P:Params):takP true 1 sxb prog P (h0_12 (itw P)) (e_12 (itw P)):=pset_two (X:=fun b1 zz P=>takP true 1 sxb prog P (h0_12 b1) (e_12 b1)) fun b1 b2 l n u0 u1 u2 u3 tm tn K t=>by
 revert b1 b2; exact Rf.prove _ (by kernel_rfl)
theorem eok_12 (b:Bool):evOk (e_12 b)=true:=by cases b<;>kernel_rfl
noncomputable def h0_13:Bool→List Nat
 | true=>jn [g23,[6,6,4,4,4,2,0],g19,g50,[20,20,1]]
 | false=>jn [[0,0,2,2,2,2,3,3,0,0,2,2,2,1,1,0,1,0,6,0,6],g22,[0],g17,[2,2,21],g50,[20,20,1]]
noncomputable def e_13 (_:Bool):List TEv:= [.inn 19 4 [] 32 ([])]
theorem tak_13 (prog:Program) (P:Params):takP false 1 shost prog P (h0_13 (itw P)) (e_13 (itw P)):=pset_two (X:=fun b1 zz P=>takP false 1 shost prog P (h0_13 b1) (e_13 b1)) fun b1 b2 l n u0 u1 u2 u3 tm tn K t=>by
 revert b1 b2; exact Rf.prove _ (by kernel_rfl)
theorem eok_13 (b:Bool):evOk (e_13 b)=true:=by cases b<;>kernel_rfl
noncomputable def h0_14:Bool→List Nat
 | true=>jn [g26,[0,7],g2,[0,6,0,6,0,6,6,1],g10,[1]]
 | false=>jn [g27,[0,8,0,8,8,8,0,7,0,7,0,7,7,5],g1,g55,g9,[1]]
noncomputable def e_14 (_:Bool):List TEv:= [.inn 19 4 [3] 49 ([])]
theorem tak_14 (prog:Program) (P:Params):takP false 1 sxab prog P (h0_14 (itw P)) (e_14 (itw P)):=pset_two (X:=fun b1 zz P=>takP false 1 sxab prog P (h0_14 b1) (e_14 b1)) fun b1 b2 l n u0 u1 u2 u3 tm tn K t=>by
 revert b1 b2; exact Rf.prove _ (by kernel_rfl)
theorem eok_14 (b:Bool):evOk (e_14 b)=true:=by cases b<;>kernel_rfl
noncomputable def h0_20:Bool→List Nat
 | true=>jn [g42,[0,2]]
 | false=>jn [g42,[0,2]]
noncomputable def e_20:Bool→List TEv
 | true=> [.cut 4 6 [0] (jn [g32,[0,1]]),.new 11 ([13,13,1]),.init 12 11 0 7 (jn [[2,2],g45,[0],g0,g3,g56,[0,21,21,21,21,0,0,21,0,0],g13,g51,[15,15,1]]),.inn 14 6 [6] 92 ([])]
 | false=> [.cut 4 6 [0] (jn [g32,[0,1]]),.new 11 ([13,13,1]),.init 12 11 0 7 (jn [[2,2],g43,[0],g0,g3,g56,[0,21,21,21,21,0,0,21,0,0],g13,g51,[15,15,1]]),.inn 14 6 [6] 92 ([])]
theorem tak_20 (prog:Program) (P:Params):takP true 2 saccept prog P (h0_20 (itw P)) (e_20 (itw P)):=pset_two (X:=fun b1 zz P=>takP true 2 saccept prog P (h0_20 b1) (e_20 b1)) fun b1 b2 l n u0 u1 u2 u3 tm tn K t=>by
 revert b1 b2; exact Rf.prove _ (by kernel_rfl)
theorem eok_20 (b:Bool):evOk (e_20 b)=true:=by cases b<;>kernel_rfl
noncomputable def h0_21:Bool→List Nat
 | true=>jn [g42,[0,2]]
 | false=>jn [g42,[0,2]]
noncomputable def e_21:Bool→List TEv
 | true=> [.cut 4 6 [0] (jn [g32,[0,1]]),.new 11 ([13,13,1]),.init 12 11 0 4 (jn [[2,2],g45,[0],g0,g25,[0,0,3,0,0,0,0,2,15,15,1]]),.inn 14 3 [] 48 ([])]
 | false=> [.cut 4 6 [0] (jn [g32,[0,1]]),.new 11 ([13,13,1]),.init 12 11 0 4 (jn [[2,2],g43,[0],g0,g25,[0,0,3,0,0,0,0,2,15,15,1]]),.inn 14 3 [] 48 ([])]
theorem tak_21 (prog:Program) (P:Params):takP false 2 sxa prog P (h0_21 (itw P)) (e_21 (itw P)):=pset_two (X:=fun b1 zz P=>takP false 2 sxa prog P (h0_21 b1) (e_21 b1)) fun b1 b2 l n u0 u1 u2 u3 tm tn K t=>by
 revert b1 b2; exact Rf.prove _ (by kernel_rfl)
theorem eok_21 (b:Bool):evOk (e_21 b)=true:=by cases b<;>kernel_rfl
noncomputable def h0_22:Bool→List Nat
 | true=>jn [g42,[0,2]]
 | false=>jn [g42,[0,2]]
noncomputable def e_22:Bool→List TEv
 | true=> [.cut 4 6 [0] (jn [g32,[0,1]]),.new 11 ([13,13,1]),.init 12 11 0 4 (jn [[2,2],g45,[0],g0,g25,[0,0,3,0,0,0,0,2,15,15,1]]),.inn 14 3 [] 48 ([])]
 | false=> [.cut 4 6 [0] (jn [g32,[0,1]]),.new 11 ([13,13,1]),.init 12 11 0 4 (jn [[2,2],g43,[0],g0,g25,[0,0,3,0,0,0,0,2,15,15,1]]),.inn 14 3 [] 48 ([])]
theorem tak_22 (prog:Program) (P:Params):takP false 2 sxb prog P (h0_22 (itw P)) (e_22 (itw P)):=pset_two (X:=fun b1 zz P=>takP false 2 sxb prog P (h0_22 b1) (e_22 b1)) fun b1 b2 l n u0 u1 u2 u3 tm tn K t=>by
 revert b1 b2; exact Rf.prove _ (by kernel_rfl)
theorem eok_22 (b:Bool):evOk (e_22 b)=true:=by cases b<;>kernel_rfl
noncomputable def h0_23:Bool→List Nat
 | true=>jn [g42,[0,2]]
 | false=>jn [g42,[0,2]]
noncomputable def e_23:Bool→List TEv
 | true=> [.cut 4 6 [0] (jn [g32,[0,1]]),.new 11 ([13,13,1]),.init 12 11 0 5 (jn [[2,2],g45,[0],g0,g46,[0,0],g14,[0,6,0,6,0,6,6,1,6,6,24,0,0,0,3,0,0,0,0,2,15,15,1]]),.inn 14 4 [4] 64 ([])]
 | false=> [.cut 4 6 [0] (jn [g32,[0,1]]),.new 11 ([13,13,1]),.init 12 11 0 5 (jn [[2,2],g43,[0],g0,g46,[0,0],g14,[0,6,0,6,0,6,6,1,6,6,24,0,0,0,3,0,0,0,0,2,15,15,1]]),.inn 14 4 [4] 64 ([])]
theorem tak_23 (prog:Program) (P:Params):takP true 2 shost prog P (h0_23 (itw P)) (e_23 (itw P)):=pset_two (X:=fun b1 zz P=>takP true 2 shost prog P (h0_23 b1) (e_23 b1)) fun b1 b2 l n u0 u1 u2 u3 tm tn K t=>by
 revert b1 b2; exact Rf.prove _ (by kernel_rfl)
theorem eok_23 (b:Bool):evOk (e_23 b)=true:=by cases b<;>kernel_rfl
noncomputable def h0_24:Bool→List Nat
 | true=>jn [g42,[0,2]]
 | false=>jn [g42,[0,2]]
noncomputable def e_24:Bool→List TEv
 | true=> [.cut 4 6 [0] (jn [g32,[0,1]]),.new 11 ([13,13,1]),.init 12 11 0 5 (jn [[2,2],g45,[0],g0,g3,[0,0,0],g41,[1]]),.inn 14 4 [] 62 ([])]
 | false=> [.cut 4 6 [0] (jn [g32,[0,1]]),.new 11 ([13,13,1]),.init 12 11 0 5 (jn [[2,2],g43,[0],g0,g3,[0,0,0],g41,[1]]),.inn 14 4 [] 62 ([])]
theorem tak_24 (prog:Program) (P:Params):takP false 2 sxab prog P (h0_24 (itw P)) (e_24 (itw P)):=pset_two (X:=fun b1 zz P=>takP false 2 sxab prog P (h0_24 b1) (e_24 b1)) fun b1 b2 l n u0 u1 u2 u3 tm tn K t=>by
 revert b1 b2; exact Rf.prove _ (by kernel_rfl)
theorem eok_24 (b:Bool):evOk (e_24 b)=true:=by cases b<;>kernel_rfl
noncomputable def h0_30:Bool→List Nat
 | true=>jn [g20,g52,[0,2]]
 | false=>jn [[0,0,2,2,2,2],g21,g52,[0,2]]
noncomputable def e_30 (_:Bool):List TEv:= [.cut 7 12 [1] (jn [g34,[0,1]]),.new 17 ([19,19,1]),.init 18 17 1 6 (jn [g47,[1]]),.inn 18 6 [1,2,3,4,5,6] 2 ([])]
theorem tak_30 (prog:Program) (P:Params):takP true 3 saccept prog P (h0_30 (itw P)) (e_30 (itw P)):=pset_two (X:=fun b1 zz P=>takP true 3 saccept prog P (h0_30 b1) (e_30 b1)) fun b1 b2 l n u0 u1 u2 u3 tm tn K t=>by
 revert b1 b2; exact Rf.prove _ (by kernel_rfl)
theorem eok_30 (b:Bool):evOk (e_30 b)=true:=by cases b<;>kernel_rfl
noncomputable def h0_31:Bool→List Nat
 | true=>jn [g11,g59,[2]]
 | false=>jn [g12,[9,9],g54]
noncomputable def e_31 (_:Bool):List TEv:= [.cut 7 12 [] (jn [g49,[1]]),.inn 13 3 [] 20 ([])]
theorem tak_31 (prog:Program) (P:Params):takP false 3 sxa prog P (h0_31 (itw P)) (e_31 (itw P)):=pset_two (X:=fun b1 zz P=>takP false 3 sxa prog P (h0_31 b1) (e_31 b1)) fun b1 b2 l n u0 u1 u2 u3 tm tn K t=>by
 revert b1 b2; exact Rf.prove _ (by kernel_rfl)
theorem eok_31 (b:Bool):evOk (e_31 b)=true:=by cases b<;>kernel_rfl
noncomputable def h0_32:Bool→List Nat
 | true=>jn [g11,g59,[2]]
 | false=>jn [g12,[9,9],g54]
noncomputable def e_32 (_:Bool):List TEv:= [.cut 7 12 [] (jn [g49,[1]]),.inn 13 3 [] 20 ([])]
theorem tak_32 (prog:Program) (P:Params):takP false 3 sxb prog P (h0_32 (itw P)) (e_32 (itw P)):=pset_two (X:=fun b1 zz P=>takP false 3 sxb prog P (h0_32 b1) (e_32 b1)) fun b1 b2 l n u0 u1 u2 u3 tm tn K t=>by
 revert b1 b2; exact Rf.prove _ (by kernel_rfl)
theorem eok_32 (b:Bool):evOk (e_32 b)=true:=by cases b<;>kernel_rfl
noncomputable def h0_33:Bool→List Nat
 | true=>jn [g20,g52,[0,2]]
 | false=>jn [[0,0,2,2,2,2],g21,g52,[0,2]]
noncomputable def e_33 (_:Bool):List TEv:= [.cut 7 12 [1] (jn [g34,[0,1]]),.new 17 ([19,19,1]),.init 18 17 1 4 (jn [g47,[1]]),.inn 18 4 [1,2,3,4] 2 ([])]
theorem tak_33 (prog:Program) (P:Params):takP true 3 shost prog P (h0_33 (itw P)) (e_33 (itw P)):=pset_two (X:=fun b1 zz P=>takP true 3 shost prog P (h0_33 b1) (e_33 b1)) fun b1 b2 l n u0 u1 u2 u3 tm tn K t=>by
 revert b1 b2; exact Rf.prove _ (by kernel_rfl)
theorem eok_33 (b:Bool):evOk (e_33 b)=true:=by cases b<;>kernel_rfl
noncomputable def h0_34:Bool→List Nat
 | true=>jn [g11,g59,[2]]
 | false=>jn [g12,[9,9],g54]
noncomputable def e_34 (_:Bool):List TEv:= [.cut 7 12 [] (jn [g49,[1]]),.inn 13 4 [] 20 ([])]
theorem tak_34 (prog:Program) (P:Params):takP false 3 sxab prog P (h0_34 (itw P)) (e_34 (itw P)):=pset_two (X:=fun b1 zz P=>takP false 3 sxab prog P (h0_34 b1) (e_34 b1)) fun b1 b2 l n u0 u1 u2 u3 tm tn K t=>by
 revert b1 b2; exact Rf.prove _ (by kernel_rfl)
theorem eok_34 (b:Bool):evOk (e_34 b)=true:=by cases b<;>kernel_rfl
noncomputable def h0_40:Bool→List Nat
 | true=>jn [g42,[0,2]]
 | false=>jn [g42,[0,2]]
noncomputable def e_40:Bool→List TEv
 | true=> [.cut 4 6 [0] (jn [g32,[0,1]]),.new 11 ([13,13,1]),.init 12 11 0 7 (jn [[2,2],g54,[13,13,0,13,0,14,0,0],g18,[0,0,0,14,0,14,0,14,14,13,14,14,16],g3,g56,[0],g15,g54]),.cut 14 24 [1] (jn [g35,[0,1]]),.new 29 ([31,31,1]),.init 30 29 1 6 (jn [g58,[33,0,0,0,3,0,0,0,0,2,31,31,1]]),.inn 30 6 [1,2,3,4,5,6] 2 ([])]
 | false=> [.cut 4 6 [0] (jn [g32,[0,1]]),.new 11 ([13,13,1]),.init 12 11 0 7 (jn [[2,2],g54,[13,13,0,13,0,14,0,14,14,0,14,0,14,0],g18,[0,0,0,14,0,14,0,14,14,13,14,14,16],g3,g56,[0],g15,g54]),.cut 14 24 [1] (jn [g35,[0,1]]),.new 29 ([31,31,1]),.init 30 29 1 6 (jn [g58,[33,0,0,0,3,0,0,0,0,2,31,31,1]]),.inn 30 6 [1,2,3,4,5,6] 2 ([])]
theorem tak_40 (prog:Program) (P:Params):takP true 4 saccept prog P (h0_40 (itw P)) (e_40 (itw P)):=pset_two (X:=fun b1 zz P=>takP true 4 saccept prog P (h0_40 b1) (e_40 b1)) fun b1 b2 l n u0 u1 u2 u3 tm tn K t=>by
 revert b1 b2; exact Rf.prove _ (by kernel_rfl)
theorem eok_40 (b:Bool):evOk (e_40 b)=true:=by cases b<;>kernel_rfl
noncomputable def h0_41:Bool→List Nat
 | true=>jn [g42,[0,2]]
 | false=>jn [g42,[0,2]]
noncomputable def e_41:Bool→List TEv
 | true=> [.cut 4 6 [0] (jn [g32,[0,1]]),.new 11 ([13,13,1]),.init 12 11 0 4 (jn [[2,2],g45,[0],g0,g28,[6],g59,[2]]),.cut 14 21 [3] (jn [g36,[0,1]]),.new 26 ([28,28,1]),.init 27 26 3 1 (jn [g58,[30,0,0,0,3,0,0,0,0,2,28,28,1]]),.inn 27 3 [3] 2 ([])]
 | false=> [.cut 4 6 [0] (jn [g32,[0,1]]),.new 11 ([13,13,1]),.init 12 11 0 4 (jn [[2,2],g43,[0],g0,g28,[6],g59,[2]]),.cut 14 21 [3] (jn [g36,[0,1]]),.new 26 ([28,28,1]),.init 27 26 3 1 (jn [g58,[30,0,0,0,3,0,0,0,0,2,28,28,1]]),.inn 27 3 [3] 2 ([])]
theorem tak_41 (prog:Program) (P:Params):takP true 4 sxa prog P (h0_41 (itw P)) (e_41 (itw P)):=pset_two (X:=fun b1 zz P=>takP true 4 sxa prog P (h0_41 b1) (e_41 b1)) fun b1 b2 l n u0 u1 u2 u3 tm tn K t=>by
 revert b1 b2; exact Rf.prove _ (by kernel_rfl)
theorem eok_41 (b:Bool):evOk (e_41 b)=true:=by cases b<;>kernel_rfl
noncomputable def h0_42:Bool→List Nat
 | true=>jn [g42,[0,2]]
 | false=>jn [g42,[0,2]]
noncomputable def e_42:Bool→List TEv
 | true=> [.cut 4 6 [0] (jn [g32,[0,1]]),.new 11 ([13,13,1]),.init 12 11 0 4 (jn [[2,2],g45,[0],g0,g30,[4,2,0,0,2]]),.cut 14 21 [] (jn [[2,2],g50,[23,23,1]]),.inn 22 3 [] 49 ([])]
 | false=> [.cut 4 6 [0] (jn [g32,[0,1]]),.new 11 ([13,13,1]),.init 12 11 0 4 (jn [[2,2],g43,[0],g0,g30,[4,2,0,0,2]]),.cut 14 21 [] (jn [[2,2],g50,[23,23,1]]),.inn 22 3 [] 49 ([])]
theorem tak_42 (prog:Program) (P:Params):takP false 4 sxb prog P (h0_42 (itw P)) (e_42 (itw P)):=pset_two (X:=fun b1 zz P=>takP false 4 sxb prog P (h0_42 b1) (e_42 b1)) fun b1 b2 l n u0 u1 u2 u3 tm tn K t=>by
 revert b1 b2; exact Rf.prove _ (by kernel_rfl)
theorem eok_42 (b:Bool):evOk (e_42 b)=true:=by cases b<;>kernel_rfl
noncomputable def h0_43:Bool→List Nat
 | true=>jn [g42,[0,2]]
 | false=>jn [g42,[0,2]]
noncomputable def e_43:Bool→List TEv
 | true=> [.cut 4 6 [0] (jn [g32,[0,1]]),.new 11 ([13,13,1]),.init 12 11 0 5 (jn [[2,2],g45,[0],g0,g3,g44,[2,0,0,2]]),.cut 14 22 [] (jn [[2,2],g51,[24,24,1]]),.inn 23 4 [] 63 ([])]
 | false=> [.cut 4 6 [0] (jn [g32,[0,1]]),.new 11 ([13,13,1]),.init 12 11 0 5 (jn [[2,2],g43,[0],g0,g3,g44,[2,0,0,2]]),.cut 14 22 [] (jn [[2,2],g51,[24,24,1]]),.inn 23 4 [] 63 ([])]
theorem tak_43 (prog:Program) (P:Params):takP false 4 shost prog P (h0_43 (itw P)) (e_43 (itw P)):=pset_two (X:=fun b1 zz P=>takP false 4 shost prog P (h0_43 b1) (e_43 b1)) fun b1 b2 l n u0 u1 u2 u3 tm tn K t=>by
 revert b1 b2; exact Rf.prove _ (by kernel_rfl)
theorem eok_43 (b:Bool):evOk (e_43 b)=true:=by cases b<;>kernel_rfl
noncomputable def h0_44:Bool→List Nat
 | true=>jn [g42,[0,2]]
 | false=>jn [g42,[0,2]]
noncomputable def e_44:Bool→List TEv
 | true=> [.cut 4 6 [0] (jn [g32,[0,1]]),.new 11 ([13,13,1]),.init 12 11 0 5 (jn [[2,2],g45,[0],g0,g46,[0,0],g16,g54]),.cut 14 22 [3] (jn [g37,[0,1]]),.new 27 ([29,29,1]),.init 28 27 3 2 (jn [g58,[31,0,0,0,3,0,0,0,0,2,29,29,1]]),.inn 28 4 [3,4] 2 ([])]
 | false=> [.cut 4 6 [0] (jn [g32,[0,1]]),.new 11 ([13,13,1]),.init 12 11 0 5 (jn [[2,2],g43,[0],g0,g46,[0,0],g16,g54]),.cut 14 22 [3] (jn [g37,[0,1]]),.new 27 ([29,29,1]),.init 28 27 3 2 (jn [g58,[31,0,0,0,3,0,0,0,0,2,29,29,1]]),.inn 28 4 [3,4] 2 ([])]
theorem tak_44 (prog:Program) (P:Params):takP true 4 sxab prog P (h0_44 (itw P)) (e_44 (itw P)):=pset_two (X:=fun b1 zz P=>takP true 4 sxab prog P (h0_44 b1) (e_44 b1)) fun b1 b2 l n u0 u1 u2 u3 tm tn K t=>by
 revert b1 b2; exact Rf.prove _ (by kernel_rfl)
theorem eok_44 (b:Bool):evOk (e_44 b)=true:=by cases b<;>kernel_rfl
noncomputable def h0_50:Bool→List Nat
 | true=>jn [g42,g6,[0,6],g31,[1]]
 | false=>jn [g40,[0,7,0,7,7,0],g5,g55,g29,[1]]
noncomputable def e_50 (_:Bool):List TEv:= [.inn 23 6 [] 23 ([])]
theorem tak_50 (prog:Program) (P:Params):takP false 5 saccept prog P (h0_50 (itw P)) (e_50 (itw P)):=pset_two (X:=fun b1 zz P=>takP false 5 saccept prog P (h0_50 b1) (e_50 b1)) fun b1 b2 l n u0 u1 u2 u3 tm tn K t=>by
 revert b1 b2; exact Rf.prove _ (by kernel_rfl)
theorem eok_50 (b:Bool):evOk (e_50 b)=true:=by cases b<;>kernel_rfl
noncomputable def h0_51:Bool→List Nat
 | true=>jn [[0,0],g24,g57,[7],g2,[0,6,0,6,0,6,6,1,6,6],g8,g39]
 | false=>jn [g4,[7,7,5],g1,[0],g53,[0],g7,g39]
noncomputable def e_51 (_:Bool):List TEv:= [.inn 25 3 [] 54 ([])]
theorem tak_51 (prog:Program) (P:Params):takP false 5 sxa prog P (h0_51 (itw P)) (e_51 (itw P)):=pset_two (X:=fun b1 zz P=>takP false 5 sxa prog P (h0_51 b1) (e_51 b1)) fun b1 b2 l n u0 u1 u2 u3 tm tn K t=>by
 revert b1 b2; exact Rf.prove _ (by kernel_rfl)
theorem eok_51 (b:Bool):evOk (e_51 b)=true:=by cases b<;>kernel_rfl
noncomputable def h0_52:Bool→List Nat
 | true=>jn [[0,0],g24,g57,[7],g2,[0,6,0,6,0,6,6,1,6,6],g8,g39]
 | false=>jn [g4,[7,7,5],g1,[0],g53,[0],g7,g39]
noncomputable def e_52 (_:Bool):List TEv:= [.inn 25 3 [] 54 ([])]
theorem tak_52 (prog:Program) (P:Params):takP false 5 sxb prog P (h0_52 (itw P)) (e_52 (itw P)):=pset_two (X:=fun b1 zz P=>takP false 5 sxb prog P (h0_52 b1) (e_52 b1)) fun b1 b2 l n u0 u1 u2 u3 tm tn K t=>by
 revert b1 b2; exact Rf.prove _ (by kernel_rfl)
theorem eok_52 (b:Bool):evOk (e_52 b)=true:=by cases b<;>kernel_rfl
noncomputable def h0_53:Bool→List Nat
 | true=>jn [g42,g6,[0,6],g31,[1]]
 | false=>jn [g40,[0,7,0,7,7,0],g5,g55,g29,[1]]
noncomputable def e_53 (_:Bool):List TEv:= [.inn 23 4 [] 23 ([])]
theorem tak_53 (prog:Program) (P:Params):takP false 5 shost prog P (h0_53 (itw P)) (e_53 (itw P)):=pset_two (X:=fun b1 zz P=>takP false 5 shost prog P (h0_53 b1) (e_53 b1)) fun b1 b2 l n u0 u1 u2 u3 tm tn K t=>by
 revert b1 b2; exact Rf.prove _ (by kernel_rfl)
theorem eok_53 (b:Bool):evOk (e_53 b)=true:=by cases b<;>kernel_rfl
noncomputable def h0_54:Bool→List Nat
 | true=>jn [[0,0],g24,g57,[7],g2,[0,6,0,6,0,6,6,1,6,6],g8,[0,0,3,0,0,0,0,0,0,0,4,3,27,0],g38,[1]]
 | false=>jn [g4,[7,7,5],g1,[0],g53,[0],g7,[0,0,3,0,0,0,0,0,0,0,4,3,27,0],g38,[1]]
noncomputable def e_54 (_:Bool):List TEv:= [.inn 25 4 [4] 61 ([])]
theorem tak_54 (prog:Program) (P:Params):takP true 5 sxab prog P (h0_54 (itw P)) (e_54 (itw P)):=pset_two (X:=fun b1 zz P=>takP true 5 sxab prog P (h0_54 b1) (e_54 b1)) fun b1 b2 l n u0 u1 u2 u3 tm tn K t=>by
 revert b1 b2; exact Rf.prove _ (by kernel_rfl)
theorem eok_54 (b:Bool):evOk (e_54 b)=true:=by cases b<;>kernel_rfl
noncomputable def takesB (j:Nat) (nm:Str):Bool:=match j with
 | 0=>nm==sxa || nm==sxb || nm==sxab
 | 1=>nm==sxa || nm==sxb
 | 2=>nm==saccept || nm==shost
 | 3=>nm==saccept || nm==shost
 | 4=>nm==saccept || nm==sxa || nm==sxab
 | _=>nm==sxab
theorem pad4 (j:Nat) (ts:List Nat): ∃ u0 u1 u2 u3,strsA (partS j) ts=strsA (partS j) [u0,u1,u2,u3]:=by
 have gen: ∀ (ps:List Str),ps.length≤4→∀ ts:List Nat,∃ u0 u1 u2 u3,strsA ps ts=strsA ps [u0,u1,u2,u3]:=by
  intro ps h ts
  match ps,h with
  | [],_=>exact ⟨0,0,0,0,rfl⟩
  | [a],_=>cases ts with
   | nil=>exact ⟨0,0,0,0,rfl⟩
   | cons x l=>exact ⟨x,0,0,0,rfl⟩
  | [a,b],_=>match ts with
   | []=>exact ⟨0,0,0,0,rfl⟩
   | [x]=>exact ⟨x,0,0,0,rfl⟩
   | x::y::l=>exact ⟨x,y,0,0,rfl⟩
  | [a,b,c],_=>match ts with
   | []=>exact ⟨0,0,0,0,rfl⟩
   | [x]=>exact ⟨x,0,0,0,rfl⟩
   | [x,y]=>exact ⟨x,y,0,0,rfl⟩
   | x::y::z::l=>exact ⟨x,y,z,0,rfl⟩
  | [a,b,c,d],_=>match ts with
   | []=>exact ⟨0,0,0,0,rfl⟩
   | [x]=>exact ⟨x,0,0,0,rfl⟩
   | [x,y]=>exact ⟨x,y,0,0,rfl⟩
   | [x,y,z]=>exact ⟨x,y,z,0,rfl⟩
   | x::y::z::v::l=>exact ⟨x,y,z,v,rfl⟩
 refine gen _ ?_ ts
 unfold partS
 split<;>simp
section
variable {prog:Program} {w:World} {A:Around} {sh:Shared}
theorem takP.ok {b:Bool} {j:Nat} {nm:Str} {h0:List Nat} {evs:List TEv} (H:takP b j nm prog w.params h0 evs) (hb:evOk evs=true) (T:Top w sh) (Rm:Room 1 A) {l n:Nat} {ts:List Nat} (hl:sh.heap.get? l=some (listO (strsA (partS j) ts).toArray n)) (hL:277≤l) (tm tn:Nat):
  codeAny (model prog w) A (takC l nm tm tn) (fun r sh'=>r= .ok (.ret (.bool b))∧Ext none_ sh sh') sh:=by
 refine x45 (pad4 j ts) fun u0 u1 u2 u3 e=>?_
 rw [e] at hl
 have F:Facts 0 sh (takD j l n u0 u1 u2 u3):=.of ⟨⟨hl,Nat.zero_le _⟩,trivial⟩ (by kernel_rfl)
 refine walk_codeG T Rm rfl F ⟨ktno_ge hL,trivial⟩ 1800 h0 fun K t hK ht=>?_
 refine TP.ok Rm T.size (fun s sh' e S=>⟨rfl,(S.only (sh:=sh) (cs:= [false]) rfl rfl rfl F e).weak fun b h=>h⟩) (fun l=>evOk l=true) ?_ hb (H l n u0 u1 u2 u3 tm tn K t)
 intro e l h
 cases e with
 | init iS ir a n hh=>
  have h:(Nat.ble a 100&&Nat.ble n 100&&evOk l)=true:=h
  simp only [Bool.and_eq_true] at h
  refine ⟨h.2,fun iS ir a n hh e=>?_⟩
  cases e
  exact ⟨Nat.le_of_ble_eq_true h.1.1,Nat.le_of_ble_eq_true h.1.2⟩
 | _=>exact ⟨h,fun zz zz zz zz zz e=>nomatch e⟩
theorem takes_spec {j:Nat} (hj:j<6) {nm:Str} (hn:nm∈lows5) (T:Top w sh) (Rm:Room 1 A) {l n:Nat} {ts:List Nat} (hl:sh.heap.get? l=some (listO (strsA (partS j) ts).toArray n)) (hL:277≤l) (tm tn:Nat):
  codeAny (model prog w) A (takC l nm tm tn) (fun r sh'=>r= .ok (.ret (.bool (takesB j nm)))∧Ext none_ sh sh') sh:=by
 have cs:nm=saccept∨nm=sxa∨nm=sxb∨nm=shost∨nm=sxab:=by simpa [lows5] using hn
 have cj:j=0∨j=1∨j=2∨j=3∨j=4∨j=5:=by lia
 rcases cj with rfl | rfl | rfl | rfl | rfl | rfl<;>rcases cs with rfl | rfl | rfl | rfl | rfl
 ·exact takP.ok (b:=takesB 0 saccept) (tak_00 prog w.params) (eok_00 _) T Rm hl hL tm tn
 ·exact takP.ok (b:=takesB 0 sxa) (tak_01 prog w.params) (eok_01 _) T Rm hl hL tm tn
 ·exact takP.ok (b:=takesB 0 sxb) (tak_02 prog w.params) (eok_02 _) T Rm hl hL tm tn
 ·exact takP.ok (b:=takesB 0 shost) (tak_03 prog w.params) (eok_03 _) T Rm hl hL tm tn
 ·exact takP.ok (b:=takesB 0 sxab) (tak_04 prog w.params) (eok_04 _) T Rm hl hL tm tn
 ·exact takP.ok (b:=takesB 1 saccept) (tak_10 prog w.params) (eok_10 _) T Rm hl hL tm tn
 ·exact takP.ok (b:=takesB 1 sxa) (tak_11 prog w.params) (eok_11 _) T Rm hl hL tm tn
 ·exact takP.ok (b:=takesB 1 sxb) (tak_12 prog w.params) (eok_12 _) T Rm hl hL tm tn
 ·exact takP.ok (b:=takesB 1 shost) (tak_13 prog w.params) (eok_13 _) T Rm hl hL tm tn
 ·exact takP.ok (b:=takesB 1 sxab) (tak_14 prog w.params) (eok_14 _) T Rm hl hL tm tn
 ·exact takP.ok (b:=takesB 2 saccept) (tak_20 prog w.params) (eok_20 _) T Rm hl hL tm tn
 ·exact takP.ok (b:=takesB 2 sxa) (tak_21 prog w.params) (eok_21 _) T Rm hl hL tm tn
 ·exact takP.ok (b:=takesB 2 sxb) (tak_22 prog w.params) (eok_22 _) T Rm hl hL tm tn
 ·exact takP.ok (b:=takesB 2 shost) (tak_23 prog w.params) (eok_23 _) T Rm hl hL tm tn
 ·exact takP.ok (b:=takesB 2 sxab) (tak_24 prog w.params) (eok_24 _) T Rm hl hL tm tn
 ·exact takP.ok (b:=takesB 3 saccept) (tak_30 prog w.params) (eok_30 _) T Rm hl hL tm tn
 ·exact takP.ok (b:=takesB 3 sxa) (tak_31 prog w.params) (eok_31 _) T Rm hl hL tm tn
 ·exact takP.ok (b:=takesB 3 sxb) (tak_32 prog w.params) (eok_32 _) T Rm hl hL tm tn
 ·exact takP.ok (b:=takesB 3 shost) (tak_33 prog w.params) (eok_33 _) T Rm hl hL tm tn
 ·exact takP.ok (b:=takesB 3 sxab) (tak_34 prog w.params) (eok_34 _) T Rm hl hL tm tn
 ·exact takP.ok (b:=takesB 4 saccept) (tak_40 prog w.params) (eok_40 _) T Rm hl hL tm tn
 ·exact takP.ok (b:=takesB 4 sxa) (tak_41 prog w.params) (eok_41 _) T Rm hl hL tm tn
 ·exact takP.ok (b:=takesB 4 sxb) (tak_42 prog w.params) (eok_42 _) T Rm hl hL tm tn
 ·exact takP.ok (b:=takesB 4 shost) (tak_43 prog w.params) (eok_43 _) T Rm hl hL tm tn
 ·exact takP.ok (b:=takesB 4 sxab) (tak_44 prog w.params) (eok_44 _) T Rm hl hL tm tn
 ·exact takP.ok (b:=takesB 5 saccept) (tak_50 prog w.params) (eok_50 _) T Rm hl hL tm tn
 ·exact takP.ok (b:=takesB 5 sxa) (tak_51 prog w.params) (eok_51 _) T Rm hl hL tm tn
 ·exact takP.ok (b:=takesB 5 sxb) (tak_52 prog w.params) (eok_52 _) T Rm hl hL tm tn
 ·exact takP.ok (b:=takesB 5 shost) (tak_53 prog w.params) (eok_53 _) T Rm hl hL tm tn
 ·exact takP.ok (b:=takesB 5 sxab) (tak_54 prog w.params) (eok_54 _) T Rm hl hL tm tn
end
structure RP where
 prog:Program
 P:Params
 it:Nat
 l:Nat
 i:Nat
 n:Nat
 xs:Array Value
 h2:Nat
 z:Int
 tz:Nat
 k:Nat
 tk:Nat
 tm:Nat
 pl:Nat
 nl:Nat
 nn:Nat
 ys:Array Value
 fr:Nat
 hs:Nat→Int
 ts:Nat→Nat
 ep:Nat
 nm:Str
 tn:Nat
noncomputable def ruF (p:RP) (e:List (Str×Value)):Obj:=
 frmO (("headers",.ref p.h2)::("rule",.int p.z p.tz)::("kind",.int (Int.ofNat p.k) p.tk)::("star",.str sMany p.tm)::("parts",.ref p.pl)::("names",.ref p.nl)::e) p.hs p.ts p.ep
noncomputable def nameE:Option Value→List (Str×Value)
 | none=> []
 | some v=> [("name",v)]
noncomputable def oneE:Option Value→List (Str×Value)
 | none=> []
 | some v=> [("one",v)]
noncomputable def r1D (p:RP) (e:Option Value):List (Nat×Obj):= [(p.it,iterO p.l p.i),(p.l,listO p.xs p.n),(p.fr,ruF p (nameE e)),(p.nl,listO p.ys p.nn)]
noncomputable def r1C (p:RP):Code:=ruC ruFor1 p.it p.fr
noncomputable def r1Loop (p:RP) (ys:Array Value) (nn:Nat):Rs→Prop:=
 CLoop (r1C p) fun s=>keepD [true,false,true,true] s.D= [(p.l,listO p.xs p.n)]∧
  pick [0,2,3] s.D= [(p.it,iterO p.l (p.i+1)),(p.fr,ruF {p with hs:=hsOf (dOf s 2),ts:=tsOf (dOf s 2),ep:=epOf (dOf s 2)} [("name",.str p.nm p.tn)]),(p.nl,listO ys nn)]
noncomputable instance r1Loop.rf {p:RP} {ys:Array Value} {nn:Nat} {R:Rs} :Rf (r1Loop p ys nn R):=by
 delta r1Loop; infer_instance
noncomputable def r1Next (p:RP) (b:Bool) (hs:List Nat) (P:Rs→Prop):Rs→Prop:=
 CNext p.it p.l p.i p.n p.xs 0 1 (.str p.nm p.tn) [3,3,0,3,3,3,1]<|CCall (X:=Nat) (fun zz=>lowerC p.nm p.tn) (fun zz=>True) (fun t=>.ok (.ret (.str (lowS p.nm) t))) [] (fun zz=> []) [0,1] fun t=>
  CExt (takC p.pl (lowS p.nm) p.tm t) (.ok (.ret (.bool b))) hs P
noncomputable instance r1Next.rf {p:RP} {b:Bool} {hs:List Nat} {P:Rs→Prop} {R:Rs} [∀ y1,Rf (P y1)]:Rf (r1Next p b hs P R):=by
 delta r1Next; infer_instance
noncomputable def r1A (p:RP) (b:Bool):Rs→Prop:=r1Next p b [3,0,0,0,0,1] (r1Loop p p.ys p.nn)
noncomputable instance r1A.rf {p:RP} {b:Bool} {R:Rs} :Rf (r1A p b R):=by
 delta r1A; infer_instance
structure CX where
 xs:Array Value
 e:Nat
 kv:Option Value
 hs:Nat→Int
 ts:Nat→Nat
 ep:Nat
noncomputable instance CX.rx:Rx CX:=⟨fun k=>.all fun x:CX=>.and (k {x with kv:=none}) (.all fun v=>k {x with kv:=some v}),fun h x=>match x with
 | ⟨y0,y1,none,y3,y4,y5⟩=>(h ⟨y0,y1,none,y3,y4,y5⟩).1
 | ⟨y0,y1,some v,y3,y4,y5⟩=>(h ⟨y0,y1,none,y3,y4,y5⟩).2 v⟩
noncomputable def hCmp:Option Value→List Nat
 | none=> [6]
 | some _=> [6,6,6]
noncomputable def csC:List Bool:= [false,false,false,false,true,true,true]
noncomputable def r1BC (p:RP) (b nb:Bool) (hs:List Nat) (P:Rs→Prop):Rs→Prop:=
 r1Next p b [3,0,0,0,0,3,1]<|CCall (X:=Nat) (fun zz=>lowerC p.nm p.tn) (fun zz=>True) (fun t=>.ok (.ret (.str (lowS p.nm) t))) [] (fun zz=> []) [3,4,4,0,4,0,5,1] fun t2=>
  CSw (X:=CX) (fun s=>ruCompC (aOf s 4) (aOf s 5) p.fr (aOf s 6))
   (fun s=>pick [3,4,5,6] s.D= [(p.nl,listO p.ys p.nn),(aOf s 4,iterO p.nl 0),(aOf s 5,listO #[] 0),(aOf s 6,dicO [] (hsOf (dOf s 6)) (tsOf (dOf s 6)) (epOf (dOf s 6)))]∧(getD s.D 3).isSome=true∧aOf s 3=p.nl∧(getD s.D 4).isSome=true∧(getD s.D 5).isSome=true∧(getD s.D 6).isSome=true)
   (fun zz=>.ok .next) csC (fun s x=> [(aOf s 5,listO x.xs x.e),(aOf s 6,dicO (oneE x.kv) x.hs x.ts x.ep)]) (fun x=>hCmp x.kv) fun x=>
  CCut (X:=Unit) (fun s=>compareOp .NotIn (.str (lowS p.nm) t2) (.ref (aOf s 4))) (fun s=>pick [4] s.D= [(aOf s 4,listO x.xs x.e)]) (fun zz=>.bool nb) same_ (fun zz=>hs) fun zz=>P
noncomputable instance r1BC.rf {p:RP} {b nb:Bool} {hs:List Nat} {P:Rs→Prop} {R:Rs} [∀ y1,Rf (P y1)]:Rf (r1BC p b nb hs P R):=by
 delta r1BC; infer_instance
noncomputable def r1B (p:RP) (b:Bool):Rs→Prop:=r1BC p b false [1] (r1Loop p p.ys p.nn)
noncomputable instance r1B.rf {p:RP} {b:Bool} {R:Rs} :Rf (r1B p b R):=by
 delta r1B; infer_instance
noncomputable def r1G (p:RP) (b:Bool):Rs→Prop:=r1BC p b true [3,4,4,4,4,3,1] (CApp p.nl p.nn p.ys (.str p.nm p.tn) 3 [1] (r1Loop p (p.ys.push (.str p.nm p.tn)) (p.nn+1)))
noncomputable instance r1G.rf {p:RP} {b:Bool} {R:Rs} :Rf (r1G p b R):=by
 delta r1G; infer_instance
noncomputable abbrev r1Run (p:RP) (P:Params) (e:Option Value) (K t:Nat):Rs:=runC p.prog P 200 (r1C p) [1,1] (r1D p e) K t
noncomputable def r1E (p:RP) (e:Option Value):Rs→Prop:=
 CLast p.it p.l p.i p.n p.xs 0 1 [5,0] fun zz=>CEnd (.ok .next) fun s=>keepD [true,false,false,false] s.D=keepD [true,false,false,false] (r1D p e)
noncomputable instance r1E.rf {p:RP} {e:Option Value} {R:Rs} :Rf (r1E p e R):=by
 delta r1E; infer_instance
theorem r1E_0 (p:RP) (e:Option Value) (K t:Nat):r1E p e (r1Run p p.P e K t):=pset_all (X:=fun P=>r1E p e (r1Run p P e K t)) (by intro b1; revert e; exact Rf.prove _ (by kernel_rfl))
theorem pset1 {X:Params→Prop} {P:Params} (h: ∀ b1 b2,X (pset b1 b2 P)):X P:=pset_all h
theorem r1B_0t (p:RP) (e:Option Value) (K t:Nat):r1B {p with k:=0} true (r1Run {p with k:=0} p.P e K t):=
 pset1 (X:=fun P=>r1B {p with k:=0} true (r1Run {p with k:=0} P e K t)) (by intro b1; revert e; exact Rf.prove _ (by kernel_rfl))
theorem r1G_0t (p:RP) (e:Option Value) (K t:Nat):r1G {p with k:=0} true (r1Run {p with k:=0} p.P e K t):=
 pset1 (X:=fun P=>r1G {p with k:=0} true (r1Run {p with k:=0} P e K t)) (by intro b1; revert e; exact Rf.prove _ (by kernel_rfl))
theorem r1A_0f (p:RP) (e:Option Value) (K t:Nat):r1A {p with k:=0} false (r1Run {p with k:=0} p.P e K t):=
 pset1 (X:=fun P=>r1A {p with k:=0} false (r1Run {p with k:=0} P e K t)) (by intro b1; revert e; exact Rf.prove _ (by kernel_rfl))
theorem r1A_1t (p:RP) (e:Option Value) (K t:Nat):r1A {p with k:=1} true (r1Run {p with k:=1} p.P e K t):=
 pset1 (X:=fun P=>r1A {p with k:=1} true (r1Run {p with k:=1} P e K t)) (by intro b1; revert e; exact Rf.prove _ (by kernel_rfl))
theorem r1B_1f (p:RP) (e:Option Value) (K t:Nat):r1B {p with k:=1} false (r1Run {p with k:=1} p.P e K t):=
 pset1 (X:=fun P=>r1B {p with k:=1} false (r1Run {p with k:=1} P e K t)) (by intro b1; revert e; exact Rf.prove _ (by kernel_rfl))
theorem r1G_1f (p:RP) (e:Option Value) (K t:Nat):r1G {p with k:=1} false (r1Run {p with k:=1} p.P e K t):=
 pset1 (X:=fun P=>r1G {p with k:=1} false (r1Run {p with k:=1} P e K t)) (by intro b1; revert e; exact Rf.prove _ (by kernel_rfl))
theorem r1B_2t (p:RP) (e:Option Value) (K t:Nat):r1B {p with k:=2} true (r1Run {p with k:=2} p.P e K t):=
 pset1 (X:=fun P=>r1B {p with k:=2} true (r1Run {p with k:=2} P e K t)) (by intro b1; revert e; exact Rf.prove _ (by kernel_rfl))
theorem r1G_2t (p:RP) (e:Option Value) (K t:Nat):r1G {p with k:=2} true (r1Run {p with k:=2} p.P e K t):=
 pset1 (X:=fun P=>r1G {p with k:=2} true (r1Run {p with k:=2} P e K t)) (by intro b1; revert e; exact Rf.prove _ (by kernel_rfl))
theorem r1A_2f (p:RP) (e:Option Value) (K t:Nat):r1A {p with k:=2} false (r1Run {p with k:=2} p.P e K t):=
 pset1 (X:=fun P=>r1A {p with k:=2} false (r1Run {p with k:=2} P e K t)) (by intro b1; revert e; exact Rf.prove _ (by kernel_rfl))
theorem r1B_3t (p:RP) (e:Option Value) (K t:Nat):r1B {p with k:=3} true (r1Run {p with k:=3} p.P e K t):=
 pset1 (X:=fun P=>r1B {p with k:=3} true (r1Run {p with k:=3} P e K t)) (by intro b1; revert e; exact Rf.prove _ (by kernel_rfl))
theorem r1G_3t (p:RP) (e:Option Value) (K t:Nat):r1G {p with k:=3} true (r1Run {p with k:=3} p.P e K t):=
 pset1 (X:=fun P=>r1G {p with k:=3} true (r1Run {p with k:=3} P e K t)) (by intro b1; revert e; exact Rf.prove _ (by kernel_rfl))
theorem r1A_3f (p:RP) (e:Option Value) (K t:Nat):r1A {p with k:=3} false (r1Run {p with k:=3} p.P e K t):=
 pset1 (X:=fun P=>r1A {p with k:=3} false (r1Run {p with k:=3} P e K t)) (by intro b1; revert e; exact Rf.prove _ (by kernel_rfl))
noncomputable def sliceO (a b c:Value):Obj:= {cls:=.type "slice",data:=.fields #[a,b,c]}
theorem idx_slice:typeLookup (.type "slice") (Str.ofString "__index__")=pure none:=by rw [typeLookup_type,builtinLookup_eq_fast]; kernel_rfl
section
variable {prog:Program} {w:World} {A:Around} {sh:Shared}
theorem wpAny_ifT {α:Type} {c:Prop} [Decidable c] {t e:Sem α} {Q:α→Shared→Prop} {E:Value→Shared→Prop} (h:c) (k:wpAny (model prog w) A t Q E sh):wpAny (model prog w) A (if c then t else e) Q E sh:=by rw [if_pos h]; exact k
theorem wpAny_ifF {α:Type} {c:Prop} [Decidable c] {t e:Sem α} {Q:α→Shared→Prop} {E:Value→Shared→Prop} (h: ¬ c) (k:wpAny (model prog w) A e Q E sh):wpAny (model prog w) A (if c then t else e) Q E sh:=by rw [if_neg h]; exact k
theorem sliceParts_spec {sl:Nat} {E:Value→Shared→Prop} {Q:Value×Value×Value→Shared→Prop} (hs:sh.heap.get? sl=some (sliceO .none .none .none)) (h:Q (.none,.none,.none) sh):wpAny (model prog w) A (Builtin.List.listSliceParts (.ref sl)) Q E sh:=by
 unfold Builtin.List.listSliceParts
 refine wpAny_bind (wpAny_field hs rfl (x:=.none) rfl ?_)
 refine wpAny_bind (wpAny_pure ?_)
 refine wpAny_ifF (by decide) ?_
 refine wpAny_bind (wpAny_field hs rfl (x:=.none) rfl ?_)
 refine wpAny_bind (wpAny_pure ?_)
 refine wpAny_bind (wpAny_field hs rfl (x:=.none) rfl ?_)
 refine wpAny_bind (wpAny_pure ?_)
 exact wpAny_pure h
theorem listItems_spec {a n:Nat} {xs:Array Value} {E:Value→Shared→Prop} {Q:Array Value→Shared→Prop} (ha:sh.heap.get? a=some (listO xs n)) (h:Q xs sh):wpAny (model prog w) A (Builtin.List.listItems (.ref a)) Q E sh:=by
 unfold Builtin.List.listItems
 refine wpAny_bind (m:=seqItems? _) (wpAny_seqItems ha rfl ?_)
 exact wpAny_pure h
theorem setslice_spec {l sl acc n m:Nat} {xs ys:Array Value} (hg:sh.gens= #[]) (ht:849≤sh.toks) (hl:sh.heap.get? l=some (listO xs n)) (hs:sh.heap.get? sl=some (sliceO .none .none .none)) (ha:sh.heap.get? acc=some (listO ys m)) (hne:l≠acc) (h1:xs.size≤100) (h2:ys.size≤100):
  codeAny (model prog w) A (.call (.builtin "list.__setitem__") ⟨[.ref l,.ref sl,.ref acc],[]⟩) (fun r sh'=>r= .ok (.ret .none)∧Ext (fun b=>b=l) sh sh'∧∃ n',sh'.heap.get? l=some (listO ys n')) sh:=by
 refine code_slot slot_list_setitem ⟨_,hl,rfl⟩ entry_list_setitem (args_list_setitem _ _ _) ?_
 show wpAny _ _ (Builtin.List.listSubscript? (.ref sl)>>=_) _ _ sh
 refine wpAny_bind ?_
 unfold Builtin.List.listSubscript?
 refine wpAny_bind (wpAny_specialOf (T:= "slice") ⟨_,hs,rfl⟩ idx_slice ?_)
 refine wpAny_ifT rfl ?_
 refine wpAny_pure ?_
 refine wpAny_bind (wpAny_typeOf (T:= "slice") ⟨_,hs,rfl⟩ ?_)
 refine wpAny_ifF (by decide) ?_
 refine wpAny_bind ?_
 refine sliceParts_spec hs ?_
 have hsame:Builtin.List.listSameRef (.ref l) (.ref acc)=false:=by
  show (l==acc)=false
  simpa using hne
 refine wpAny_ifF (by rw [hsame]; decide) ?_
 refine wpAny_bind ?_
 unfold Builtin.List.listAllItems
 refine wpAny_bind (wpAny_typeOf (T:= "list") ⟨_,ha,rfl⟩ ?_)
 refine wpAny_ifT (by rfl) ?_
 refine listItems_spec ha ?_
 refine wpAny_bind (listItems_spec hl ?_)
 refine wpAny_bind ?_
 refine wpAny_of_eq (a:=(0,(xs.size:Int),1)) ?_ ?_
 ·rfl
 refine wpAny_ifT (by rfl) ?_
 refine wpAny_bind (wpAny_rule ?_)
 refine wpAny_ifF (by unfold Builtin.List.listTooLong; rw [sizeLine_eq]; simp; lia) ?_
 unfold Builtin.List.listUpdate
 refine wpAny_bind (wpAny_updateSeq hl rfl ?_ (by rw [sizeLine_eq]; lia) (by rw [sizeLine_eq]; simp; lia))
 refine wpAny_bind (wpAny_letGo ?_)
 refine wpAny_pure ⟨rfl,upd_ext hl hg ht,?_⟩
 refine Exists.imp (fun n' h=>(Heap.get?_update_self _ hl rfl).trans (congrArg some h)) ?_
 simp [listO,Obj.mapSeq]
end
noncomputable def delX:PySem.Expr:=asgV (nthS (meth 4).body 1)
noncomputable def delLC (it acc fr cf cell:Nat):Code:=compC delX it acc (compEnv (compScC delX) (Str.ofString "Headers.__delitem__.<locals>.") 141 fr cf [("name",cell)])
structure DP where
 prog:Program
 P:Params
 it:Nat
 l:Nat
 i:Nat
 n:Nat
 xs:Array Value
 cf:Nat
 hs:Nat→Int
 ts:Nat→Nat
 ep:Nat
 acc:Nat
 ys:Array Value
 m:Nat
 cell:Nat
 nm:Str
 tn:Nat
 fr:Nat
 a:Nat
 k:Str
 tk:Nat
 v:Str
 tv:Nat
noncomputable def delD5 (p:DP) (e:List (Str×Value)):List (Nat×Obj):=
 [(p.acc,listO p.ys p.m),(p.l,listO p.xs p.n),(p.it,iterO p.l p.i),(p.cf,dicO e p.hs p.ts p.ep),(p.cell,cellO (.str p.nm p.tn))]
noncomputable def delD (p:DP) (e:List (Str×Value)):List (Nat×Obj):=
 [(p.acc,listO p.ys p.m),(p.l,listO p.xs p.n),(p.it,iterO p.l p.i),(p.cf,dicO e p.hs p.ts p.ep),(p.cell,cellO (.str p.nm p.tn)),(p.a,tupO [.str p.k p.tk,.str p.v p.tv])]
noncomputable def delLoop (p:DP) (ys:Array Value) (m:Nat):Rs→Prop:=
 CLoop (delLC p.it p.acc p.fr p.cf p.cell) fun s=>keepD [true,false,true,true,false,false] s.D=keepD [true,false,true,true,false,false] (delD p [])∧
  pick [0,1,2,3,4] s.D=delD5 {p with i:=p.i+1,ys:=ys,m:=m,hs:=hsOf (dOf s 3),ts:=tsOf (dOf s 3),ep:=epOf (dOf s 3)} [("kv",.ref p.a)]
noncomputable instance delLoop.rf {p:DP} {ys:Array Value} {m:Nat} {R:Rs} :Rf (delLoop p ys m R):=by
 delta delLoop; infer_instance
noncomputable def delT1 (p:DP):Rs→Prop:=
 CNext p.it p.l p.i p.n p.xs 2 1 (.ref p.a) [4,4,4,6,6,6,0,6,0,6,1]<|CCall (X:=Nat) (fun zz=>lowerC p.k p.tk) (fun zz=>True) (fun t=>.ok (.ret (.str (lowS p.k) t))) [] (fun zz=> []) [5,1] fun t=>
  CExt (neC (lowS p.k) p.nm t p.tn) (.ok (.ret (.bool true))) [4,1]<|CApp p.acc p.m p.ys (.ref p.a) 0 [1]<|delLoop p (p.ys.push (.ref p.a)) (p.m+1)
noncomputable instance delT1.rf {p:DP} {R:Rs} :Rf (delT1 p R):=by
 delta delT1; infer_instance
noncomputable def delT0 (p:DP):Rs→Prop:=
 CNext p.it p.l p.i p.n p.xs 2 1 (.ref p.a) [4,4,4,6,6,6,0,6,0,6,1]<|CCall (X:=Nat) (fun zz=>lowerC p.k p.tk) (fun zz=>True) (fun t=>.ok (.ret (.str (lowS p.k) t))) [] (fun zz=> []) [5,1] fun t=>
  CExt (neC (lowS p.k) p.nm t p.tn) (.ok (.ret (.bool false))) [1]<|delLoop p p.ys p.m
noncomputable instance delT0.rf {p:DP} {R:Rs} :Rf (delT0 p R):=by
 delta delT0; infer_instance
noncomputable def delE (p:DP) (e:List (Str×Value)):Rs→Prop:=
 CLast p.it p.l p.i p.n p.xs 2 1 [6] fun zz=>CEnd (.ok .next) fun s=>keepD [false,false,true,false,false] s.D=keepD [false,false,true,false,false] (delD5 p e)
noncomputable instance delE.rf {p:DP} {e:List (Str×Value)} {R:Rs} :Rf (delE p e R):=by
 delta delE; infer_instance
noncomputable abbrev delRun (p:DP) (P:Params) (D:List (Nat×Obj)) (K t:Nat):Rs:=runC p.prog P 150 (delLC p.it p.acc p.fr p.cf p.cell) [3,1] D K t
theorem delT1_0 (p:DP) (K t:Nat):delT1 p (delRun p p.P (delD p []) K t):=pset_all (X:=fun P=>delT1 p (delRun p P (delD p []) K t)) (by intro b1; exact Rf.prove _ (by kernel_rfl))
theorem delT1_1 (p:DP) (v1:Value) (K t:Nat):delT1 p (delRun p p.P (delD p [("kv",v1)]) K t):=pset_all (X:=fun P=>delT1 p (delRun p P (delD p [("kv",v1)]) K t)) (by intro b1; exact Rf.prove _ (by kernel_rfl))
theorem delT0_0 (p:DP) (K t:Nat):delT0 p (delRun p p.P (delD p []) K t):=pset_all (X:=fun P=>delT0 p (delRun p P (delD p []) K t)) (by intro b1; exact Rf.prove _ (by kernel_rfl))
theorem delT0_1 (p:DP) (v1:Value) (K t:Nat):delT0 p (delRun p p.P (delD p [("kv",v1)]) K t):=pset_all (X:=fun P=>delT0 p (delRun p P (delD p [("kv",v1)]) K t)) (by intro b1; exact Rf.prove _ (by kernel_rfl))
theorem delE_0 (p:DP) (K t:Nat):delE p [] (delRun p p.P (delD5 p []) K t):=pset_all (X:=fun P=>delE p [] (delRun p P (delD5 p []) K t)) (by intro b1; exact Rf.prove _ (by kernel_rfl))
theorem delE_1 (p:DP) (v1:Value) (K t:Nat):delE p [("kv",v1)] (delRun p p.P (delD5 p [("kv",v1)]) K t):=pset_all (X:=fun P=>delE p [("kv",v1)] (delRun p P (delD5 p [("kv",v1)]) K t)) (by intro b1; exact Rf.prove _ (by kernel_rfl))
noncomputable def KvEnt:List (Str×Value)→Prop
 | []=>True
 | [x]=>x.1= "kv"
 | _=>False
theorem del_t1 {p:DP} {e:List (Str×Value)} (he:KvEnt e) (K t:Nat):delT1 p (delRun p p.P (delD p e) K t):=by
 match e,he with
 | [],_=>exact delT1_0 p K t
 | [(_,v1)],rfl=>exact delT1_1 p v1 K t
theorem del_t0 {p:DP} {e:List (Str×Value)} (he:KvEnt e) (K t:Nat):delT0 p (delRun p p.P (delD p e) K t):=by
 match e,he with
 | [],_=>exact delT0_0 p K t
 | [(_,v1)],rfl=>exact delT0_1 p v1 K t
theorem del_e {p:DP} {e:List (Str×Value)} (he:KvEnt e) (K t:Nat):delE p e (delRun p p.P (delD5 p e) K t):=by
 match e,he with
 | [],_=>exact delE_0 p K t
 | [(_,v1)],rfl=>exact delE_1 p v1 K t
noncomputable def selR (f:Row→Bool):List Nat→List Row→List Nat
 | a::l,r::rs=>match f r with
  | true=>a::selR f l rs
  | false=>selR f l rs
 | _,_=> []
theorem selR_rows {f:Row→Bool} {sh:Shared} {refs:List Nat} {rows:List Row} (h:RowsAt sh refs rows):RowsAt sh (selR f refs rows) (rows.filter f):=by
 induction h with
 | nil=>exact .nil
 | @cons a r l rs q _ ih=>
  unfold selR
  cases e:f r with
  | true=>rw [List.filter_cons_of_pos e]; exact .cons q ih
  | false=>rw [List.filter_cons_of_neg (by simp [e])]; exact ih
theorem selR_sub {f:Row→Bool} : ∀ {refs:List Nat} {rows:List Row},(selR f refs rows).Sublist refs
 | [],_=>by unfold selR; exact List.nil_sublist _
 | a::l,[]=>by unfold selR; exact List.nil_sublist _
 | a::l,r::rs=>by
  unfold selR
  cases e:f r with
  | true=>exact (selR_sub (rows:=rs)).cons_cons _
  | false=>exact (selR_sub (rows:=rs)).cons _
theorem del_rest (p:DP) (e:List (Str×Value)):apart1 (listO p.ys p.m) [(p.it,iterO p.l p.i),(p.cf,dicO e p.hs p.ts p.ep),(p.cell,cellO (.str p.nm p.tn)),(p.a,tupO [.str p.k p.tk,.str p.v p.tv])]=true:=by kernel_rfl
theorem del_rest5 (p:DP) (e:List (Str×Value)):apart1 (listO p.ys p.m) [(p.it,iterO p.l p.i),(p.cf,dicO e p.hs p.ts p.ep),(p.cell,cellO (.str p.nm p.tn))]=true:=by kernel_rfl
theorem del_tl (p:DP) (e:List (Str×Value)):apartB [(p.l,listO p.xs p.n),(p.it,iterO p.l p.i),(p.cf,dicO e p.hs p.ts p.ep),(p.cell,cellO (.str p.nm p.tn)),(p.a,tupO [.str p.k p.tk,.str p.v p.tv])]=true:=by kernel_rfl
theorem del_tl5 (p:DP) (e:List (Str×Value)):apartB [(p.l,listO p.xs p.n),(p.it,iterO p.l p.i),(p.cf,dicO e p.hs p.ts p.ep),(p.cell,cellO (.str p.nm p.tn))]=true:=by kernel_rfl
section
variable {prog:Program} {w:World}
theorem del_facts5 {sh:Shared} {p:DP} {e:List (Str×Value)} (H:OwnAll 277 sh (delD5 p e)) (hne:p.l≠p.acc):Facts 277 sh (delD5 p e):=
 .cons H.1.1 H.1.2 (ne_cons hne (ne_apart H.1.1 H.2.2 (del_rest5 p e))) (.of H.2 (del_tl5 p e))
theorem del_facts {sh:Shared} {p:DP} {e:List (Str×Value)} (H:OwnAll 277 sh (delD p e)) (hne:p.l≠p.acc):Facts 277 sh (delD p e):=
 .cons H.1.1 H.1.2 (ne_cons hne (ne_apart H.1.1 H.2.2 (del_rest p e))) (.of H.2 (del_tl p e))
theorem kne_tup_list (xs:Array Value) (n:Nat):kne (listO xs n).cls (.type "tuple")=true:=by kernel_rfl
theorem kne_tup_iter (l i:Nat):kne (iterO l i).cls (.type "tuple")=true:=by kernel_rfl
theorem kne_tup_dict (e hs ts ep):kne (dicO e hs ts ep).cls (.type "tuple")=true:=by kernel_rfl
noncomputable def delMu (p:DP) (b:Nat):Prop:=b=p.acc∨b=p.it∨b=p.cf
theorem del_noTup {sh:Shared} {p:DP} {e:List (Str×Value)} (H:OwnAll 277 sh (delD5 p e)):NoTup sh (delMu p):=by
 rintro b (rfl | rfl | rfl) xs h
 ·exact ne_of (o:=listO p.ys p.m) (o':=tupO xs) H.1.1 h (kne_tup_list _ _) rfl
 ·exact ne_of (o:=iterO p.l p.i) (o':=tupO xs) H.2.2.1.1 h (kne_tup_iter _ _) rfl
 ·exact ne_of (o:=dicO e p.hs p.ts p.ep) (o':=tupO xs) H.2.2.2.1.1 h (kne_tup_dict _ _ _ _) rfl
theorem del_step {A:Around} {sh:Shared} {p:DP} {e:List (Str×Value)} {Q:Result→Shared→Prop} {ys:Array Value} {m:Nat} {R:Rs} (F:Facts 277 sh (delD p e)) (hz:277≤sh.heap.objs.size) (q:delLoop p ys m R)
  (h: ∀ sh' hs ts ep,Ext (delMu p) sh sh'→OwnAll 277 sh' (delD5 {p with i:=p.i+1,ys:=ys,m:=m,hs:=hs,ts:=ts,ep:=ep} [("kv",.ref p.a)])→codeAny (model prog w) A (delLC p.it p.acc p.fr p.cf p.cell) Q sh'):
  Ok (sv prog w A Q sh.heap (inD (delD p e)) sh.os sh.toks) R:=by
 refine CLoop.ok q fun sh' q S=>?_
 refine x2 q fun q1 q2=>?_; clear q
 have X:=S.only (sh:=sh) rfl rfl rfl F (cs:= [true,false,true,true,false,false]) (q1.trans rfl)
 refine h sh' _ _ _ (X.weak fun b hb=>?_) (S.all rfl rfl hz F q2)
 rcases hb with hb | hb | hb | hb
 ·exact .inl hb
 ·exact .inr (.inl hb)
 ·exact .inr (.inr hb)
 ·exact hb.elim
theorem del_loop {A:Around} (Rm:Room 2 A) (rest:List Nat): ∀ (rrest:List Row) {sh:Shared} (T:Top w sh) (p:DP) (hp:p.P=w.params) (hg:p.prog=prog) (e:List (Str×Value)) (he:KvEnt e) (H:OwnAll 277 sh (delD5 p e)) (hne:p.l≠p.acc)
  (hx: ∀ j,p.xs[p.i+j]? =(rest[j]?).map Value.ref) (hr:RowsAt sh rest rrest) (ok: ∀ r∈rrest,OkRow r) (hsz:p.ys.size+rest.length≤100),
  codeAny (model prog w) A (delLC p.it p.acc p.fr p.cf p.cell) (fun r sh'=>r= .ok .next∧Ext (delMu p) sh sh'∧
   ∃ m' e' hs ts ep,KvEnt e'∧OwnAll 277 sh' [(p.acc,listO (p.ys++refsA (selR (fun r=>neS (lowS r.1) p.nm) rest rrest)) m'),(p.cf,dicO e' hs ts ep)]) sh:=by
 induction rest with
 | nil=>
  intro rrest sh T p hp hg e he H hne hx hr ok hsz
  subst hg
  refine walk_code T Rm rfl (del_facts5 H hne) 150 [3,1] fun K t hK=>?_
  have q:=del_e (p:=p) he K t
  rw [hp] at q
  revert q
  show delE p e (runC p.prog w.params 150 (delLC p.it p.acc p.fr p.cf p.cell) [3,1] (delD5 p e) K t)→_
  generalize runC p.prog w.params 150 (delLC p.it p.acc p.fr p.cf p.cell) [3,1] (delD5 p e) K t=R
  intro q
  refine CLast.ok q Rm T.size (by simpa using hx 0) fun e1 R' q=>?_
  refine CEnd.ok q fun sh' q S=>?_
  have X:=(S.only (sh:=sh) rfl rfl rfl (del_facts5 H hne) q).weak (mu':=fun b=>b=p.it) fun b h=>by
   rcases h with h | h
   ·exact h
   ·exact h.elim
  have k1: ∀ {a:Nat} {o:Obj},sh.heap.get? a=some o→kne (iterO p.l p.i).cls o.cls=true→sh'.heap.get? a=some o:=fun h h1=>X.keep _ _ h (ne_of H.2.2.1.1 h h1)
  refine ⟨rfl,X.weak fun b h=>.inr (.inl h),p.m,e,p.hs,p.ts,p.ep,he,⟨⟨?_,H.1.2⟩,⟨k1 H.2.2.2.1.1 (by kernel_rfl),H.2.2.2.1.2⟩,trivial⟩⟩
  show sh'.heap.get? p.acc=some (listO (p.ys++ #[]) p.m)
  rw [Array.append_empty]
  exact k1 H.1.1 (by kernel_rfl)
 | cons a rest ih=>
  intro rrest sh T p hp hg e he H hne hx hr ok hsz
  subst hg
  cases hr with
  | @cons _ r _ rs ha hr=>
  refine x11 ha fun h1 tk tv h2=>?_; clear ha
  let p':DP:= {p with a:=a,k:=r.1,v:=r.2,tk:=tk,tv:=tv}
  have H':OwnAll 277 sh (delD p' e):=⟨H.1,H.2.1,H.2.2.1,H.2.2.2.1,H.2.2.2.2.1,⟨h2,h1⟩,trivial⟩
  have F:=del_facts H' hne
  have okr:=ok r List.mem_cons_self
  have hz:277≤sh.heap.objs.size:=T.l7
  have h0:p.xs[p.i]? =some (.ref a):=by simpa using hx 0
  refine walk_code T Rm rfl F 150 [3,1] fun K t hK=>?_
  have q1:=del_t1 (p:=p') he K t
  have q0:=del_t0 (p:=p') he K t
  rw [show p'.P=w.params from hp] at q1 q0
  revert q1 q0
  show delT1 p' (runC p.prog w.params 150 (delLC p.it p.acc p.fr p.cf p.cell) [3,1] (delD p' e) K t)→delT0 p' (runC p.prog w.params 150 (delLC p.it p.acc p.fr p.cf p.cell) [3,1] (delD p' e) K t)→_
  generalize runC p.prog w.params 150 (delLC p.it p.acc p.fr p.cf p.cell) [3,1] (delD p' e) K t=R
  intro q1 q0
  have go: ∀ (ys:Array Value) (m:Nat) (R:Rs),delLoop p' ys m R→ys.size≤p.ys.size+1→(ys++refsA (selR (fun r=>neS (lowS r.1) p.nm) rest rs)=p.ys++refsA (selR (fun r=>neS (lowS r.1) p.nm) (a::rest) (r::rs)))→
    Ok (sv p.prog w A (fun r' sh'=>r'= .ok .next∧Ext (delMu p) sh sh'∧∃ m' e' hs ts ep,KvEnt e'∧OwnAll 277 sh' [(p.acc,listO (p.ys++refsA (selR (fun r=>neS (lowS r.1) p.nm) (a::rest) (r::rs))) m'),(p.cf,dicO e' hs ts ep)]) sh.heap (inD (delD p' e)) sh.os sh.toks) R:=by
   intro ys m R q hys hsel
   refine del_step F hz q fun sh' hs ts ep X O=>?_
   have hsz':p.ys.size+(rest.length+1)≤100:=hsz
   refine codeAny_mono (ih rs (T.ext X ?_) {p' with i:=p.i+1,ys:=ys,m:=m,hs:=hs,ts:=ts,ep:=ep} hp rfl [("kv",.ref a)] rfl O hne ?_ (hr.ext X (del_noTup H)) (fun r h=>ok r (List.mem_cons_of_mem _ h)) (by show ys.size+rest.length≤100; lia)) fun r' sh'' hq=>?_
   ·rintro b (rfl | rfl | rfl)
    ·exact H.1.2
    ·exact H.2.2.1.2
    ·exact H.2.2.2.1.2
   ·intro j
    have:=hx (j+1)
    rw [List.getElem?_cons_succ] at this
    rw [←this]
    show p.xs[p.i+1+j]? =_
    rw [show p.i+1+j=p.i+(j+1) by lia]
   ·refine x26 hq fun g1 g2 m' e' hs' ts' ep' g3 g4=>?_; clear hq
    refine ⟨g1,X.trans g2,m',e',hs',ts',ep',g3,?_⟩
    rw [←hsel]
    exact g4
  cases hb:neS (lowS r.1) p.nm with
  | true=>
   refine CNext.ok q1 Rm T.size h0 fun R' q=>?_
   refine CCall.ok (fun zz=>True) q Rm T.size (fun s sh1 B zz S T1 RB=>?_) fun t' R' zz q=>?_
   ·exact codeAny_mono (lower_spec (names7_9 okr.1) T1 RB tk) fun r' sh' hq=>x0 hq fun t' h1 h2=>⟨t',h1,trivial,h2,.nil⟩
   refine CExt.ok q Rm T.size (fun sh1 B zz T1 RB=>?_) fun R' q=>?_
   ·have z:=ne_spec (prog:=p.prog) (lowS r.1) p.nm T1 RB t' p.tn
    rw [hb] at z
    exact z
   refine CApp.ok q Rm T.size (by show p.ys.size≤1000; lia) fun R' q=>?_
   refine go _ _ R' q (by show (p.ys.push _).size≤_; simp) ?_
   show p.ys.push (.ref a)++_=_
   simp [selR,hb,refsA]
  | false=>
   refine CNext.ok q0 Rm T.size h0 fun R' q=>?_
   refine CCall.ok (fun zz=>True) q Rm T.size (fun s sh1 B zz S T1 RB=>?_) fun t' R' zz q=>?_
   ·exact codeAny_mono (lower_spec (names7_9 okr.1) T1 RB tk) fun r' sh' hq=>x0 hq fun t' h1 h2=>⟨t',h1,trivial,h2,.nil⟩
   refine CExt.ok q Rm T.size (fun sh1 B zz T1 RB=>?_) fun R' q=>?_
   ·have z:=ne_spec (prog:=p.prog) (lowS r.1) p.nm T1 RB t' p.tn
    rw [hb] at z
    exact z
   refine go _ _ R' q (by show p.ys.size≤_; lia) ?_
   show p.ys++_=_
   simp [selR,hb]
end
structure LX where
 ys:Array Value
 m:Nat
 kv:Option Value
 hs:Nat→Int
 ts:Nat→Nat
 ep:Nat
noncomputable instance LX.rx:Rx LX:=⟨fun k=>.all fun x:LX=>.and (k {x with kv:=none}) (.all fun v=>k {x with kv:=some v}),fun h x=>match x with
 | ⟨y0,y1,none,y3,y4,y5⟩=>(h ⟨y0,y1,none,y3,y4,y5⟩).1
 | ⟨y0,y1,some v,y3,y4,y5⟩=>(h ⟨y0,y1,none,y3,y4,y5⟩).2 v⟩
noncomputable def kvE:Option Value→List (Str×Value)
 | none=> []
 | some v=> [("kv",v)]
noncomputable def delC (h:Nat) (s:Str) (tk:Nat):Code:=.call (.ref 142) ⟨[.ref h,.str s tk],[]⟩
noncomputable def delDP (p:HP) (xs:Array Value) (nm:Str) (tn:Nat) (s:St):DP:= {prog:=p.prog,P:=p.P,it:=aOf s 5,l:=p.l,i:=0,n:=p.n,xs:=xs,cf:=aOf s 7,hs:=hsOf (dOf s 7),ts:=tsOf (dOf s 7),ep:=epOf (dOf s 7),acc:=aOf s 6,ys:= #[],m:=epOf (dOf s 6),cell:=aOf s 4,nm:=nm,tn:=tn,fr:=aOf s 3,a:=0,k:=nm,tk:=0,v:=nm,tv:=0}
noncomputable def hD1:List Nat:= [0,0,4,4,5,5,0,0,4,1,0,0,0,1,0,0,0,1,0,0,0,0,1,2,5,1]
noncomputable def hD3:Bool→List Nat
 | true=> [5,5,4,1,0,0,0,0,1,0,0,0,1,1,0,2,3,3,0,3,0,6,0,1]
 | false=> [5,5,4,1,0,0,0,0,1,0,0,0,1,1,0,2,3,3,0,3,0,6,0,6,6,0,6,0,6,1]
noncomputable def hD4:Option Value→List Nat
 | none=> [7,4,1,0,0,0,0,1,0,0,0,1,1,0,2,3,3,1]
 | some _=> [7,7,7,4,1,0,0,0,0,1,0,0,0,1,1,0,2,3,3,1]
noncomputable def delFT (b1:Bool) (p:HP) (xs:Array Value) (s0:Str) (tk:Nat):Rs→Prop:=
 CCall (X:=Nat) (fun zz=>lowerC s0 tk) (fun zz=>True) (fun t=>.ok (.ret (.str (lowS s0) t))) [] (fun zz=> []) [0,1] fun t=>
  CExt (convC (lowS s0) true p.h t) (.ok (.ret (.str (lowS s0) t))) (hD3 b1)<|
  CSw (X:=LX) (fun s=>delLC (aOf s 5) (aOf s 6) (aOf s 3) (aOf s 7) (aOf s 4))
   (fun s=>pick [6,2,5,7,4] s.D=delD5 (delDP p xs (lowS s0) t s) []∧(getD s.D 5).isSome=true∧(getD s.D 6).isSome=true∧(getD s.D 7).isSome=true∧(getD s.D 2).isSome=true∧aOf s 2=p.l)
   (fun zz=>.ok .next) [false,false,false,false,false,true,true,true] (fun s x=> [(aOf s 6,listO x.ys x.m),(aOf s 7,dicO (kvE x.kv) x.hs x.ts x.ep)]) (fun x=>hD4 x.kv) fun x=>
  CSw (X:=Nat) (fun s=>.call (.builtin "list.__setitem__") ⟨[.ref p.l,.ref (aOf s 7),.ref (aOf s 5)],[]⟩)
   (fun s=>pick [2,7,5] s.D= [(p.l,listO xs p.n),(aOf s 7,sliceO .none .none .none),(aOf s 5,listO x.ys x.m)]∧(getD s.D 2).isSome=true∧aOf s 2=p.l∧(getD s.D 5).isSome=true)
   (fun zz=>.ok (.ret .none)) [false,false,true] (fun s n'=> [(p.l,listO x.ys n')]) (fun zz=> []) fun n'=>
  CEnd (.ok (.ret .none)) fun s=>keepD [false,false,true] s.D=keepD [false,false,true] (hdD p xs)∧pick [7] s.D= [(p.l,listO x.ys n')]
noncomputable instance delFT.rf {b1:Bool} {p:HP} {xs:Array Value} {s0:Str} {tk:Nat} {R:Rs} :Rf (delFT b1 p xs s0 tk R):=by
 delta delFT; infer_instance
theorem delFT_0 (b1 b2:Bool) (p:HP) (xs:Array Value) (s0:Str) (tk K t:Nat):delFT b1 p xs s0 tk (runC p.prog (pset b1 b2 p.P) 250 (delC p.h s0 tk) hD1 (hdD p xs) K t):=by
 revert b1 b2; exact Rf.prove _ (by kernel_rfl)
theorem delFT_run (p:HP) (xs:Array Value) (s0:Str) (tk K t:Nat):delFT (itw p.P) p xs s0 tk (runC p.prog p.P 250 (delC p.h s0 tk) hD1 (hdD p xs) K t):=
 pset_two (X:=fun b1 zz P=>delFT b1 p xs s0 tk (runC p.prog P 250 (delC p.h s0 tk) hD1 (hdD p xs) K t)) fun b1 b2=>delFT_0 b1 b2 p xs s0 tk K t
theorem hd_noTup' {sh:Shared} (p:HP) (xs:Array Value) (H:OwnAll 277 sh (hdD p xs)):NoTup sh (inD (hdD p xs)):=by
 rintro b (rfl | rfl | rfl | h) ys e
 ·exact ne_of (o:=instO p.d) (o':=tupO ys) H.1.1 e (by kernel_rfl) rfl
 ·exact ne_of (o:=dicO [("_headers",.ref p.l)] p.hs p.ts p.ep) (o':=tupO ys) H.2.1.1 e (by kernel_rfl) rfl
 ·exact ne_of (o:=listO xs p.n) (o':=tupO ys) H.2.2.1.1 e (by kernel_rfl) rfl
 ·exact h.elim
theorem lx_apart (a b:Nat) (ys:Array Value) (m:Nat) (e:List (Str×Value)) (hs ts ep):apartB [(a,listO ys m),(b,dicO e hs ts ep)]=true:=by kernel_rfl
theorem apart_of {V:Sv} {s:St} {sh:Shared} (S:Sat V s sh) {i j:Nat} (hi:(getD s.D i).isSome=true) (hj:(getD s.D j).isSome=true) (h:Nat.beq i j=false):aOf s i≠aOf s j:=by
 intro e
 have:=S.apart i j _ _ (aOf_get hi) (aOf_get hj) e
 subst this
 rw [Nat.beq_refl] at h
 cases h
theorem kvE_of {e:List (Str×Value)} (h:KvEnt e): ∃ kv,e=kvE kv:=by
 match e,h with
 | [],_=>exact ⟨none,rfl⟩
 | [(_,v)],rfl=>exact ⟨some v,rfl⟩
theorem del_spec {prog:Program} {w:World} {A:Around} (Rm:Room 3 A) {sh:Shared} (T:Top w sh) {h d l n:Nat} {refs:List Nat} {rows:List Row} (H:HdrAt sh h d l) (hl:sh.heap.get? l=some (listO (refsA refs) n)) (hL:277≤l) (hr:RowsAt sh refs rows) (ok: ∀ r∈rows,OkRow r) (hn:refs.length≤100) {s0:Str} (hs0:s0∈names9) (tk:Nat):
  codeAny (model prog w) A (delC h s0 tk) (fun r sh'=>r= .ok (.ret .none)∧Ext (fun b=>b=l) sh sh'∧∃ n',sh'.heap.get? l=some (listO (refsA (selR (fun r=>neS (lowS r.1) (lowS s0)) refs rows)) n')) sh:=by
 refine x8 H.dict fun hs tts ep hdd=>?_
 let p:HP:=⟨prog,w.params,h,d,l,n,hs,tts,ep⟩
 have O:OwnAll 277 sh (hdD p (refsA refs)):=⟨⟨H.inst,H.hL⟩,⟨hdd,H.dL⟩,⟨hl,hL⟩,trivial⟩
 have F:Facts 277 sh (hdD p (refsA refs)):=.of O (hd_apart _ _)
 have hz:277≤sh.heap.objs.size:=T.l7
 refine walk_code T Rm rfl F 250 hD1 fun K t hK=>?_
 have q:=delFT_run p (refsA refs) s0 tk K t
 revert q
 show delFT (itw w.params) p (refsA refs) s0 tk (runC prog w.params 250 (delC h s0 tk) hD1 (hdD p (refsA refs)) K t)→_
 generalize runC prog w.params 250 (delC h s0 tk) hD1 (hdD p (refsA refs)) K t=R
 intro q
 refine CCall.ok (fun zz=>True) q Rm T.size (fun s sh1 B zz S T1 RB=>?_) fun t1 R' zz q=>?_
 ·exact codeAny_mono (lower_spec hs0 T1 RB tk) fun r' sh' hq=>x0 hq fun t' h1 h2=>⟨t',h1,trivial,h2,.nil⟩
 refine CExt.ok q Rm T.size (fun sh1 B zz T1 RB=>conv_spec (b:=true) (lows5_N (low_names9 hs0)) T1 RB _ _) fun R' q=>?_
 refine CSw.ok (fun x=>x.ys=refsA (selR (fun r=>neS (lowS r.1) (lowS s0)) refs rows)) q Rm T.size (fun s sh1 B pre S T1 RB=>?_) fun x R' hx q=>?_
 ·refine x24 pre fun pre g5 g6 g7 g2 e2=>?_
  have X:=S.ext (sh₀:=sh) rfl rfl
  have O1:=S.all rfl rfl hz F pre
  have hne:p.l≠aOf s 6:=by rw [←e2]; exact apart_of S g2 g6 rfl
  refine codeAny_mono (del_loop RB refs rows T1 (delDP p (refsA refs) (lowS s0) t1 s) rfl rfl [] trivial O1 hne (fun j=>by show (refsA refs)[0+j]? =_; simp [refsA]) (hr.ext X (hd_noTup' p _ O)) ok (by show 0+refs.length≤100; lia)) fun r' sh' hq=>?_
  refine x26 hq fun h1 h2 m' e' hs' ts' ep' h3 h4=>?_; clear hq
  refine x1 (kvE_of h3) fun kv hr1=>?_; subst hr1
  refine ⟨⟨_,m',kv,hs',ts',ep'⟩,h1,Array.empty_append,h2.weak fun b hb=>?_,.of h4 (lx_apart _ _ _ _ _ _ _ _),fun y hy=>.inr ?_⟩
  ·rcases hb with rfl | rfl | rfl
   ·exact chA_at g6 rfl
   ·exact chA_at g5 rfl
   ·exact chA_at g7 rfl
  ·rcases List.mem_cons.mp hy with rfl | hy
   ·exact chA_at g6 rfl
   ·rcases List.mem_cons.mp hy with rfl | hy
    ·exact chA_at g7 rfl
    ·cases hy
 refine CSw.ok (fun zz=>True) q Rm T.size (fun s sh1 B pre S T1 RB=>?_) fun n' R' zz q=>?_
 ·refine x13 pre fun pre g2 e2 g5=>?_
  refine x7 (S.all rfl rfl hz F pre) fun o1 l1 o2 l2 o3 l3 zz=>?_
  have hne:p.l≠aOf s 5:=by rw [←e2]; exact apart_of S g2 g5 rfl
  have hlen:(selR (fun r=>neS (lowS r.1) (lowS s0)) refs rows).length≤refs.length:=selR_sub.length_le
  refine codeAny_mono (setslice_spec S.gens T1.toks o1 o2 o3 hne (by simp [refsA]; exact hn) (by rw [hx]; simp [refsA]; lia)) fun r' sh' hq=>x27 hq fun h1 h2 n' h3=>?_
  have ch:chA [false,false,true] s.D p.l:=by rw [←e2]; exact chA_at g2 rfl
  refine ⟨n',h1,trivial,h2.weak fun b hb=>by rw [hb]; exact ch,.of ⟨⟨h3,l1⟩,trivial⟩ (by kernel_rfl),fun y hy=>.inr ?_⟩
  rcases List.mem_cons.mp hy with rfl | hy
  ·exact ch
  ·cases hy
 refine CEnd.ok q fun sh' q S=>?_
 refine x2 q fun q1 q2=>?_; clear q
 refine x3 (S.all rfl rfl hz F q2) fun o1 l1 zz=>?_
 refine ⟨rfl,(S.only (sh:=sh) rfl rfl rfl F q1).weak fun b hb=>?_,n',?_⟩
 ·rcases hb with hb | hb
  ·exact hb
  ·exact hb.elim
 ·rw [←hx]; exact o1
noncomputable def takeF (j k:Nat) (nm:Str):Bool:=takesB j (lowS nm) != (k==1)
noncomputable def hasL (lw:Str) (ss:List (Str×Nat)):Bool:=ss.any fun x=>lowS x.1==lw
noncomputable def namesF (f:Str→Bool):List (Str×Nat)→List (Str×Nat)→List (Str×Nat)
 | [],acc=>acc
 | x::l,acc=>match f x.1 with
  | true=>(match hasL (lowS x.1) acc with
   | true=>namesF f l acc
   | false=>namesF f l (acc++ [x]))
  | false=>namesF f l acc
structure NamesOk (ss:List (Str×Nat)):Prop where
 nd:(ss.map fun x=>lowS x.1).Nodup
 ok: ∀ x∈ss,x.1∈names7
theorem nodup_len {α:Type} [DecidableEq α]: ∀ (l m:List α),l.Nodup→(∀ x∈l,x∈m)→l.length≤m.length
 | [],_,_,_=>Nat.zero_le _
 | a::l,m,h,hs=>by
  have ha:=hs a List.mem_cons_self
  have h':=List.nodup_cons.mp h
  have z:=nodup_len l (m.erase a) h'.2 fun x hx=>(List.mem_erase_of_ne (fun e=>h'.1 (by rw [←e]; exact hx))).mpr (hs x (List.mem_cons_of_mem _ hx))
  rw [List.length_erase_of_mem ha] at z
  have:0<m.length:=List.length_pos_of_mem ha
  show l.length+1≤m.length
  lia
theorem NamesOk.len {ss:List (Str×Nat)} (h:NamesOk ss):ss.length≤5:=by
 have z:=nodup_len _ lows5 h.nd fun x hx=>by
  refine x0 (List.mem_map.mp hx) fun y hy hr1=>?_; subst hr1
  exact low_names9 (names7_9 (h.ok y hy))
 simpa [lows5] using z
theorem hasL_false {lw:Str} {ss:List (Str×Nat)} (h:hasL lw ss=false):lw ∉ ss.map fun x=>lowS x.1:=by
 intro hm
 refine x0 (List.mem_map.mp hm) fun y hy e=>?_
 have:hasL lw ss=true:=List.any_eq_true.mpr ⟨y,hy,by simpa using e⟩
 rw [h] at this
 cases this
theorem NamesOk.add {ss:List (Str×Nat)} {x:Str×Nat} (h:NamesOk ss) (hx:x.1∈names7) (hn:hasL (lowS x.1) ss=false):NamesOk (ss++ [x]):=by
 refine ⟨?_,fun y hy=>?_⟩
 ·rw [List.map_append,List.nodup_append]
  refine ⟨h.nd,by simp,fun a ha b hb=>?_⟩
  simp only [List.map_cons,List.map_nil,List.mem_singleton] at hb
  subst hb
  rintro rfl
  exact hasL_false hn ha
 ·rcases List.mem_append.mp hy with hy | hy
  ·exact h.ok y hy
  ·rw [List.mem_singleton.mp hy]; exact hx
theorem strsP_app (a b:List (Str×Nat)):strsP (a++b)=strsP a++strsP b:=by
 induction a with
 | nil=>rfl
 | cons x l ih=>show _::strsP (l++b)=_::strsP l++strsP b; rw [ih]; rfl
theorem strsP_len (a:List (Str×Nat)):(strsP a).length=a.length:=by
 induction a with
 | nil=>rfl
 | cons x l ih=>show (strsP l).length+1=_; rw [ih]; rfl
theorem strsP_mem {a:List (Str×Nat)} {y:Value} (h:y∈strsP a): ∃ x∈a,y= .str x.1 x.2:=by
 induction a with
 | nil=>cases h
 | cons x l ih=>
  rcases List.mem_cons.mp h with rfl | h
  ·exact ⟨x,List.mem_cons_self,rfl⟩
  ·refine x0 (ih h) fun z hz e=>?_
   exact ⟨z,List.mem_cons_of_mem _ hz,e⟩
noncomputable def isS (s:Str) (y:Value):Bool:=match y with
 | .str a _=>a==s
 | _=>false
theorem strsP_any (s:Str) (a:List (Str×Nat)):(strsP a).any (isS s)=a.any fun x=>x.1==s:=by
 induction a with
 | nil=>rfl
 | cons x l ih=>show (x.1==s || (strsP l).any (isS s))=_; rw [ih]; rfl
theorem lowP_any (s:Str) (ss:List (Str×Nat)) (ts:List Nat):((lowP ss ts).any fun x=>x.1==s)=hasL s ss:=by
 have e:=strsP_low ss ts
 have:((lowP ss ts).any fun x=>x.1==s)=((lowP ss ts).map (·.1)).any (· ==s):=by rw [List.any_map]; rfl
 rw [this,e,List.any_map]
 rfl
section
variable {prog:Program} {w:World}
theorem wp_notin {A:Around} {sh:Shared} {l n t:Nat} {s:Str} {ps:List (Str×Nat)} (h:sh.heap.get? l=some (listO (strsP ps).toArray n)) {Q:Value→Shared→Prop} {E:Value→Shared→Prop} (hq:Q (.bool (!(ps.any fun x=>x.1==s))) sh):
  wpAny (model prog w) A (compareOp .NotIn (.str s t) (.ref l)) Q E sh:=by
 refine PySem.SeqAt.notIn_listAt (isS s) (isList h) (fun y hy=>?_) ?_
 ·refine x0 (strsP_mem (by simpa using hy)) fun x zz hr2=>?_; subst hr2
  exact (PyProof.Rows.eqGives_str _ _ _ _).at _ _
 ·have:(strsP ps).toArray.any (isS s)=ps.any fun x=>x.1==s:=by
   rw [←strsP_any]; simp
  rw [this]
  exact hq
theorem r1A_all (p:RP) {b:Bool} (hk:p.k<4) (h:(b != (p.k==1))=false) (e:Option Value) (K t:Nat):r1A p b (r1Run p p.P e K t):=by
 exact kbE (P:=fun k b=>r1A {p with k:=k} b (r1Run {p with k:=k} p.P e K t)) (r1A_0f p e K t) (r1A_1t p e K t) (r1A_2f p e K t) (r1A_3f p e K t) hk h
theorem r1B_all (p:RP) {b:Bool} (hk:p.k<4) (h:(b != (p.k==1))=true) (e:Option Value) (K t:Nat):r1B p b (r1Run p p.P e K t):=by
 exact kbN (P:=fun k b=>r1B {p with k:=k} b (r1Run {p with k:=k} p.P e K t)) (r1B_0t p e K t) (r1B_1f p e K t) (r1B_2t p e K t) (r1B_3t p e K t) hk h
theorem r1G_all (p:RP) {b:Bool} (hk:p.k<4) (h:(b != (p.k==1))=true) (e:Option Value) (K t:Nat):r1G p b (r1Run p p.P e K t):=by
 exact kbN (P:=fun k b=>r1G {p with k:=k} b (r1Run {p with k:=k} p.P e K t)) (r1G_0t p e K t) (r1G_1f p e K t) (r1G_2t p e K t) (r1G_3t p e K t) hk h
structure R1I (sh:Shared) (p:RP) (e:Option Value):Prop where
 own:OwnAll 277 sh (r1D p e)
 ne:p.l≠p.nl
theorem R1I.facts {sh:Shared} {p:RP} {e:Option Value} (H:R1I sh p e):Facts 277 sh (r1D p e):=by
 refine x9 H.own fun o1 l1 o2 l2 o3 l3 o4 l4 zz=>?_
 refine .cons o1 l1 (ne_cons (ne_of o1 o2 (by kernel_rfl)) (ne_cons (ne_of o1 o3 (by kernel_rfl)) (ne_cons (ne_of o1 o4 (by kernel_rfl)) ne_nil))) ?_
 refine .cons o2 l2 (ne_cons (ne_of o2 o3 (by kernel_rfl)) (ne_cons (Ne.symm H.ne) ne_nil)) ?_
 exact .cons o3 l3 (ne_cons (ne_of o3 o4 (by kernel_rfl)) ne_nil) (.cons o4 l4 ne_nil .nil)
noncomputable def r1Mu (p:RP) (b:Nat):Prop:=b=p.it∨b=p.fr∨b=p.nl
theorem ru1_loop {A:Around} (Rm:Room 2 A) {j:Nat} (hj:j<6) (rest:List (Str×Nat)): ∀ {sh:Shared} (T:Top w sh) (p:RP) (hp:p.P=w.params) (hg:p.prog=prog) (hk:p.k<4) (e:Option Value) (ss:List (Str×Nat)) (hys:p.ys=(strsP ss).toArray) (hss:NamesOk ss) (H:R1I sh p e)
  (hpl: ∃ n ts,sh.heap.get? p.pl=some (listO (strsA (partS j) ts).toArray n)) (hplL:277≤p.pl) (d1:p.pl≠p.nl) (d2:p.pl≠p.l) (hx: ∀ i,p.xs[p.i+i]? =(rest[i]?).map fun x=>Value.str x.1 x.2) (hr: ∀ x∈rest,x.1∈names7),
  codeAny (model prog w) A (r1C p) (fun r sh'=>r= .ok .next∧Ext (r1Mu p) sh sh'∧∃ (e':Option Value) (nn':Nat) (hs:Nat→Int) (ts:Nat→Nat) (ep:Nat),(e'=none→rest= []∧e=none)∧
   OwnAll 277 sh' [(p.fr,ruF {p with hs:=hs,ts:=ts,ep:=ep} (nameE e')),(p.nl,listO (strsP (namesF (takeF j p.k) rest ss)).toArray nn')]) sh:=by
 induction rest with
 | nil=>
  intro sh T p hp hg hk e ss hys hss H hpl hplL d1 d2 hx hr
  subst hg
  have F:=H.facts
  refine walk_code T Rm rfl F 200 [1,1] fun K t hK=>?_
  have q:=r1E_0 p e K t
  rw [hp] at q
  revert q
  show r1E p e (runC p.prog w.params 200 (r1C p) [1,1] (r1D p e) K t)→_
  generalize runC p.prog w.params 200 (r1C p) [1,1] (r1D p e) K t=R
  intro q
  refine CLast.ok q Rm T.size (by simpa using hx 0) fun e1 R' q=>?_
  refine CEnd.ok q fun sh' q S=>?_
  have X:=(S.only (sh:=sh) rfl rfl rfl F q).weak (mu':=fun b=>b=p.it) fun b h=>by
   rcases h with h | h
   ·exact h
   ·exact h.elim
  refine x9 H.own fun o1 l1 o2 l2 o3 l3 o4 l4 zz=>?_
  refine ⟨rfl,X.weak fun b h=>.inl h,e,p.nn,p.hs,p.ts,p.ep,fun h=>⟨rfl,h⟩,⟨X.keep _ _ o3 (ne_of o1 o3 (by kernel_rfl)),l3⟩,⟨?_,l4⟩,trivial⟩
  have:=X.keep _ _ o4 (ne_of o1 o4 (by kernel_rfl))
  rw [hys] at this
  exact this
 | cons x rest ih=>
  intro sh T p hp hg hk e ss hys hss H hpl hplL d1 d2 hx hr
  subst hg
  obtain ⟨nm,tn⟩:=x
  let p':RP:= {p with nm:=nm,tn:=tn}
  have H':R1I sh p' e:=⟨H.own,H.ne⟩
  have F:=H'.facts
  have hz:277≤sh.heap.objs.size:=T.l7
  have okn:nm∈names7:=hr (nm,tn) List.mem_cons_self
  have h0:p.xs[p.i]? =some (.str nm tn):=by simpa using hx 0
  refine x9 H.own fun o1 l1 o2 l2 o3 l3 o4 l4 zz=>?_
  refine x23 hpl fun np tp opl=>?_; clear hpl
  have plno: ¬ inD (r1D p' e) p.pl:=by
   rintro (q | q | q | q | q)
   ·exact ne_of o1 opl (by kernel_rfl) q
   ·exact d2 q
   ·exact ne_of o3 opl (by kernel_rfl) q
   ·exact d1 q
   ·exact q
  have fin: ∀ (ss':List (Str×Nat)) (nn:Nat) (R:Rs),NamesOk ss'→namesF (takeF j p.k) rest ss'=namesF (takeF j p.k) ((nm,tn)::rest) ss→r1Loop p' (strsP ss').toArray nn R→
    Ok (sv p.prog w A (fun r sh'=>r= .ok .next∧Ext (r1Mu p) sh sh'∧∃ (e':Option Value) (nn':Nat) (hs:Nat→Int) (ts:Nat→Nat) (ep:Nat),(e'=none→(nm,tn)::rest= []∧e=none)∧
     OwnAll 277 sh' [(p.fr,ruF {p with hs:=hs,ts:=ts,ep:=ep} (nameE e')),(p.nl,listO (strsP (namesF (takeF j p.k) ((nm,tn)::rest) ss)).toArray nn')]) sh.heap (inD (r1D p' e)) sh.os sh.toks) R:=by
   intro ss' nn R hok hsel q
   refine CLoop.ok q fun sh' q S=>?_
   refine x2 q fun q1 q2=>?_; clear q
   have X:=(S.only (sh:=sh) rfl rfl rfl F (cs:= [true,false,true,true]) (q1.trans rfl)).weak (mu':=r1Mu p) fun b hb=>by
    rcases hb with hb | hb | hb | hb
    ·exact .inl hb
    ·exact .inr (.inl hb)
    ·exact .inr (.inr hb)
    ·exact hb.elim
   refine x7 (S.all rfl rfl hz F q2) fun a1 m1 a2 m2 a3 m3 zz=>?_
   have a4:sh'.heap.get? p.l=some (listO p.xs p.n):=X.keep _ _ o2 (by
    rintro (q | q | q)
    ·exact ne_of o1 o2 (by kernel_rfl) q
    ·exact ne_of o3 o2 (by kernel_rfl) q
    ·exact H.ne q)
   have a5:sh'.heap.get? p.pl=some (listO (strsA (partS j) tp).toArray np):=X.keep _ _ opl (by
    rintro (q | q | q)
    ·exact ne_of o1 opl (by kernel_rfl) q
    ·exact ne_of o3 opl (by kernel_rfl) q
    ·exact d1 q)
   refine codeAny_mono (ih (T.ext X ?_) {p with i:=p.i+1,hs:=_,ts:=_,ep:=_,ys:=(strsP ss').toArray,nn:=nn} hp rfl hk (some (.str nm tn)) ss' rfl hok ⟨⟨⟨a1,l1⟩,⟨a4,l2⟩,⟨a2,l3⟩,⟨a3,l4⟩,trivial⟩,H.ne⟩ ⟨np,tp,a5⟩ hplL d1 d2 ?_ (fun x hx=>hr x (List.mem_cons_of_mem _ hx))) fun r' sh'' hq=>?_
   ·rintro b (rfl | rfl | rfl)
    ·exact l1
    ·exact l3
    ·exact l4
   ·intro i
    have:=hx (i+1)
    rw [List.getElem?_cons_succ] at this
    rw [←this]
    show p.xs[p.i+1+i]? =_
    rw [show p.i+1+i=p.i+(i+1) by lia]
   ·refine x26 hq fun g1 g2 e' nn' hs' ts' ep' g3 g4=>?_; clear hq
    cases e' with
    | none=>exact absurd (g3 rfl).2 (fun h=>nomatch h)
    | some v=>
     refine ⟨g1,X.trans g2,some v,nn',hs',ts',ep',(fun h=>nomatch h),?_⟩
     rw [←hsel]
     exact g4
  have nextOk : ∀ (b : Bool) (hh : List Nat) (P : Rs → Prop) (R : Rs), b = takesB j (lowS nm) → r1Next p' b hh P R → (∀ R', P R' → Ok (sv p.prog w A (fun r sh' => r = .ok .next ∧ Ext (r1Mu p) sh sh' ∧ ∃ (e' : Option Value) (nn' : Nat) (hs : Nat → Int) (ts : Nat → Nat) (ep : Nat), (e' = none → (nm, tn) :: rest = [] ∧ e = none) ∧
     OwnAll 277 sh' [(p.fr,ruF {p with hs:=hs,ts:=ts,ep:=ep} (nameE e')),(p.nl,listO (strsP (namesF (takeF j p.k) ((nm,tn)::rest) ss)).toArray nn')]) sh.heap (inD (r1D p' e)) sh.os sh.toks) R')→
    Ok (sv p.prog w A (fun r sh'=>r= .ok .next∧Ext (r1Mu p) sh sh'∧∃ (e':Option Value) (nn':Nat) (hs:Nat→Int) (ts:Nat→Nat) (ep:Nat),(e'=none→(nm,tn)::rest= []∧e=none)∧
     OwnAll 277 sh' [(p.fr,ruF {p with hs:=hs,ts:=ts,ep:=ep} (nameE e')),(p.nl,listO (strsP (namesF (takeF j p.k) ((nm,tn)::rest) ss)).toArray nn')]) sh.heap (inD (r1D p' e)) sh.os sh.toks) R:=by
   intro b hh P R hb q hP
   refine CNext.ok q Rm T.size h0 fun R' q=>?_
   refine CCall.ok (fun zz=>True) q Rm T.size (fun s sh1 B zz S T1 RB=>?_) fun t' R' zz q=>?_
   ·exact codeAny_mono (lower_spec (names7_9 okn) T1 RB tn) fun r' sh' hq=>x0 hq fun t' h1 h2=>⟨t',h1,trivial,h2,.nil⟩
   refine CExt.ok q Rm T.size (fun sh1 B S T1 RB=>?_) hP
   have X:=S.ext (sh₀:=sh) rfl rfl
   have z:=takes_spec (prog:=p.prog) hj (low_names9 (names7_9 okn)) T1 RB (X.keep _ _ opl plno) hplL p.tm t'
   rw [←hb] at z
   exact z
  refine walk_code T Rm rfl F 200 [1,1] fun K t hK=>?_
  let b:=takesB j (lowS nm)
  cases hb:(b != (p.k==1)) with
  | false=>
   have q:=r1A_all p' hk hb e K t
   rw [show p'.P=w.params from hp] at q
   revert q
   show r1A p' b (runC p.prog w.params 200 (r1C p) [1,1] (r1D p' e) K t)→_
   generalize runC p.prog w.params 200 (r1C p) [1,1] (r1D p' e) K t=R
   intro q
   refine nextOk b _ _ R rfl q fun R' q=>?_
   refine fin ss p.nn R' hss ?_ (by rw [←hys]; exact q)
   show _=(match takeF j p.k nm with
    | true=>_
    | false=>_)
   rw [show takeF j p.k nm=false from hb]
  | true=>
   have common : ∀ (nb : Bool) (hh : List Nat) (P : Rs → Prop) (R : Rs), nb = !(hasL (lowS nm) ss) → r1BC p' b nb hh P R → (∀ R', P R' → Ok (sv p.prog w A (fun r sh' => r = .ok .next ∧ Ext (r1Mu p) sh sh' ∧ ∃ (e' : Option Value) (nn' : Nat) (hs : Nat → Int) (ts : Nat → Nat) (ep : Nat), (e' = none → (nm, tn) :: rest = [] ∧ e = none) ∧
      OwnAll 277 sh' [(p.fr,ruF {p with hs:=hs,ts:=ts,ep:=ep} (nameE e')),(p.nl,listO (strsP (namesF (takeF j p.k) ((nm,tn)::rest) ss)).toArray nn')]) sh.heap (inD (r1D p' e)) sh.os sh.toks) R')→
     Ok (sv p.prog w A (fun r sh'=>r= .ok .next∧Ext (r1Mu p) sh sh'∧∃ (e':Option Value) (nn':Nat) (hs:Nat→Int) (ts:Nat→Nat) (ep:Nat),(e'=none→(nm,tn)::rest= []∧e=none)∧
      OwnAll 277 sh' [(p.fr,ruF {p with hs:=hs,ts:=ts,ep:=ep} (nameE e')),(p.nl,listO (strsP (namesF (takeF j p.k) ((nm,tn)::rest) ss)).toArray nn')]) sh.heap (inD (r1D p' e)) sh.os sh.toks) R:=by
    intro nb hh P R hnb q hP
    refine nextOk b _ _ R rfl q fun R' q=>?_
    refine CCall.ok (fun zz=>True) q Rm T.size (fun s sh1 B zz S T1 RB=>?_) fun t2 R' zz q=>?_
    ·exact codeAny_mono (lower_spec (names7_9 okn) T1 RB tn) fun r' sh' hq=>x0 hq fun t' h1 h2=>⟨t',h1,trivial,h2,.nil⟩
    refine CSw.ok (fun x=>∃ ts,x.xs=(strsP (lowP ss ts)).toArray) q Rm T.size (fun s sh1 B pre S T1 RB=>?_) fun x R' hx' q=>?_
    ·refine x24 pre fun pre g3 e3 g4 g5 g6=>?_
     refine x9 (S.all rfl rfl hz F pre) fun c1 k1 c2 k2 c3 k3 c4 k4 zz=>?_
     have hne:aOf s 5≠p.nl:=by rw [←e3]; exact apart_of S g5 g3 rfl
     have c1':sh1.heap.get? p.nl=some (listO (strsP ss).toArray p.nn):=by rw [←hys]; exact c1
     let cp:CP:=⟨p.prog,w.params,aOf s 4,aOf s 5,p.fr,aOf s 6,p.nl,p.nn,epOf (dOf s 6),hsOf (dOf s 6),tsOf (dOf s 6)⟩
     refine codeAny_mono (comp_spec (RB.mono (Nat.le_refl _)) T1 cp rfl rfl ss hss.len (fun x hx=>names7_9 (hss.ok x hx)) ⟨⟨c1',k1⟩,⟨c2,k2⟩,⟨c3,k3⟩,⟨c4,k4⟩,trivial⟩ hne) fun r' sh' hq=>?_
     refine x31 hq fun h1 h2 ts ee kv hs tt ep h3 h4 h5=>?_; clear hq
     have n56:aOf s 6≠aOf s 5:=apart_of S g6 g5 rfl
     have mk: ∀ kvo:Option Value,kv=oneE kvo→∃ x:CX,r'= .ok .next∧(∃ ts,x.xs=(strsP (lowP ss ts)).toArray)∧Ext (chA csC s.D) sh1 sh'∧Facts 277 sh' [(aOf s 5,listO x.xs x.e),(aOf s 6,dicO (oneE x.kv) x.hs x.ts x.ep)]∧∀ y∈ [(aOf s 5,listO x.xs x.e),(aOf s 6,dicO (oneE x.kv) x.hs x.ts x.ep)],sh1.heap.objs.size≤y.1∨chA csC s.D y.1:=by
      intro kvo e
      subst e
      refine ⟨⟨_,ee,kvo,hs,tt,ep⟩,h1,⟨ts,rfl⟩,h2.weak fun b hb=>?_,.cons h3 k3 (ne_cons n56 ne_nil) (.cons h5 k4 ne_nil .nil),fun y hy=>.inr ?_⟩
      ·rcases hb with rfl | rfl | rfl
       ·exact chA_at g4 rfl
       ·exact chA_at g5 rfl
       ·exact chA_at g6 rfl
      ·rcases List.mem_cons.mp hy with rfl | hy
       ·exact chA_at g5 rfl
       ·rcases List.mem_cons.mp hy with rfl | hy
        ·exact chA_at g6 rfl
        ·cases hy
     rcases h4 with h4 | ⟨v,h4⟩
     ·exact mk none h4
     ·exact mk (some v) h4
    refine CCut.ok (fun zz=>True) q Rm T.size (fun s sh1 B pre S T1 RB=>?_) fun zz R' zz q=>hP R' q
    refine x3 (S.all rfl rfl hz F pre) fun c1 k1 zz=>?_
    refine x1 hx' fun ts hx'=>?_
    rw [hx'] at c1
    refine wp_notin c1 ⟨(),?_,trivial,S.lg []⟩
    rw [lowP_any,hnb]
   cases hl:hasL (lowS nm) ss with
   | true=>
    have q:=r1B_all p' hk hb e K t
    rw [show p'.P=w.params from hp] at q
    revert q
    show r1B p' b (runC p.prog w.params 200 (r1C p) [1,1] (r1D p' e) K t)→_
    generalize runC p.prog w.params 200 (r1C p) [1,1] (r1D p' e) K t=R
    intro q
    refine common false _ _ R (by rw [hl]; rfl) q fun R' q=>?_
    refine fin ss p.nn R' hss ?_ (by rw [←hys]; exact q)
    show _=(match takeF j p.k nm with
     | true=>(match hasL (lowS nm) ss with
      | true=>_
      | false=>_)
     | false=>_)
    rw [show takeF j p.k nm=true from hb,hl]
   | false=>
    have q:=r1G_all p' hk hb e K t
    rw [show p'.P=w.params from hp] at q
    revert q
    show r1G p' b (runC p.prog w.params 200 (r1C p) [1,1] (r1D p' e) K t)→_
    generalize runC p.prog w.params 200 (r1C p) [1,1] (r1D p' e) K t=R
    intro q
    refine common true _ _ R (by rw [hl]; rfl) q fun R' q=>?_
    refine CApp.ok q Rm T.size (by
     show p.ys.size≤1000
     rw [hys]
     have:=hss.len
     simp [strsP_len]; lia) fun R' q=>?_
    have happ:(strsP (ss++ [(nm,tn)])).toArray=p.ys.push (.str nm tn):=by
     rw [hys,strsP_app]
     simp [strsP]
    refine fin (ss++ [(nm,tn)]) (p.nn+1) R' (hss.add okn hl) ?_ (by rw [happ]; exact q)
    show _=(match takeF j p.k nm with
     | true=>(match hasL (lowS nm) ss with
      | true=>_
      | false=>_)
     | false=>_)
    rw [show takeF j p.k nm=true from hb,hl]
end
noncomputable def setC (h:Nat) (s:Str) (tk:Nat) (v:Str) (tv:Nat):Code:=.call (.ref 137) ⟨[.ref h,.str s tk,.str v tv],[]⟩
noncomputable def hS1:List Nat:= [0,0,4,4,4,4,4,4,0,0,4,4,1,0,1,0,0,0,0,1]
noncomputable def hS2:List Nat:= [3,1,0,0,0,0,1,0,0,0,1,1,0,2,4,4,4,4,3,1,0,0,0,1,0,0,0,1,0,0,0,0,1,2,3,0,1]
noncomputable def hS3:List Nat:= [3,1,0,0,0,1,0,0,0,1,0,0,0,0,1,2,3,0,1]
noncomputable def setFT (p:HP) (xs ys:Array Value) (s0:Str) (tk:Nat) (v:Str) (tv:Nat):Rs→Prop:=
 CSw (X:=Nat) (fun zz=>delC p.h s0 tk) (fun s=>pick [0,1,2] s.D=hdD p xs∧(getD s.D 2).isSome=true∧aOf s 2=p.l) (fun zz=>.ok (.ret .none)) [false,false,true] (fun zz n'=> [(p.l,listO ys n')]) (fun zz=>hS2) fun n'=>
  CExt (convC s0 true p.h tk) (.ok (.ret (.str s0 tk))) hS3<|CExt (convC v false p.h tv) (.ok (.ret (.str v tv))) [1]<|
  CSw (X:=Nat) (fun s=>.call (.builtin "list.append") ⟨[.ref p.l,.ref (aOf s 4)],[]⟩) (fun s=>pick [3] s.D= [(p.l,listO ys n')]∧(getD s.D 3).isSome=true∧aOf s 3=p.l) (fun zz=>.ok (.ret .none)) [false,false,false,true]
   (fun s m'=> [(p.l,listO (ys.push (.ref (aOf s 4))) m')]) (fun zz=> []) fun m'=>
  CEnd (.ok (.ret .none)) fun s=>keepD [false,false,true] s.D=keepD [false,false,true] (hdD p xs)∧pick [3,4] s.D= [(aOf s 3,tupO [.str s0 tk,.str v tv]),(p.l,listO (ys.push (.ref (aOf s 3))) m')]∧
   ((getD s.D 0).isSome=true∧aOf s 0=p.h)∧((getD s.D 1).isSome=true∧aOf s 1=p.d)∧((getD s.D 4).isSome=true∧aOf s 4=p.l)∧(getD s.D 3).isSome=true
noncomputable instance setFT.rf {p:HP} {xs ys:Array Value} {s0:Str} {tk:Nat} {v:Str} {tv:Nat} {R:Rs} :Rf (setFT p xs ys s0 tk v tv R):=by
 delta setFT; infer_instance
theorem setFT_run (p:HP) (xs ys:Array Value) (s0:Str) (tk:Nat) (v:Str) (tv:Nat) (K t:Nat):setFT p xs ys s0 tk v tv (runC p.prog p.P 250 (setC p.h s0 tk v tv) hS1 (hdD p xs) K t):=pset_all (X:=fun P=>setFT p xs ys s0 tk v tv (runC p.prog P 250 (setC p.h s0 tk v tv) hS1 (hdD p xs) K t)) (by intro b1; exact Rf.prove _ (by kernel_rfl))
theorem inD_hd {p:HP} {xs:Array Value} {b:Nat} (h:inD (hdD p xs) b):b=p.h∨b=p.d∨b=p.l:=by
 rcases h with h | h | h | h
 ·exact .inl h
 ·exact .inr (.inl h)
 ·exact .inr (.inr h)
 ·exact h.elim
theorem set_spec {prog:Program} {w:World} {A:Around} (Rm:Room 4 A) {sh:Shared} (T:Top w sh) {h d l n:Nat} {refs:List Nat} {rows:List Row} (H:HdrAt sh h d l) (hl:sh.heap.get? l=some (listO (refsA refs) n)) (hL:277≤l) (hr:RowsAt sh refs rows) (ok: ∀ r∈rows,OkRow r) (hn:refs.length≤100) {s0 v:Str} (hs0:s0∈names7) (hv:v∈vals6) (tk tv:Nat):
  codeAny (model prog w) A (setC h s0 tk v tv) (fun r sh'=>r= .ok (.ret .none)∧Ext (fun b=>b=l) sh sh'∧∃ a n',sh.heap.objs.size≤a∧RowAt sh' a (s0,v)∧sh'.heap.get? l=some (listO (refsA (selR (fun r=>neS (lowS r.1) (lowS s0)) refs rows++ [a])) n')) sh:=by
 refine x8 H.dict fun hs tts ep hdd=>?_
 let p:HP:=⟨prog,w.params,h,d,l,n,hs,tts,ep⟩
 have O:OwnAll 277 sh (hdD p (refsA refs)):=⟨⟨H.inst,H.hL⟩,⟨hdd,H.dL⟩,⟨hl,hL⟩,trivial⟩
 have F:Facts 277 sh (hdD p (refsA refs)):=.of O (hd_apart _ _)
 have hz:277≤sh.heap.objs.size:=T.l7
 let kept:=selR (fun r=>neS (lowS r.1) (lowS s0)) refs rows
 have hlen:kept.length≤refs.length:=selR_sub.length_le
 refine walk_code T Rm rfl F 250 hS1 fun K t hK=>?_
 have q:=setFT_run p (refsA refs) (refsA kept) s0 tk v tv K t
 revert q
 show setFT p (refsA refs) (refsA kept) s0 tk v tv (runC prog w.params 250 (setC h s0 tk v tv) hS1 (hdD p (refsA refs)) K t)→_
 generalize runC prog w.params 250 (setC h s0 tk v tv) hS1 (hdD p (refsA refs)) K t=R
 intro q
 refine CSw.ok (fun zz=>True) q Rm T.size (fun s sh1 B pre S T1 RB=>?_) fun n' R' zz q=>?_
 ·refine x4 pre fun pre g2 e2=>?_
  have X:=S.ext (sh₀:=sh) rfl rfl
  refine x7 (S.all rfl rfl hz F pre) fun o1 l1 o2 l2 o3 l3 zz=>?_
  have ch:chA [false,false,true] s.D p.l:=by rw [←e2]; exact chA_at g2 rfl
  refine codeAny_mono (del_spec RB T1 (l:=l) (n:=n) (refs:=refs) (rows:=rows) ⟨o1,⟨_,_,_,o2⟩,l1,l2⟩ o3 l3 (hr.ext X (hd_noTup' p _ O)) ok hn (names7_9 hs0) tk) fun r' sh' hq=>x27 hq fun h1 h2 n' h3=>?_
  refine ⟨n',h1,trivial,h2.weak fun b hb=>by rw [hb]; exact ch,.of ⟨⟨h3,l3⟩,trivial⟩ (by kernel_rfl),fun y hy=>.inr ?_⟩
  rcases List.mem_cons.mp hy with rfl | hy
  ·exact ch
  ·cases hy
 refine CExt.ok q Rm T.size (fun sh1 B zz T1 RB=>conv_spec (b:=true) (okN_of hs0) T1 RB _ _) fun R' q=>?_
 refine CExt.ok q Rm T.size (fun sh1 B zz T1 RB=>conv_spec (b:=false) (okV_of hv) T1 RB _ _) fun R' q=>?_
 refine CSw.ok (fun zz=>True) q Rm T.size (fun s sh1 B pre S T1 RB=>?_) fun m' R' zz q=>?_
 ·refine x4 pre fun pre g3 e3=>?_
  refine x3 (S.all rfl rfl hz F pre) fun o1 l1 zz=>?_
  have ch:chA [false,false,false,true] s.D p.l:=by rw [←e3]; exact chA_at g3 rfl
  refine codeAny_mono (append_spec S.gens T1.toks o1 (by simp [refsA]; lia)) fun r' sh' hq=>x4 hq fun h1 h2 h3=>?_
  refine ⟨_,h1,trivial,h2.weak fun b hb=>by rw [hb]; exact ch,.of ⟨⟨h3,l1⟩,trivial⟩ (by kernel_rfl),fun y hy=>.inr ?_⟩
  rcases List.mem_cons.mp hy with rfl | hy
  ·exact ch
  ·cases hy
 refine CEnd.ok q fun sh' q S=>?_
 refine x46 q fun q1 q2 g0 e0 g1 e1 g4 e4 g3=>?_; clear q
 refine x6 (S.all rfl rfl hz F q2) fun o1 l1 o2 l2 zz=>?_
 refine ⟨rfl,(S.only (sh:=sh) rfl rfl rfl F q1).weak fun b hb=>?_,aOf (stOf R') 3,m',?_,⟨l1,tk,tv,o1⟩,?_⟩
 ·rcases hb with hb | hb
  ·exact hb
  ·exact hb.elim
 ·rcases S.muD 3 _ (aOf_get g3) with q | q
  ·rcases inD_hd q with q | q | q
   ·exact absurd (q.trans e0.symm) (apart_of S g3 g0 rfl)
   ·exact absurd (q.trans e1.symm) (apart_of S g3 g1 rfl)
   ·exact absurd (q.trans e4.symm) (apart_of S g3 g4 rfl)
  ·exact q
 ·have:refsA (kept++ [aOf (stOf R') 3])=(refsA kept).push (.ref (aOf (stOf R') 3)):=by simp [refsA]
  show sh'.heap.get? l=some (listO (refsA (kept++ [aOf (stOf R') 3])) m')
  rw [this]
  exact o2
structure R2X where
 l2:Nat
 n2:Nat
 xs2:Array Value
 d2:Nat
noncomputable def r2D (p:RP) (x:R2X) (e:Option Value):List (Nat×Obj):= [(p.it,iterO p.nl p.i),(p.nl,listO p.ys p.nn),(p.fr,ruF p (nameE e)),(p.h2,instO x.d2),(x.l2,listO x.xs2 x.n2)]
noncomputable def r2C (p:RP):Code:=ruC ruFor2 p.it p.fr
noncomputable def r2Loop (p:RP) (x:R2X) (xs:Array Value) (n:Nat):Rs→Prop:=
 CLoop (r2C p) fun s=>keepD [true,false,true,false,true] s.D= [(p.nl,listO p.ys p.nn),(p.h2,instO x.d2)]∧
  pick [0,2,4] s.D= [(p.it,iterO p.nl (p.i+1)),(p.fr,ruF {p with hs:=hsOf (dOf s 2),ts:=tsOf (dOf s 2),ep:=epOf (dOf s 2)} [("name",.str p.nm p.tn)]),(x.l2,listO xs n)]
noncomputable instance r2Loop.rf {p:RP} {x:R2X} {xs:Array Value} {n:Nat} {R:Rs} :Rf (r2Loop p x xs n R):=by
 delta r2Loop; infer_instance
noncomputable def r2Del (p:RP) (x:R2X):Rs→Prop:=
 CNext p.it p.nl p.i p.nn p.ys 0 1 (.str p.nm p.tn) [3,3,3,0,0,3,3,4,0,4,0,0,0,0,1]<|
  CSw (X:=Array Value×Nat) (fun zz=>delC p.h2 p.nm p.tn) (fun s=>pick [3,4] s.D= [(p.h2,instO x.d2),(x.l2,listO x.xs2 x.n2)]∧(getD s.D 4).isSome=true∧aOf s 4=x.l2) (fun zz=>.ok (.ret .none)) [false,false,false,false,true]
   (fun zz y=> [(x.l2,listO y.1 y.2)]) (fun zz=> [1]) fun y=>r2Loop p x y.1 y.2
noncomputable instance r2Del.rf {p:RP} {x:R2X} {R:Rs} :Rf (r2Del p x R):=by
 delta r2Del; infer_instance
structure R2Y where
 xs:Array Value
 n:Nat
 a:Nat
 tk:Nat
 tv:Nat
noncomputable def r2LoopS (p:RP) (x:R2X) (y:R2Y):Rs→Prop:=
 CLoop (r2C p) fun s=>keepD [true,false,true,false,true] s.D= [(p.nl,listO p.ys p.nn),(p.h2,instO x.d2)]∧
  pick [0,2,4,5] s.D= [(p.it,iterO p.nl (p.i+1)),(p.fr,ruF {p with hs:=hsOf (dOf s 2),ts:=tsOf (dOf s 2),ep:=epOf (dOf s 2)} [("name",.str p.nm p.tn)]),(x.l2,listO y.xs y.n),(y.a,tupO [.str p.nm y.tk,.str sn y.tv])]
noncomputable instance r2LoopS.rf {p:RP} {x:R2X} {y:R2Y} {R:Rs} :Rf (r2LoopS p x y R):=by
 delta r2LoopS; infer_instance
noncomputable def r2Set (p:RP) (x:R2X):Rs→Prop:=
 CNext p.it p.nl p.i p.nn p.ys 0 1 (.str p.nm p.tn) [3,3,3,0,0,3,0,0,3,3,4,0,4,0,0,0,0,1]<|
  CSw (X:=R2Y) (fun s=>setC p.h2 p.nm p.tn sn (Nat.add s.tb 3)) (fun s=>pick [3,4] s.D= [(p.h2,instO x.d2),(x.l2,listO x.xs2 x.n2)]∧(getD s.D 4).isSome=true∧aOf s 4=x.l2) (fun zz=>.ok (.ret .none)) [false,false,false,false,true]
   (fun zz y=> [(x.l2,listO y.xs y.n),(y.a,tupO [.str p.nm y.tk,.str sn y.tv])]) (fun zz=> [1]) fun y=>r2LoopS p x y
noncomputable instance r2Set.rf {p:RP} {x:R2X} {R:Rs} :Rf (r2Set p x R):=by
 delta r2Set; infer_instance
noncomputable def r2Non (p:RP) (x:R2X):Rs→Prop:=
 CNext p.it p.nl p.i p.nn p.ys 0 1 (.str p.nm p.tn) [3,3,3,0,0,3,0,0,1]<|r2Loop p x x.xs2 x.n2
noncomputable instance r2Non.rf {p:RP} {x:R2X} {R:Rs} :Rf (r2Non p x R):=by
 delta r2Non; infer_instance
noncomputable def r2E (p:RP) (x:R2X) (e:Option Value):Rs→Prop:=
 CLast p.it p.nl p.i p.nn p.ys 0 1 [6,0] fun zz=>CEnd (.ok .next) fun s=>keepD [true,false,false,false,false] s.D=keepD [true,false,false,false,false] (r2D p x e)
noncomputable instance r2E.rf {p:RP} {x:R2X} {e:Option Value} {R:Rs} :Rf (r2E p x e R):=by
 delta r2E; infer_instance
noncomputable abbrev r2Run (p:RP) (x:R2X) (P:Params) (e:Option Value) (K t:Nat):Rs:=runC p.prog P 200 (r2C p) [1,1] (r2D p x e) K t
theorem r2E_0 (p:RP) (x:R2X) (e:Option Value) (K t:Nat):r2E p x e (r2Run p x p.P e K t):=pset_all (X:=fun P=>r2E p x e (r2Run p x P e K t)) (by intro b1; revert e; exact Rf.prove _ (by kernel_rfl))
theorem r2Del_0 (p:RP) (x:R2X) (e:Option Value) (K t:Nat):r2Del {p with k:=0} x (r2Run {p with k:=0} x p.P e K t):=
 pset1 (X:=fun P=>r2Del {p with k:=0} x (r2Run {p with k:=0} x P e K t)) (by intro b1; revert e; exact Rf.prove _ (by kernel_rfl))
theorem r2Del_1 (p:RP) (x:R2X) (e:Option Value) (K t:Nat):r2Del {p with k:=1} x (r2Run {p with k:=1} x p.P e K t):=
 pset1 (X:=fun P=>r2Del {p with k:=1} x (r2Run {p with k:=1} x P e K t)) (by intro b1; revert e; exact Rf.prove _ (by kernel_rfl))
theorem r2Set_2 (p:RP) (x:R2X) (e:Option Value) (K t:Nat):r2Set {p with k:=2} x (r2Run {p with k:=2} x p.P e K t):=
 pset1 (X:=fun P=>r2Set {p with k:=2} x (r2Run {p with k:=2} x P e K t)) (by intro b1; revert e; exact Rf.prove _ (by kernel_rfl))
theorem r2Non_3 (p:RP) (x:R2X) (e:Option Value) (K t:Nat):r2Non {p with k:=3} x (r2Run {p with k:=3} x p.P e K t):=
 pset1 (X:=fun P=>r2Non {p with k:=3} x (r2Run {p with k:=3} x P e K t)) (by intro b1; revert e; exact Rf.prove _ (by kernel_rfl))
noncomputable def rowDel (nm:Str) (rows:List Row):List Row:=rows.filter fun r=>neS (lowS r.1) (lowS nm)
noncomputable def rowOp (k:Nat) (rows:List Row) (nm:Str):List Row:=if k<2 then rowDel nm rows else if k=2 then rowDel nm rows++ [(nm,sn)] else rows
noncomputable def rowsF (k:Nat) (names:List (Str×Nat)) (rows:List Row):List Row:=names.foldl (fun rows x=>rowOp k rows x.1) rows
theorem sn_vals:sn∈vals6:=by simp [vals6]
theorem rowOp_ok {k:Nat} {rows:List Row} {nm:Str} (h: ∀ r∈rows,OkRow r) (hn:nm∈names7): ∀ r∈rowOp k rows nm,OkRow r:=by
 intro r hr
 unfold rowOp rowDel at hr
 split at hr
 ·exact h r (List.mem_filter.mp hr).1
 ·split at hr
  ·rcases List.mem_append.mp hr with hr | hr
   ·exact h r (List.mem_filter.mp hr).1
   ·rw [List.mem_singleton.mp hr]; exact ⟨hn,sn_vals⟩
  ·exact h r hr
structure R2I (sh:Shared) (p:RP) (x:R2X) (e:Option Value):Prop where
 own:OwnAll 277 sh (r2D p x e)
 ne:p.nl≠x.l2
 dict: ∃ hs ts ep,sh.heap.get? x.d2=some (dicO [("_headers",.ref x.l2)] hs ts ep)
 dL:277≤x.d2
theorem R2I.facts {sh:Shared} {p:RP} {x:R2X} {e:Option Value} (H:R2I sh p x e):Facts 277 sh (r2D p x e):=by
 refine x18 H.own fun o1 l1 o2 l2 o3 l3 o4 l4 o5 l5 zz=>?_
 refine .cons o1 l1 (ne_cons (ne_of o1 o2 (by kernel_rfl)) (ne_cons (ne_of o1 o3 (by kernel_rfl)) (ne_cons (ne_of o1 o4 (by kernel_rfl)) (ne_cons (ne_of o1 o5 (by kernel_rfl)) ne_nil)))) ?_
 refine .cons o2 l2 (ne_cons (ne_of o2 o3 (by kernel_rfl)) (ne_cons (ne_of o2 o4 (by kernel_rfl)) (ne_cons (Ne.symm H.ne) ne_nil))) ?_
 exact .cons o3 l3 (ne_cons (ne_of o3 o4 (by kernel_rfl)) (ne_cons (ne_of o3 o5 (by kernel_rfl)) ne_nil)) (.cons o4 l4 (ne_cons (ne_of o4 o5 (by kernel_rfl)) ne_nil) (.cons o5 l5 ne_nil .nil))
noncomputable def r2Mu (p:RP) (x:R2X) (b:Nat):Prop:=b=p.it∨b=p.fr∨b=x.l2
section
variable {prog:Program} {w:World}
theorem ru2_loop {A:Around} (Rm:Room 5 A) (rest:List (Str×Nat)): ∀ {sh:Shared} (T:Top w sh) (p:RP) (x:R2X) (hp:p.P=w.params) (hg:p.prog=prog) (hk:p.k<4) (e:Option Value) (H:R2I sh p x e) (refs:List Nat) (rows:List Row) (hxs:x.xs2=refsA refs)
  (hr:RowsAt sh refs rows) (ok: ∀ r∈rows,OkRow r) (hn:refs.length+rest.length≤100) (nd:refs.Nodup) (hx: ∀ i,p.ys[p.i+i]? =(rest[i]?).map fun x=>Value.str x.1 x.2) (hrn: ∀ x∈rest,x.1∈names7),
  codeAny (model prog w) A (r2C p) (fun r sh'=>r= .ok .next∧Ext (r2Mu p x) sh sh'∧∃ (e':Option Value) (hs:Nat→Int) (ts:Nat→Nat) (ep:Nat) (refs':List Nat) (n':Nat),(e'=none→rest= []∧e=none)∧
   OwnAll 277 sh' [(p.fr,ruF {p with hs:=hs,ts:=ts,ep:=ep} (nameE e')),(x.l2,listO (refsA refs') n')]∧RowsAt sh' refs' (rowsF p.k rest rows)∧refs'.Nodup∧(∀ a∈refs',a∈refs∨sh.heap.objs.size≤a)∧(p.k≠2→∀ a∈refs',a∈refs)) sh:=by
 induction rest with
 | nil=>
  intro sh T p x hp hg hk e H refs rows hxs hr ok hn nd hx hrn
  subst hg
  have F:=H.facts
  refine walk_code T Rm rfl F 200 [1,1] fun K t hK=>?_
  have q:=r2E_0 p x e K t
  rw [hp] at q
  revert q
  show r2E p x e (runC p.prog w.params 200 (r2C p) [1,1] (r2D p x e) K t)→_
  generalize runC p.prog w.params 200 (r2C p) [1,1] (r2D p x e) K t=R
  intro q
  refine CLast.ok q Rm T.size (by simpa using hx 0) fun e1 R' q=>?_
  refine CEnd.ok q fun sh' q S=>?_
  have X:=(S.only (sh:=sh) rfl rfl rfl F q).weak (mu':=fun b=>b=p.it) fun b h=>by
   rcases h with h | h
   ·exact h
   ·exact h.elim
  refine x18 H.own fun o1 l1 o2 l2 o3 l3 o4 l4 o5 l5 zz=>?_
  have o5':=X.keep _ _ o5 (ne_of o1 o5 (by kernel_rfl))
  rw [hxs] at o5'
  exact ⟨rfl,X.weak fun b h=>.inl h,e,p.hs,p.ts,p.ep,refs,x.n2,fun h=>⟨rfl,h⟩,⟨⟨X.keep _ _ o3 (ne_of o1 o3 (by kernel_rfl)),l3⟩,⟨o5',l5⟩,trivial⟩,hr.ext X (noTup_one o1 (by kernel_rfl) fun b h=>h),nd,fun a h=>.inl h,fun zz a h=>h⟩
 | cons y rest ih=>
  intro sh T p x hp hg hk e H refs rows hxs hr ok hn nd hx hrn
  subst hg
  obtain ⟨nm,tn⟩:=y
  let p':RP:= {p with nm:=nm,tn:=tn}
  have H':R2I sh p' x e:=⟨H.own,H.ne,H.dict,H.dL⟩
  have F:=H'.facts
  have hz:277≤sh.heap.objs.size:=T.l7
  have okn:nm∈names7:=hrn (nm,tn) List.mem_cons_self
  have h0:p.ys[p.i]? =some (.str nm tn):=by simpa using hx 0
  refine x18 H.own fun o1 l1 o2 l2 o3 l3 o4 l4 o5 l5 zz=>?_
  refine x8 H.dict fun dhs dts dep od=>?_
  have hlen:refs.length≤100:=by have:refs.length+(rest.length+1)≤100:=hn; lia
  have dno: ¬ inD (r2D p' x e) x.d2:=by
   rintro (q | q | q | q | q | q)
   ·exact ne_of o1 od (by kernel_rfl) q
   ·exact ne_of o2 od (by kernel_rfl) q
   ·exact ne_of o3 od (by kernel_rfl) q
   ·exact ne_of o4 od (by kernel_rfl) q
   ·exact ne_of o5 od (by kernel_rfl) q
   ·exact q
  have nt:NoTup sh (inD (r2D p' x e)):=by
   rintro b (rfl | rfl | rfl | rfl | rfl | hb) xs h
   ·exact ne_of (o':=tupO xs) o1 h (by kernel_rfl) rfl
   ·exact ne_of (o':=tupO xs) o2 h (by kernel_rfl) rfl
   ·exact ne_of (o':=tupO xs) o3 h (by kernel_rfl) rfl
   ·exact ne_of (o':=tupO xs) o4 h (by kernel_rfl) rfl
   ·exact ne_of (o':=tupO xs) o5 h (by kernel_rfl) rfl
   ·exact hb
  have nt2:NoTup sh (r2Mu p x):=by
   rintro b (rfl | rfl | rfl) xs h
   ·exact ne_of (o':=tupO xs) o1 h (by kernel_rfl) rfl
   ·exact ne_of (o':=tupO xs) o3 h (by kernel_rfl) rfl
   ·exact ne_of (o':=tupO xs) o5 h (by kernel_rfl) rfl
  have fin: ∀ (refs1:List Nat) (rows1:List Row) (sh':Shared) (s:St) (hs:Nat→Int) (ts:Nat→Nat) (ep n:Nat),Ext (r2Mu p x) sh sh'→RowsAt sh' refs1 rows1→(∀ r∈rows1,OkRow r)→refs1.length≤refs.length+1→refs1.Nodup→(∀ a∈refs1,a∈refs∨sh.heap.objs.size≤a)→(p.k≠2→∀ a∈refs1,a∈refs)→rowOp p.k rows nm=rows1→
    sh'.heap.get? p.it=some (iterO p.nl (p.i+1))→sh'.heap.get? p.fr=some (ruF {p with hs:=hs,ts:=ts,ep:=ep} [("name",.str nm tn)])→sh'.heap.get? x.l2=some (listO (refsA refs1) n)→
    codeAny (model p.prog w) A (r2C p) (fun r sh'=>r= .ok .next∧Ext (r2Mu p x) sh sh'∧∃ (e':Option Value) (hs:Nat→Int) (ts:Nat→Nat) (ep:Nat) (refs':List Nat) (n':Nat),(e'=none→(nm,tn)::rest= []∧e=none)∧
     OwnAll 277 sh' [(p.fr,ruF {p with hs:=hs,ts:=ts,ep:=ep} (nameE e')),(x.l2,listO (refsA refs') n')]∧RowsAt sh' refs' (rowsF p.k ((nm,tn)::rest) rows)∧refs'.Nodup∧(∀ a∈refs',a∈refs∨sh.heap.objs.size≤a)∧(p.k≠2→∀ a∈refs',a∈refs)) sh':=by
   intro refs1 rows1 sh' s hs ts ep n X hr1 ok1 hl1 nd1 hsub hsub2 hop a1 a2 a3
   have b2:sh'.heap.get? p.nl=some (listO p.ys p.nn):=X.keep _ _ o2 (by
    rintro (q | q | q)
    ·exact ne_of o1 o2 (by kernel_rfl) q
    ·exact ne_of o3 o2 (by kernel_rfl) q
    ·exact H.ne q)
   have b4:sh'.heap.get? p.h2=some (instO x.d2):=X.keep _ _ o4 (by
    rintro (q | q | q)
    ·exact ne_of o1 o4 (by kernel_rfl) q
    ·exact ne_of o3 o4 (by kernel_rfl) q
    ·exact ne_of o5 o4 (by kernel_rfl) q)
   have b5:sh'.heap.get? x.d2=some (dicO [("_headers",.ref x.l2)] dhs dts dep):=X.keep _ _ od (by
    rintro (q | q | q)
    ·exact ne_of o1 od (by kernel_rfl) q
    ·exact ne_of o3 od (by kernel_rfl) q
    ·exact ne_of o5 od (by kernel_rfl) q)
   have T':Top w sh':=T.ext X (by
    rintro b (rfl | rfl | rfl)
    ·exact l1
    ·exact l3
    ·exact l5)
   refine codeAny_mono (ih T' {p with i:=p.i+1,hs:=hs,ts:=ts,ep:=ep} {x with xs2:=refsA refs1,n2:=n} hp rfl hk (some (.str nm tn)) ⟨⟨⟨a1,l1⟩,⟨b2,l2⟩,⟨a2,l3⟩,⟨b4,l4⟩,⟨a3,l5⟩,trivial⟩,H.ne,⟨_,_,_,b5⟩,H.dL⟩ refs1 rows1 rfl hr1 ok1 (by have:refs.length+(rest.length+1)≤100:=hn; lia) nd1 ?_ (fun x hx=>hrn x (List.mem_cons_of_mem _ hx))) fun r' sh'' hq=>?_
   ·intro i
    have:=hx (i+1)
    rw [List.getElem?_cons_succ] at this
    rw [←this]
    show p.ys[p.i+1+i]? =_
    rw [show p.i+1+i=p.i+(i+1) by lia]
   ·refine x19 hq fun g1 g2 e' hs' ts' ep' refs' n' g3 g4 g5 g6 g7 g8=>?_; clear hq
    cases e' with
    | none=>exact absurd (g3 rfl).2 (fun h=>nomatch h)
    | some v=>
     refine ⟨g1,X.trans g2,some v,hs',ts',ep',refs',n',(fun h=>nomatch h),g4,?_,g6,fun a ha=>?_,fun h2 a ha=>hsub2 h2 a (g8 h2 a ha)⟩
     ·show RowsAt sh'' refs' (rowsF p.k rest (rowOp p.k rows nm))
      rw [hop]; exact g5
     ·rcases g7 a ha with h | h
      ·exact hsub a h
      ·exact .inr (Nat.le_trans X.size h)
  have hdr: ∀ {s:St} {sh1:Shared} {A':Around} {Q:Result→Shared→Prop},Sat (sv p.prog w A' Q sh.heap (inD (r2D p' x e)) sh.os sh.toks) s sh1→pick [3,4] s.D= [(p.h2,instO x.d2),(x.l2,listO x.xs2 x.n2)]→HdrAt sh1 p.h2 x.d2 x.l2∧sh1.heap.get? x.l2=some (listO (refsA refs) x.n2)∧RowsAt sh1 refs rows:=by
   intro s sh1 A' Q S pre
   have X:=S.ext (sh₀:=sh) rfl rfl
   refine x6 (S.all rfl rfl hz F pre) fun c1 k1 c2 k2 zz=>?_
   rw [hxs] at c2
   exact ⟨⟨c1,⟨_,_,_,X.keep _ _ od dno⟩,l4,H.dL⟩,c2,hr.ext X nt⟩
  have sub: ∀ {f:Row→Bool},(selR f refs rows).Nodup∧(selR f refs rows).length≤refs.length∧∀ a∈selR f refs rows,a∈refs:=fun {f} =>
   ⟨selR_sub.nodup nd,selR_sub.length_le,fun a h=>selR_sub.subset h⟩
  refine walk_code T Rm rfl F 200 [1,1] fun K t hK=>?_
  have kc:p.k<2∨p.k=2∨p.k=3:=by lia
  rcases kc with k2 | k2 | k3
  ·have q:r2Del p' x (r2Run p' x p'.P e K t):=by
    have kk:p.k=0∨p.k=1:=by lia
    rcases kk with kk | kk
    ·have z:=r2Del_0 p' x e K t
     rw [show ({p' with k:=0} :RP)=p' by rw [←kk]] at z
     exact z
    ·have z:=r2Del_1 p' x e K t
     rw [show ({p' with k:=1} :RP)=p' by rw [←kk]] at z
     exact z
   rw [show p'.P=w.params from hp] at q
   revert q
   show r2Del p' x (runC p.prog w.params 200 (r2C p) [1,1] (r2D p' x e) K t)→_
   generalize runC p.prog w.params 200 (r2C p) [1,1] (r2D p' x e) K t=R
   intro q
   refine CNext.ok q Rm T.size h0 fun R' q=>?_
   refine CSw.ok (fun y=>y.1=refsA (selR (fun r=>neS (lowS r.1) (lowS nm)) refs rows)) q Rm T.size (fun s sh1 B pre S T1 RB=>?_) fun y R' hy q=>?_
   ·refine x4 pre fun pre g4 e4=>?_
    refine x4 (hdr S pre) fun c1 c2 c3=>?_
    have ch:chA [false,false,false,false,true] s.D x.l2:=by rw [←e4]; exact chA_at g4 rfl
    refine codeAny_mono (del_spec (RB.mono (by decide)) T1 c1 c2 l5 c3 ok hlen (names7_9 okn) tn) fun r' sh' hq=>x27 hq fun h1 h2 n' h3=>?_
    refine ⟨(_,n'),h1,rfl,h2.weak fun b hb=>by rw [hb]; exact ch,.of ⟨⟨h3,l5⟩,trivial⟩ (by kernel_rfl),fun y hy=>.inr ?_⟩
    rcases List.mem_cons.mp hy with rfl | hy
    ·exact ch
    ·cases hy
   refine CLoop.ok q fun sh' q S=>?_
   refine x2 q fun q1 q2=>?_; clear q
   have X:=(S.only (sh:=sh) rfl rfl rfl F (cs:= [true,false,true,false,true]) (q1.trans rfl)).weak (mu':=r2Mu p x) fun b hb=>by
    rcases hb with hb | hb | hb | hb
    ·exact .inl hb
    ·exact .inr (.inl hb)
    ·exact .inr (.inr hb)
    ·exact hb.elim
   refine x7 (S.all rfl rfl hz F q2) fun a1 m1 a2 m2 a3 m3 zz=>?_
   rw [hy] at a3
   refine x4 (sub (f:=fun r=>neS (lowS r.1) (lowS nm))) fun s1 s2 s3=>?_
   have hop:rowOp p.k rows nm=rows.filter fun r=>neS (lowS r.1) (lowS nm):=by unfold rowOp rowDel; rw [if_pos k2]
   exact fin _ _ sh' (stOf R') _ _ _ _ X (selR_rows (hr.ext X nt2)) (hop▸rowOp_ok ok okn) (by lia) s1 (fun a h=>.inl (s3 a h)) (fun zz a h=>s3 a h) hop a1 a2 a3
  ·have q:r2Set p' x (r2Run p' x p'.P e K t):=by
    have z:=r2Set_2 p' x e K t
    rw [show ({p' with k:=2} :RP)=p' by rw [←k2]] at z
    exact z
   rw [show p'.P=w.params from hp] at q
   revert q
   show r2Set p' x (runC p.prog w.params 200 (r2C p) [1,1] (r2D p' x e) K t)→_
   generalize runC p.prog w.params 200 (r2C p) [1,1] (r2D p' x e) K t=R
   intro q
   refine CNext.ok q Rm T.size h0 fun R' q=>?_
   refine CSw.ok (fun y=>y.xs=refsA (selR (fun r=>neS (lowS r.1) (lowS nm)) refs rows++ [y.a])∧sh.heap.objs.size≤y.a) q Rm T.size (fun s sh1 B pre S T1 RB=>?_) fun y R' hy q=>?_
   ·refine x4 pre fun pre g4 e4=>?_
    refine x4 (hdr S pre) fun c1 c2 c3=>?_
    have X:=S.ext (sh₀:=sh) rfl rfl
    have ch:chA [false,false,false,false,true] s.D x.l2:=by rw [←e4]; exact chA_at g4 rfl
    refine codeAny_mono (set_spec (RB.mono (by decide)) T1 c1 c2 l5 c3 ok hlen okn sn_vals tn _) fun r' sh' hq=>x47 hq fun h1 h2 a n' h3 h4 h5=>?_
    refine x11 h4 fun m7 tk tv h6=>?_; clear h4
    refine ⟨⟨_,n',a,tk,tv⟩,h1,⟨rfl,Nat.le_trans X.size h3⟩,h2.weak fun b hb=>by rw [hb]; exact ch,.of ⟨⟨h5,l5⟩,⟨h6,m7⟩,trivial⟩ (by kernel_rfl),fun y hy=>?_⟩
    rcases List.mem_cons.mp hy with rfl | hy
    ·exact .inr ch
    ·rcases List.mem_cons.mp hy with rfl | hy
     ·exact .inl h3
     ·cases hy
   refine CLoop.ok q fun sh' q S=>?_
   refine x2 q fun q1 q2=>?_; clear q
   have X:=(S.only (sh:=sh) rfl rfl rfl F (cs:= [true,false,true,false,true]) (q1.trans rfl)).weak (mu':=r2Mu p x) fun b hb=>by
    rcases hb with hb | hb | hb | hb
    ·exact .inl hb
    ·exact .inr (.inl hb)
    ·exact .inr (.inr hb)
    ·exact hb.elim
   refine x9 (S.all rfl rfl hz F q2) fun a1 m1 a2 m2 a3 m3 a4 m4 zz=>?_
   rw [hy.1] at a3
   refine x4 (sub (f:=fun r=>neS (lowS r.1) (lowS nm))) fun s1 s2 s3=>?_
   have hop:rowOp p.k rows nm=(rows.filter fun r=>neS (lowS r.1) (lowS nm))++ [(nm,sn)]:=by
    unfold rowOp rowDel
    rw [if_neg (by lia),if_pos k2]
   have low: ∀ a∈refs,a<sh.heap.objs.size:=by
    intro a ha
    refine x1 (List.mem_iff_getElem?.mp ha) fun i hi=>?_
    refine x21 (hr.get hi) fun r zz zz zz zz q=>?_
    exact Heap.lt_size q
   refine fin _ _ sh' (stOf R') _ _ _ _ X ((selR_rows (hr.ext X nt2)).app (.cons ⟨m4,_,_,a4⟩ .nil)) (hop▸rowOp_ok ok okn) ?_ ?_ (fun a h=>?_) (fun h=>absurd k2 h) hop a1 a2 a3
   ·rw [List.length_append]; show _+1≤_; lia
   ·rw [List.nodup_append]
    refine ⟨s1,by simp,fun a ha b hb=>?_⟩
    simp only [List.mem_singleton] at hb
    subst hb
    have:=low a (s3 a ha)
    have:=hy.2
    lia
   ·rcases List.mem_append.mp h with h | h
    ·exact .inl (s3 a h)
    ·rw [List.mem_singleton.mp h]; exact .inr hy.2
  ·have q:r2Non p' x (r2Run p' x p'.P e K t):=by
    have z:=r2Non_3 p' x e K t
    rw [show ({p' with k:=3} :RP)=p' by rw [←k3]] at z
    exact z
   rw [show p'.P=w.params from hp] at q
   revert q
   show r2Non p' x (runC p.prog w.params 200 (r2C p) [1,1] (r2D p' x e) K t)→_
   generalize runC p.prog w.params 200 (r2C p) [1,1] (r2D p' x e) K t=R
   intro q
   refine CNext.ok q Rm T.size h0 fun R' q=>?_
   refine CLoop.ok q fun sh' q S=>?_
   refine x2 q fun q1 q2=>?_; clear q
   have X:=(S.only (sh:=sh) rfl rfl rfl F (cs:= [true,false,true,false,true]) (q1.trans rfl)).weak (mu':=r2Mu p x) fun b hb=>by
    rcases hb with hb | hb | hb | hb
    ·exact .inl hb
    ·exact .inr (.inl hb)
    ·exact .inr (.inr hb)
    ·exact hb.elim
   refine x7 (S.all rfl rfl hz F q2) fun a1 m1 a2 m2 a3 m3 zz=>?_
   rw [hxs] at a3
   have hop:rowOp p.k rows nm=rows:=by unfold rowOp; rw [if_neg (by lia),if_neg (by lia)]
   exact fin refs rows sh' (stOf R') _ _ _ _ X (hr.ext X nt2) ok (by lia) nd (fun a h=>.inl h) (fun zz a h=>h) hop a1 a2 a3
end
noncomputable def modC (z:Int) (tz m tm:Nat):Code:=.call (.builtin "int.__mod__") ⟨[.int z tz,.int (Int.ofNat (Nat.succ m)) tm],[]⟩
noncomputable def divC (z:Int) (tz m tm:Nat):Code:=.call (.builtin "int.__floordiv__") ⟨[.int z tz,.int (Int.ofNat (Nat.succ m)) tm],[]⟩
theorem mod_all (prog:Program) (P:Params) (z:Int) (tz m tm K t:Nat):CEnd (.ok (.ret (.int (z.fmod (Int.ofNat (Nat.succ m))) (t+849)))) (fun zz=>True) (runC prog P 10 (modC z tz m tm) [0] [] K t):=by
 refine ⟨?_,trivial⟩; kernel_rfl
theorem div_all (prog:Program) (P:Params) (z:Int) (tz m tm K t:Nat) (hm:m=3∨m=6):CEnd (.ok (.ret (.int (z.fdiv (Int.ofNat (Nat.succ m))) (t+849)))) (fun zz=>True) (runC prog P 10 (divC z tz m tm) [0] [] K t):=by
 rcases hm with rfl | rfl
 ·refine ⟨?_,trivial⟩; kernel_rfl
 ·refine ⟨?_,trivial⟩; kernel_rfl
section
variable {prog:Program} {w:World} {A:Around} {k:Nat} {sh:Shared}
theorem mod_spec (T:Top w sh) (Rm:Room k A) (z:Int) (tz m tm:Nat):codeAny (model prog w) A (modC z tz m tm) (fun r sh'=>∃ t',r= .ok (.ret (.int (z.fmod (Int.ofNat (Nat.succ m))) t'))∧Ext none_ sh sh') sh:=by
 refine walk_code T Rm rfl .nil 10 [0] fun K t hK=>?_
 exact CEnd.ok (mod_all prog w.params z tz m tm K t) fun sh' zz S=>⟨_,rfl,(S.ext (sh₀:=sh) rfl rfl).weak fun b h=>h⟩
theorem div_spec (T:Top w sh) (Rm:Room k A) (z:Int) (tz m tm:Nat) (hm:m=3∨m=6):codeAny (model prog w) A (divC z tz m tm) (fun r sh'=>∃ t',r= .ok (.ret (.int (z.fdiv (Int.ofNat (Nat.succ m))) t'))∧Ext none_ sh sh') sh:=by
 refine walk_code T Rm rfl .nil 10 [0] fun K t hK=>?_
 exact CEnd.ok (div_all prog w.params z tz m tm K t hm) fun sh' zz S=>⟨_,rfl,(S.ext (sh₀:=sh) rfl rfl).weak fun b h=>h⟩
end
noncomputable def argT (i:Nat) (c:Code):Nat:=match c with
 | .call _ a=>(match nthV a.pos i with
  | .int _ t=>t
  | .str _ t=>t
  | _=>0)
 | _=>0
where nthV:List Value→Nat→Value
 | [],_=>.none
 | x::l,i=>match Nat.beq i 0 with
  | true=>x
  | false=>nthV l (Nat.pred i)
noncomputable def CTok (f:Code→Code) (r:Nat→Result) (lo:Nat) (hs:List Nat) (P:Nat→Nat→Nat→Rs→Prop) (R:Rs):Prop:=
 obsS R=(2,dup (lgOf R),none,true,f (codeOf R))∧Nat.ble 849 (stOf R).tb=true∧Nat.ble lo (stOf R).ti=true∧∀ x K t,P x (stOf R).tb t (contOf R hs (r x) ⟨(stOf R).D,K+278,0,t+849,0,[]⟩)
noncomputable instance CTok.rf {f:Code→Code} {r:Nat→Result} {lo:Nat} {hs:List Nat} {P:Nat→Nat→Nat→Rs→Prop} {R:Rs} [∀ y1 y2 y3 y4,Rf (P y1 y2 y3 y4)]:Rf (CTok f r lo hs P R):=by
 delta CTok; infer_instance
noncomputable def CSwR {X:Type} (f:Code→St→Code) (pre:St→Prop) (r:X→Result) (cs:List Bool) (D':St→X→List (Nat×Obj)) (hs:X→List Nat) (P:X→Rs→Prop) (R:Rs):Prop:=
 CSw (fun s=>f (codeOf R) s) pre r cs D' hs P R
noncomputable instance CSwR.rf {X:Type} {f:Code→St→Code} {pre:St→Prop} {r:X→Result} {cs:List Bool} {D':St→X→List (Nat×Obj)} {hs:X→List Nat} {P:X→Rs→Prop} {R:Rs} [Rx X] [∀ y1,Rf (pre y1)] [∀ y1 y2,Rf (P y1 y2)]:Rf (CSwR f pre r cs D' hs P R):=by
 delta CSwR; infer_instance
section
variable {prog:Program} {w:World} {A:Around} {Q:Result→Shared→Prop} {h₀:Heap} {mu:Nat→Prop} {os:OsState} {t₀:Nat} {R:Rs} {k:Nat}
theorem CTok.ok {f:Code→Code} {r:Nat→Result} {lo:Nat} {hs:List Nat} {P:Nat→Nat→Nat→Rs→Prop} (H:CTok f r lo hs P R) (Rm:Room (k+1) A) (h0:278≤h₀.objs.size)
  (spec: ∀ c sh B,Top w sh→Room k B→codeAny (model prog w) B (f c) (fun r' sh'=>∃ x,r'=r x∧Ext none_ sh sh') sh)
  (h: ∀ x b t R',849≤b→b+lo≤t+849→P x b t R'→Ok (sv prog w A Q h₀ mu os t₀) R'):Ok (sv prog w A Q h₀ mu os t₀) R:=by
 refine ok_stop H.1 fun sh S B h1 h2 h3=>?_
 have T0:=topW w S rfl h0
 refine codeAny_mono (spec _ sh B T0 (Rm.down h1 h2 h3)) fun r' sh' hq=>x0 hq fun x hr X=>?_
 have hz:278≤sh'.heap.objs.size:=Nat.le_trans T0.size X.size
 have l1:=Nat.le_of_ble_eq_true H.2.1
 have l2:=Nat.le_of_ble_eq_true H.2.2.1
 have l3:=X.tk
 have l4:=X.t849
 rw [S.toks] at l3
 have q:=h x _ (sh'.toks - 849) _ l1 (by lia) (H.2.2.2 x (sh'.heap.objs.size - 278) (sh'.toks - 849))
 subst hr
 exact ⟨hs,_,S.same X (b:=sh'.heap.objs.size - 278+278) (t:=sh'.toks - 849+849) (by lia) (by lia),q⟩
end
structure UP where
 prog:Program
 P:Params
 self:Nat
 d:Nat
 l:Nat
 n:Nat
 xs:Array Value
 hs:Nat→Int
 ts:Nat→Nat
 ep:Nat
 z:Int
 tz:Nat
 o:Obj
noncomputable def uD (p:UP):List (Nat×Obj):= [(p.self,instO p.d),(p.d,dicO [("_headers",.ref p.l)] p.hs p.ts p.ep),(p.l,listO p.xs p.n),(73,p.o)]
noncomputable def uC (p:UP):Code:=.call (.ref 252) ⟨[.ref p.self,.int p.z p.tz],[]⟩
structure HdX where
 h2:Nat
 d2:Nat
 hs:Nat→Int
 ts:Nat→Nat
 ep:Nat
structure TrX where
 pl:Nat
 ts:List Nat
 e:Nat
 o:Obj
 c:Nat
 cvs:Array Value
 f:Bool
noncomputable instance TrX.rx:Rx TrX:=⟨fun k=>.all fun x:TrX=>.and (k {x with f:=false}) (k {x with f:=true}),fun h x=>match x with
 | ⟨y0,y1,y2,y3,y4,y5,false⟩=>(h ⟨y0,y1,y2,y3,y4,y5,false⟩).1
 | ⟨y0,y1,y2,y3,y4,y5,true⟩=>(h ⟨y0,y1,y2,y3,y4,y5,true⟩).2⟩
noncomputable def fN (b:Bool):Nat:=match b with
 | true=>1
 | false=>0
structure KeX where
 l3:Nat
 n3:Nat
 ks:Array Value
structure FoX where
 e:Option Value
 hs:Nat→Int
 ts:Nat→Nat
 ep:Nat
 ys:Array Value
 nn:Nat
noncomputable instance FoX.rx:Rx FoX:=⟨fun k=>.all fun x:FoX=>.and (k {x with e:=none}) (.all fun v=>k {x with e:=some v}),fun h x=>match x with
 | ⟨none,y1,y2,y3,y4,y5⟩=>(h ⟨none,y1,y2,y3,y4,y5⟩).1
 | ⟨some v,y1,y2,y3,y4,y5⟩=>(h ⟨none,y1,y2,y3,y4,y5⟩).2 v⟩
structure LoX where
 e:Option Value
 hs:Nat→Int
 ts:Nat→Nat
 ep:Nat
 xs:Array Value
 n:Nat
 rows:List (Nat×Obj)
noncomputable def csN (l:List Nat) (n:Nat):List Bool:=(List.range n).map fun i=>l.contains i
noncomputable def codeL (f:Nat) (x:TrX):List (Nat×Obj):=match f with
 | 0=> []
 | _=> [(x.c,codO x.cvs)]
noncomputable def rows2 (k:Nat) (l:List (Nat×Obj)):List (Nat×Obj):=match k with
 | 2=>l
 | _=> []
theorem rows2_ne {k:Nat} {l:List (Nat×Obj)} (h:k≠2):rows2 k l= []:=by
 match k,h with
 | 0,_=>rfl
 | 1,_=>rfl
 | _+3,_=>rfl
noncomputable def ixC (f:Nat):List Nat:=match f with
 | 0=> []
 | _=> [21]
noncomputable def h78 (j:Nat):List Nat:= [22,22,22,0,22,0,22,0,11+2 * j,11+2 * j,11+2 * j,0,11+2 * j,0,11+2 * j,0,5,0,1]
noncomputable def rp1 (p:UP) (x1 tm:Nat) (hx:HdX) (tx:TrX) (kx:KeX) (k f:Nat) (s:St):RP:=
 {prog:=p.prog,P:=p.P,it:=aOf s (25+f),l:=kx.l3,i:=0,n:=kx.n3,xs:=kx.ks,h2:=hx.h2,z:=p.z,tz:=p.tz,k:=k,tk:=x1,tm:=tm,pl:=tx.pl,nl:=aOf s (23+f),nn:=0,ys:= #[],fr:=aOf s 3,hs:=hsOf (dOf s 3),ts:=tsOf (dOf s 3),ep:=epOf (dOf s 3),nm:=⟨#[]⟩,tn:=0}
noncomputable def rp2 (p:UP) (x1 tm:Nat) (hx:HdX) (tx:TrX) (fx:FoX) (k f:Nat) (s:St):RP:=
 {prog:=p.prog,P:=p.P,it:=aOf s (25+f),l:=0,i:=0,n:=0,xs:= #[],h2:=hx.h2,z:=p.z,tz:=p.tz,k:=k,tk:=x1,tm:=tm,pl:=tx.pl,nl:=aOf s (24+f),nn:=fx.nn,ys:=fx.ys,fr:=aOf s (23+f),hs:=hsOf (dOf s (23+f)),ts:=tsOf (dOf s (23+f)),ep:=epOf (dOf s (23+f)),nm:=⟨#[]⟩,tn:=0}
noncomputable def some_ (s:St) (l:List Nat):Prop:=match l with
 | []=>True
 | i::l=>(getD s.D i).isSome=true∧some_ s l
noncomputable instance some_.rf {s:St} : ∀ {l:List Nat},Rf (some_ s l)
 | []=>⟨.tt,id⟩
 | i::l=>⟨.and (.eq (getD s.D i).isSome true) (some_.rf (l:=l)).w,fun h=>⟨h.1,(some_.rf (l:=l)).ok h.2⟩⟩
noncomputable def uA (p:UP) (k j:Nat) (P:Nat→Nat→Nat→HdX→TrX→Rs→Prop):Rs→Prop:=
 CTok (fun c=>modC p.z p.tz 3 (argT 1 c)) (fun x=>.ok (.ret (.int (Int.ofNat k) x))) 0 [5,5,0,5,1,0,0,0,1,0,0,0,1,0,0,0,0,1,2,0,1] fun x1 zz zz=>
 CSw (X:=Nat) (fun zz=>itemsC p.self) (fun s=>pick [0,1,2] s.D= [(p.self,instO p.d),(p.d,dicO [("_headers",.ref p.l)] p.hs p.ts p.ep),(p.l,listO p.xs p.n)]) (fun x=>.ok (.ret (.ref x))) [] (fun zz x=> [(x,listO p.xs 0)]) (fun zz=> [0,0,1]) fun l2=>
 CSw (X:=HdX) (fun zz=>hdrC l2) (fun s=>pick [5] s.D= [(l2,listO p.xs 0)]) (fun x=>.ok (.ret (.ref x.h2))) [] (fun zz x=> [(x.h2,instO x.d2),(x.d2,dicO [("_headers",.ref l2)] x.hs x.ts x.ep)]) (fun zz=> [5,5,5,5,0,0,0,0,0,0,0,0,5,1]) fun hx=>
 CTok (fun c=>divC p.z p.tz 3 (argT 1 c)) (fun x=>.ok (.ret (.int (p.z.fdiv 4) x))) 2 [1] fun x2 b3 t4=>
 CTok (fun c=>modC (p.z.fdiv 4) x2 5 (argT 1 c)) (fun x=>.ok (.ret (.int (Int.ofNat j) x))) 0 (h78 j) fun x3 b4 t5 R=>b4=t4+849∧
 CSwR (X:=TrX) (fun c zz=>trC j (argT 0 c) (Nat.add b3 1) (argT 2 c)) (fun s=>s.tb=t5+849∧getD s.D 3=some (73,p.o)) (fun x=>.ok (.ret (.ref x.pl))) [false,false,false,true] (fun zz x=>(x.pl,listO (strsA (partS j) x.ts).toArray x.e)::(73,x.o)::codeL (fN x.f) x)
  (fun zz=> [4,4,4,4,4,6,0,0,0,6,0,0,0,6,0,0,0,0,6,7,0,1]) (fun tx=>P x1 (Nat.add b3 1) l2 hx tx) R
noncomputable instance uA.rf {p:UP} {k j:Nat} {P:Nat→Nat→Nat→HdX→TrX→Rs→Prop} {R:Rs} [∀ y1 y2 y3 y4 y5 y6,Rf (P y1 y2 y3 y4 y5 y6)]:Rf (uA p k j P R):=by
 delta uA; infer_instance
noncomputable def uB (p:UP) (k j x1 tm l2:Nat) (hx:HdX) (tx:TrX) (f:Nat) (P:FoX→LoX→Rs→Prop):Rs→Prop:=
 CSw (X:=KeX) (fun zz=>keysC hx.h2) (fun s=>pick [4,5,6] s.D= [(l2,listO p.xs 0),(hx.h2,instO hx.d2),(hx.d2,dicO [("_headers",.ref l2)] hx.hs hx.ts hx.ep)]) (fun x=>.ok (.ret (.ref x.l3))) [] (fun zz x=> [(x.l3,listO x.ks x.n3)]) (fun zz=> [25+f,25+f,0,25+f,0,26+f,1]) fun kx=>
 CSw (X:=FoX) (fun s=>r1C (rp1 p x1 tm hx tx kx k f s)) (fun s=>pick [25+f,24+f,3,23+f] s.D=r1D (rp1 p x1 tm hx tx kx k f s) none∧pick [21] s.D= [(tx.pl,listO (strsA (partS j) tx.ts).toArray tx.e)]∧
   some_ s [25+f,24+f,3,23+f,21]∧aOf s (24+f)=kx.l3∧aOf s 21=tx.pl∧getD s.D 22=some (73,tx.o)) (fun zz=>.ok .next) (csN [3,23+f,25+f] (26+f)) (fun s x=> [(aOf s 3,ruF {rp1 p x1 tm hx tx kx k f s with hs:=x.hs,ts:=x.ts,ep:=x.ep} (nameE x.e)),(aOf s (23+f),listO x.ys x.nn)])
   (fun zz=> [24+f,25+f,25+f,0,25+f,0,26+f,1]) fun fx=>
 CSw (X:=LoX) (fun s=>r2C (rp2 p x1 tm hx tx fx k f s)) (fun s=>pick [25+f,24+f,23+f,4,3] s.D=r2D (rp2 p x1 tm hx tx fx k f s) ⟨l2,0,p.xs,hx.d2⟩ fx.e∧pick [5] s.D= [(hx.d2,dicO [("_headers",.ref l2)] hx.hs hx.ts hx.ep)]∧
   some_ s [25+f,24+f,23+f,4,3,5]∧aOf s 3=l2∧getD s.D 21=some (73,tx.o)) (fun zz=>.ok .next) (csN [3,23+f,25+f] (26+f)) (fun s x=>(aOf s (23+f),ruF {rp2 p x1 tm hx tx fx k f s with hs:=x.hs,ts:=x.ts,ep:=x.ep} (nameE x.e))::(l2,listO x.xs x.n)::rows2 k x.rows)
   (fun zz=> [24+f,0,0,24+f]) fun lx=>P fx lx
noncomputable instance uB.rf {p:UP} {k j x1 tm l2:Nat} {hx:HdX} {tx:TrX} {f:Nat} {P:FoX→LoX→Rs→Prop} {R:Rs} [∀ y1 y2 y3,Rf (P y1 y2 y3)]:Rf (uB p k j x1 tm l2 hx tx f P R):=by
 delta uB; infer_instance
noncomputable def dropN:Nat→List (Nat×Obj)→List (Nat×Obj)
 | 0,l=>l
 | _+1,[]=> []
 | n+1,_::l=>dropN n l
noncomputable def uE (p:UP) (k f l2:Nat) (hx:HdX) (tx:TrX) (xs:Array Value) (n:Nat) (rows:List (Nat×Obj)):Rs→Prop:=
 CEnd (.ok (.ret (.ref hx.h2))) fun s=>keepD [false,false,false] s.D= [(p.self,instO p.d),(p.d,dicO [("_headers",.ref p.l)] p.hs p.ts p.ep),(p.l,listO p.xs p.n)]∧
  pick [3,4,24+f,20] s.D= [(hx.h2,instO hx.d2),(hx.d2,dicO [("_headers",.ref l2)] hx.hs hx.ts hx.ep),(l2,listO xs n),(73,tx.o)]∧pick (ixC f) s.D=codeL f tx∧dropN (25+f) s.D=rows
noncomputable instance uE.rf {p:UP} {k f l2:Nat} {hx:HdX} {tx:TrX} {xs:Array Value} {n:Nat} {rows:List (Nat×Obj)} {R:Rs} :Rf (uE p k f l2 hx tx xs n rows R):=by
 delta uE; infer_instance
noncomputable def uN (p:UP) (k j:Nat):Rs→Prop:=
 uA p k j fun x1 tm l2 hx tx=>uB p k j x1 tm l2 hx tx (fN tx.f) fun fx lx=>uE p k (fN tx.f) l2 hx tx lx.xs lx.n (rows2 k lx.rows)
noncomputable instance uN.rf {p:UP} {k j:Nat} {R:Rs} :Rf (uN p k j R):=by
 delta uN; infer_instance
noncomputable def hU1:List Nat:= [0,0,5,5,5,5,0,0,5,1]
noncomputable abbrev uRun (p:UP) (P:Params) (K t:Nat):Rs:=runC p.prog P 700 (uC p) hU1 (uD p) K t
theorem pick_mem: ∀ {js:List Nat} {D:List (Nat×Obj)} {x:Nat×Obj},x∈pick js D→∃ i∈js,getD D i=some x
 | [],_,_,h=>by simp [pick] at h
 | j::js,D,x,h=>by
  unfold pick at h
  cases q:getD D j with
  | none=>
   rw [q] at h
   refine x0 (pick_mem h) fun i h1 h2=>?_
   exact ⟨i,List.mem_cons_of_mem _ h1,h2⟩
  | some y=>
   rw [q] at h
   rcases List.mem_cons.mp h with rfl | h
   ·exact ⟨j,List.mem_cons_self,q⟩
   ·refine x0 (pick_mem h) fun i h1 h2=>?_
    exact ⟨i,List.mem_cons_of_mem _ h1,h2⟩
theorem ownAll_of {lo:Nat} {sh:Shared} : ∀ {D:List (Nat×Obj)},(∀ x∈D,sh.heap.get? x.1=some x.2∧lo≤x.1)→OwnAll lo sh D
 | [],_=>trivial
 | x::l,h=>⟨h x List.mem_cons_self,ownAll_of fun y hy=>h y (List.mem_cons_of_mem _ hy)⟩
theorem Sat.all77 {V:Sv} {s:St} {sh':Shared} (S:Sat V s sh') (hm: ∀ b,V.mu b→277≤b∨b=73) (h0:277≤V.h₀.objs.size) {i7:Nat} {o:Obj} (h7:getD s.D i7=some (73,o)) {js:List Nat} {D2:List (Nat×Obj)} (e:pick js s.D=D2) (hn:i7 ∉ js):OwnAll 277 sh' D2:=by
 refine ownAll_of fun x hx=>?_
 rw [←e] at hx
 refine x0 (pick_mem hx) fun i h1 h2=>?_
 rw [getD_eq] at h2 h7
 refine ⟨S.own i x h2,?_⟩
 rcases S.muD i x h2 with q | q
 ·rcases hm _ q with q | q
  ·exact q
  ·exact absurd (S.apart i i7 x (73,o) h2 h7 q▸h1) hn
 ·lia
structure UOk (w:World) (sh:Shared) (p:UP) (refs:List Nat) (rows:List Row) (k j:Nat):Prop where
 hk:k<4
 hj:j<6
 hP:p.P=w.params
 z1:p.z.fmod (Int.ofNat (Nat.succ 3))=Int.ofNat k
 z2:(p.z.fdiv (Int.ofNat (Nat.succ 3))).fmod (Int.ofNat (Nat.succ 5))=Int.ofNat j
 self:sh.heap.get? p.self=some (instO p.d)
 d:sh.heap.get? p.d=some (dicO [("_headers",.ref p.l)] p.hs p.ts p.ep)
 l:sh.heap.get? p.l=some (listO p.xs p.n)
 sL:277≤p.self
 dL:277≤p.d
 lL:277≤p.l
 o:sh.heap.get? 73=some p.o
 ox: ∃ xs,p.o=tabO xs
 tab:Tab sh
 xs:p.xs=refsA refs
 rowsA:RowsAt sh refs rows
 ok: ∀ r∈rows,OkRow r
 len:refs.length≤13
 nd:refs.Nodup
theorem UOk.facts {w:World} {sh:Shared} {p:UP} {refs:List Nat} {rows:List Row} {k j:Nat} (H:UOk w sh p refs rows k j):Facts 0 sh (uD p):=by
 refine x1 H.ox fun xs ho=>?_
 have o:=H.o
 refine .cons H.self (Nat.zero_le _) (ne_cons (ne_of H.self H.d (by kernel_rfl)) (ne_cons (ne_of H.self H.l (by kernel_rfl)) (ne_cons (by have:=H.sL; lia) ne_nil))) ?_
 refine .cons H.d (Nat.zero_le _) (ne_cons (ne_of H.d H.l (by kernel_rfl)) (ne_cons (by have:=H.dL; lia) ne_nil)) ?_
 exact .cons H.l (Nat.zero_le _) (ne_cons (by have:=H.lL; lia) ne_nil) (.cons o (Nat.zero_le _) ne_nil .nil)
theorem UOk.allK {w:World} {sh:Shared} {p:UP} {refs:List Nat} {rows:List Row} {k j:Nat} (H:UOk w sh p refs rows k j):AllK (uD p):=⟨ktno_ge H.sL,ktno_ge H.dL,ktno_ge H.lL,ktno_73,trivial⟩
theorem UOk.mu {w:World} {sh:Shared} {p:UP} {refs:List Nat} {rows:List Row} {k j:Nat} (H:UOk w sh p refs rows k j): ∀ b,inD (uD p) b→277≤b∨b=73:=by
 rintro b (rfl | rfl | rfl | rfl | hb)
 ·exact .inl H.sL
 ·exact .inl H.dL
 ·exact .inl H.lL
 ·exact .inr rfl
 ·exact hb.elim
theorem UOk.nt {w:World} {sh:Shared} {p:UP} {refs:List Nat} {rows:List Row} {k j:Nat} (H:UOk w sh p refs rows k j):NoTup sh (inD (uD p)):=by
 rintro b (rfl | rfl | rfl | rfl | hb) xs h
 ·exact ne_of (o':=tupO xs) H.self h (by kernel_rfl) rfl
 ·exact ne_of (o':=tupO xs) H.d h (by kernel_rfl) rfl
 ·exact ne_of (o':=tupO xs) H.l h (by kernel_rfl) rfl
 ·refine x1 H.ox fun ys ho=>?_
  have o:=H.o
  rw [ho] at o
  rw [o] at h
  have h:=congrArg Obj.cls (Option.some.inj h)
  cases h
 ·exact hb
noncomputable def TrOk (p:UP) (tx:TrX):Prop:=(tx.f=false∧tx.o=p.o)∨(tx.f=true∧p.o=tabO #[]∧tx.o=tabO #[rawInt 100,rawInt 39,.ref tx.c]∧277≤tx.c)
section
variable {w:World} {A:Around} {Q:Result→Shared→Prop}
theorem uA_ok {sh:Shared} (Rm:Room 6 A) (T:Top w sh) {p:UP} {refs:List Nat} {rows:List Row} {k j:Nat} (H:UOk w sh p refs rows k j) {P:Nat→Nat→Nat→HdX→TrX→Rs→Prop} {R:Rs} (q:uA p k j P R)
  (h: ∀ x1 tm l2 hx tx R',277≤l2→277≤hx.h2→277≤hx.d2→277≤tx.pl→sh.heap.objs.size≤l2→TrOk p tx→P x1 tm l2 hx tx R'→Ok (sv p.prog w A Q sh.heap (inD (uD p)) sh.os sh.toks) R'):Ok (sv p.prog w A Q sh.heap (inD (uD p)) sh.os sh.toks) R:=by
 have hz:278≤sh.heap.objs.size:=T.size
 refine CTok.ok q Rm T.size (fun c sh1 B T1 RB=>?_) fun x1 b1 t1 R' zz zz q=>?_
 ·refine codeAny_mono (mod_spec T1 RB p.z p.tz 3 _) fun r' sh' hq=>x0 hq fun t' h1 h2=>⟨t',?_,h2⟩
  rw [h1,H.z1]
 refine CSw.ok0 (fun x=>277≤x∧sh.heap.objs.size≤x) q Rm T.size (fun s sh1 B pre S T1 RB=>?_) fun l2 R' hl2 q=>?_
 ·refine x7 (S.all0 pre) fun o1 zz o2 zz o3 zz zz=>?_
  have X:=S.ext (sh₀:=sh) rfl rfl
  have o3':sh1.heap.get? p.l=some (listO (refs.map Value.ref).toArray p.n):=by rw [H.xs] at o3; exact o3
  refine codeAny_mono (items_spec RB T1 ⟨o1,⟨_,_,_,o2⟩,H.sL,H.dL⟩ o3' H.lL (by have:=H.len; simp; lia)) fun r' sh' hq=>x22 hq fun l' h1 h2 h3 h4=>?_
  refine ⟨l',h1,⟨Nat.le_trans T1.l7 h2,Nat.le_trans X.size h2⟩,h4.weak fun b hb=>hb.elim,.of ⟨⟨by rw [H.xs]; exact h3,Nat.zero_le _⟩,trivial⟩ (by kernel_rfl),fun y hy=>.inl ?_⟩
  rcases List.mem_cons.mp hy with rfl | hy
  ·exact h2
  ·cases hy
 refine CSw.ok0 (fun x=>277≤x.h2∧277≤x.d2) q Rm T.size (fun s sh1 B pre S T1 RB=>?_) fun hx R' hhx q=>?_
 ·refine x3 (S.all0 pre) fun o1 zz zz=>?_
  have X:=S.ext (sh₀:=sh) rfl rfl
  rw [H.xs] at o1
  refine codeAny_mono (hdr_spec (RB.mono (by decide)) T1 o1 hl2.1 (H.rowsA.ext X H.nt) H.ok) fun r' sh' hq=>x29 hq fun h2 d2 g1 g2 g3 g4 g5=>?_
  refine x8 g4.dict fun hs ts ep gd=>?_
  refine ⟨⟨h2,d2,hs,ts,ep⟩,g1,⟨g4.hL,g4.dL⟩,g5.weak fun b hb=>hb.elim,.of ⟨⟨g4.inst,Nat.zero_le _⟩,⟨gd,Nat.zero_le _⟩,trivial⟩ (by kernel_rfl),fun y hy=>.inl ?_⟩
  rcases List.mem_cons.mp hy with rfl | hy
  ·exact g2
  ·rcases List.mem_cons.mp hy with rfl | hy
   ·exact g3
   ·cases hy
 refine CTok.ok q Rm T.size (fun c sh1 B T1 RB=>?_) fun x2 b3 t4 R' l3 l4 q=>?_
 ·exact codeAny_mono (div_spec T1 RB p.z p.tz 3 _ (.inl rfl)) fun r' sh' hq=>x0 hq fun t' h1 h2=>⟨t',h1,h2⟩
 refine CTok.ok q Rm T.size (fun c sh1 B T1 RB=>?_) fun x3 b4 t5 R' l5 l6 q=>?_
 ·refine codeAny_mono (mod_spec T1 RB (p.z.fdiv 4) x2 5 _) fun r' sh' hq=>x0 hq fun t' h1 h2=>⟨t',?_,h2⟩
  rw [h1]
  have:=H.z2
  show Except.ok (Flow.ret (Value.int ((p.z.fdiv (Int.ofNat (Nat.succ 3))).fmod (Int.ofNat (Nat.succ 5))) t'))=_
  rw [this]
 obtain ⟨eb,q⟩:=q
 refine CSw.ok0 (fun x=>277≤x.pl∧TrOk p x) q Rm T.size (fun s sh1 B pre S T1 RB=>?_) fun tx R' htx q=>?_
 ·obtain ⟨ptb,p73⟩:=pre
  have X:=S.ext (sh₀:=sh) rfl rfl
  have o73:=S.obj p73
  have htk:sh1.toks=s.tb+s.ti:=S.toks
  have tab1:Tab sh1:=by
   cases H.tab with
   | none ho=>
    have e:=H.o
    rw [ho] at e
    exact .none (by rw [o73,Option.some.inj e])
   | code c cvs ho hc hc7=>
    have e:=H.o
    rw [ho] at e
    have e':p.o=tabO #[rawInt 100,rawInt 39,.ref c]:=(Option.some.inj e).symm
    rw [e'] at o73
    refine .code c cvs o73 (X.keep _ _ hc ?_) hc7
    rintro (q | q | q | q | q)
    ·exact ne_of H.self hc (by kernel_rfl) q
    ·exact ne_of H.d hc (by kernel_rfl) q
    ·exact ne_of H.l hc (by kernel_rfl) q
    ·have q:c=73:=q
     lia
    ·exact q
  have i3:s.D[3]? =some (73,p.o):=by rw [←getD_eq]; exact p73
  have ch:chA [false,false,false,true] s.D 73:=chA_of (j:=3) (x:=(73,p.o)) rfl i3
  refine codeAny_mono (tr_spec T1 (RB.mono (by decide)) j H.hj (argT 0 (codeOf R')) (Nat.add b3 1) (argT 2 (codeOf R')) (by show 849≤b3+1; lia) (by show b3+1<sh1.toks; lia) tab1) fun r' sh' hq=>?_
  refine x48 hq fun a ts e g1 g2 g3 g4=>?_; clear hq
  have ha:(277:Nat)≤a:=Nat.le_trans T1.l7 g2
  rcases g4 with g4 | ⟨g5,c,cvs,g6,g7,g8,g9⟩
  ·refine ⟨⟨a,ts,e,p.o,0,#[],false⟩,g1,⟨ha,.inl ⟨rfl,rfl⟩⟩,g4.weak fun b hb=>hb.elim,.cons g3 (Nat.zero_le _) (ne_cons (show (73:Nat)≠a by lia) ne_nil) (.cons (g4.keep _ _ o73 id) (Nat.zero_le _) ne_nil .nil),fun y hy=>?_⟩
   rcases List.mem_cons.mp hy with rfl | hy
   ·exact .inl g2
   ·rcases List.mem_cons.mp hy with rfl | hy
    ·exact .inr ch
    ·cases hy
  ·have hc:(277:Nat)≤c:=Nat.le_trans T1.l7 g9
   have hc73:c≠73:=fun e=>by rw [e] at hc; lia
   have hac:c≠a:=ne_of g3 g8 (by kernel_rfl)
   have hpo:p.o=tabO #[]:=by rw [o73] at g5; exact Option.some.inj g5
   refine ⟨⟨a,ts,e,_,c,cvs,true⟩,g1,⟨ha,.inr ⟨rfl,hpo,rfl,hc⟩⟩,g6.weak fun b hb=>by rw [hb]; exact ch,.cons g3 (Nat.zero_le _) (ne_cons (show (73:Nat)≠a by lia) (ne_cons hac ne_nil)) (.cons g7 (Nat.zero_le _) (ne_cons hc73 ne_nil) (.cons g8 (Nat.zero_le _) ne_nil .nil)),fun y hy=>?_⟩
   rcases List.mem_cons.mp hy with rfl | hy
   ·exact .inl g2
   ·rcases List.mem_cons.mp hy with rfl | hy
    ·exact .inr ch
    ·rcases List.mem_cons.mp hy with rfl | hy
     ·exact .inl g9
     ·cases hy
 exact h x1 _ l2 hx tx R' hl2.1 hhx.1 hhx.2 htx.1 hl2.2 htx.2 q
end
theorem namesF_ok {f:Str→Bool} : ∀ {l acc:List (Str×Nat)},NamesOk acc→(∀ x∈l,x.1∈names7)→NamesOk (namesF f l acc)
 | [],acc,h,_=>h
 | x::l,acc,h,hl=>by
  have hl': ∀ y∈l,y.1∈names7:=fun y hy=>hl y (List.mem_cons_of_mem _ hy)
  unfold namesF
  cases f x.1 with
  | false=>exact namesF_ok h hl'
  | true=>
   cases q:hasL (lowS x.1) acc with
   | true=>exact namesF_ok h hl'
   | false=>exact namesF_ok (h.add (hl x List.mem_cons_self) q) hl'
theorem strsP_get: ∀ (ss:List (Str×Nat)) (i:Nat),(strsP ss)[i]? =(ss[i]?).map fun x=>Value.str x.1 x.2
 | [],i=>by simp [strsP]
 | x::l,0=>rfl
 | x::l,i+1=>by
  show (strsP l)[i]? =_
  rw [strsP_get l i]
  simp
theorem csN_at {l:List Nat} {n i:Nat} (hi:i<n) (h:l.contains i=true):(csN l n)[i]? =some true:=by
 unfold csN
 simp [hi]
 simpa using h
theorem fN_lt (b:Bool):fN b=0∨fN b=1:=by cases b<;>simp [fN]
inductive RowsIn (sh:Shared) (new:List (Nat×Obj)):List Nat→List Row→Prop
 | nil:RowsIn sh new [] []
 | old {a:Nat} {r:Row} {l:List Nat} {rs:List Row} (h:RowAt sh a r) (t:RowsIn sh new l rs):RowsIn sh new (a::l) (r::rs)
 | new {a:Nat} {r:Row} {l:List Nat} {rs:List Row} {tk tv:Nat} (h7:277≤a) (h:(a,tupO [.str r.1 tk,.str r.2 tv])∈new) (t:RowsIn sh new l rs):RowsIn sh new (a::l) (r::rs)
theorem RowsIn.at {sh sh':Shared} {mu:Nat→Prop} {new:List (Nat×Obj)} {refs:List Nat} {rows:List Row} (X:Ext mu sh sh') (nt:NoTup sh mu) (hn: ∀ x∈new,sh'.heap.get? x.1=some x.2) (h:RowsIn sh new refs rows):RowsAt sh' refs rows:=by
 induction h with
 | nil=>exact .nil
 | old h _ ih=>exact .cons (h.ext' X nt) ih
 | new h7 h _ ih=>exact .cons ⟨h7,_,_,hn _ h⟩ ih
theorem RowsIn.of {sh sh':Shared} {mu:Nat→Prop} {refs:List Nat} (X:Ext mu sh sh') (nt:NoTup sh mu) {refs0:List Nat} {rows0:List Row} (h0:RowsAt sh refs0 rows0): ∀ {ts:List Tp},OwnAll 277 sh' (tupL ts)→(∀ t∈ts,t.a∈refs0∨sh.heap.objs.size≤t.a)→
  RowsIn sh (tupL (ts.filter fun t=>Nat.ble sh.heap.objs.size t.a)) (ts.map (·.a)) (ts.map fun t=>(t.k,t.v))
 | [],_,_=>.nil
 | t::l,H,hd=>by
  have ih:=RowsIn.of (refs:=refs) X nt h0 (ts:=l) H.2 fun y hy=>hd y (List.mem_cons_of_mem _ hy)
  have more: ∀ (new new':List (Nat×Obj)) (a:List Nat) (b:List Row),(∀ x∈new,x∈new')→RowsIn sh new a b→RowsIn sh new' a b:=by
   intro new new' a b hs h
   induction h with
   | nil=>exact .nil
   | old h _ ih=>exact .old h ih
   | new h7 h _ ih=>exact .new h7 (hs _ h) ih
  cases q:Nat.ble sh.heap.objs.size t.a with
  | true=>
   rw [List.filter_cons_of_pos (by simpa using q)]
   exact .new H.1.2 List.mem_cons_self (more _ _ _ _ (fun x hx=>List.mem_cons_of_mem _ hx) ih)
  | false=>
   rw [List.filter_cons_of_neg (by simp [q])]
   refine .old ?_ ih
   rcases hd t List.mem_cons_self with h | h
   ·refine x1 (List.mem_iff_getElem?.mp h) fun i hi=>?_
    refine x21 (h0.get hi) fun r zz h7 tk tv e=>?_
    have e':=X.keep _ _ e fun hm=>nt _ hm _ e
    have e2:=H.1.1
    have e3:sh'.heap.get? t.a=some (tupO [.str t.k t.tk,.str t.v t.tv]):=e2
    rw [e'] at e3
    exact ⟨h7,t.tk,t.tv,e.trans e3⟩
   ·exact absurd (Nat.ble_eq_true_of_le h) (by rw [q]; simp)
noncomputable def namesR (j k:Nat) (ts:List Tp):List (Str×Nat):=namesF (takeF j k) (ts.map fun t=>(t.k,t.tk)) []
section
variable {w:World} {A:Around} {Q:Result→Shared→Prop}
theorem uB_ok {sh:Shared} (Rm:Room 6 A) (T:Top w sh) {p:UP} {refs:List Nat} {rows:List Row} {k j:Nat} (H:UOk w sh p refs rows k j) {x1 tm l2:Nat} {hx:HdX} {tx:TrX} (hl2:277≤l2) (hh2:277≤hx.h2) (hd2:277≤hx.d2) (hpl:277≤tx.pl) {P:FoX→LoX→Rs→Prop} {R:Rs} (q:uB p k j x1 tm l2 hx tx (fN tx.f) P R)
  (h: ∀ (ts:List Tp) (fx:FoX) (lx:LoX) (refs':List Nat) R',rows=ts.map (fun t=>(t.k,t.v))→fx.ys=(strsP (namesR j k ts)).toArray→NamesOk (namesR j k ts)→lx.xs=refsA refs'→refs'.Nodup→RowsIn sh (rows2 k lx.rows) refs' (rowsF k (namesR j k ts) rows)→P fx lx R'→Ok (sv p.prog w A Q sh.heap (inD (uD p)) sh.os sh.toks) R'):Ok (sv p.prog w A Q sh.heap (inD (uD p)) sh.os sh.toks) R:=by
 have hz:277≤sh.heap.objs.size:=T.l7
 have hf:=fN_lt tx.f
 generalize fN tx.f=f at q hf
 have lenr:rows.length≤13:=by rw [←H.rowsA.length]; exact H.len
 refine CSw.ok0 (fun x=>∃ ts:List Tp,rows=ts.map (fun t=>(t.k,t.v))∧x.ks=tpK ts∧277≤x.l3) q Rm T.size (fun s sh1 B pre S T1 RB=>?_) fun kx R' hkx q=>?_
 ·refine x7 (S.all0 pre) fun o1 zz o2 zz o3 zz zz=>?_
  have X:=S.ext (sh₀:=sh) rfl rfl
  rw [H.xs] at o1
  refine codeAny_mono (keys_spec RB T1 ⟨o2,⟨_,_,_,o3⟩,hh2,hd2⟩ o1 hl2 (H.rowsA.ext X H.nt) H.nd lenr) fun r' sh' hq=>x28 hq fun l' n' ts h1 h2 h3 h4 h5=>?_
  refine ⟨⟨l',n',tpK ts⟩,h1,⟨ts,h2,rfl,Nat.le_trans T1.l7 h3⟩,h5.weak fun b hb=>hb.elim,.of ⟨⟨h4,Nat.zero_le _⟩,trivial⟩ (by kernel_rfl),fun y hy=>.inl ?_⟩
  rcases List.mem_cons.mp hy with rfl | hy
  ·exact h3
  ·cases hy
 refine x5 hkx fun ts hts hks hl3=>?_; clear hkx
 have hnm: ∀ x∈ts.map (fun t=>(t.k,t.tk)),x.1∈names7:=by
  intro x hx
  refine x0 (List.mem_map.mp hx) fun t ht hr1=>?_; subst hr1
  exact (H.ok (t.k,t.v) (by rw [hts]; exact List.mem_map_of_mem ht)).1
 have nok:NamesOk (namesR j k ts):=namesF_ok ⟨by simp,fun x hx=>by cases hx⟩ hnm
 refine CSw.ok0 (fun x=>x.ys=(strsP (namesR j k ts)).toArray) q Rm T.size (fun s sh1 B pre S T1 RB=>?_) fun fx R' hfx q=>?_
 ·refine x24 pre fun p1 p2 g e24 e21 p73=>?_; clear pre
  refine x24 g fun g25 g24 g3 g23 g21 zz=>?_; clear g
  have O:=S.all77 H.mu hz p73 p1 (by rcases hf with h | h<;>rw [h]<;>simp)
  refine x3 (S.all0 p2) fun opl zz zz=>?_
  let rp:=rp1 p x1 tm hx tx kx k f s
  have n1:rp.l≠rp.nl:=by
   show kx.l3≠aOf s (23+f)
   rw [←e24]; exact apart_of S g24 g23 (by rcases hf with h | h<;>rw [h]<;>rfl)
  have d1:rp.pl≠rp.nl:=by
   show tx.pl≠aOf s (23+f)
   rw [←e21]; exact apart_of S g21 g23 (by rcases hf with h | h<;>rw [h]<;>rfl)
  have d2:rp.pl≠rp.l:=by
   show tx.pl≠kx.l3
   rw [←e21,←e24]; exact apart_of S g21 g24 (by rcases hf with h | h<;>rw [h]<;>rfl)
  have ch: ∀ i,[3,23+f,25+f].contains i=true→i<26+f→(getD s.D i).isSome=true→chA (csN [3,23+f,25+f] (26+f)) s.D (aOf s i):=fun i h1 h2 h3=>chA_at h3 (csN_at h2 h1)
  refine codeAny_mono (ru1_loop (prog:=p.prog) (RB.mono (by decide)) H.hj (ts.map fun t=>(t.k,t.tk)) T1 rp H.hP rfl H.hk none [] rfl ⟨by simp,fun x hx=>by cases hx⟩ ⟨O,n1⟩ ⟨_,_,opl⟩ hpl d1 d2 ?_ hnm) fun r' sh' hq=>?_
  ·intro i
   show kx.ks[0+i]? =_
   rw [hks]
   simp [tpK]
   rfl
  ·refine x49 hq fun h1 h2 e' nn' hs' ts' ep' h3 h4 h4' h5 h5' zz=>?_; clear hq
   refine ⟨⟨e',hs',ts',ep',_,nn'⟩,h1,rfl,h2.weak fun b hb=>?_,.of ⟨⟨h4,Nat.zero_le _⟩,⟨h5,Nat.zero_le _⟩,trivial⟩ (by kernel_rfl),fun y hy=>.inr ?_⟩
   ·rcases hb with rfl | rfl | rfl
    ·exact ch (25+f) (by simp) (by lia) g25
    ·exact ch 3 (by simp) (by lia) g3
    ·exact ch (23+f) (by simp) (by lia) g23
   ·rcases List.mem_cons.mp hy with rfl | hy
    ·exact ch 3 (by simp) (by lia) g3
    ·rcases List.mem_cons.mp hy with rfl | hy
     ·exact ch (23+f) (by simp) (by lia) g23
     ·cases hy
 refine CSw.ok0 (fun x=>∃ refs',x.xs=refsA refs'∧refs'.Nodup∧RowsIn sh (rows2 k x.rows) refs' (rowsF k (namesR j k ts) rows)) q Rm T.size (fun s sh1 B pre S T1 RB=>?_) fun lx R' hlx q=>?_
 ·refine x17 pre fun p1 p2 g e3 p73=>?_; clear pre
  refine x50 g fun g25 g24 g23 g4 g3 g5 zz=>?_; clear g
  have O:=S.all77 H.mu hz p73 p1 (by rcases hf with h | h<;>rw [h]<;>simp)
  refine x3 (S.all0 p2) fun od zz zz=>?_
  have X:=S.ext (sh₀:=sh) rfl rfl
  let rp:=rp2 p x1 tm hx tx fx k f s
  have n1:rp.nl≠l2:=by
   show aOf s (24+f)≠l2
   rw [←e3]; exact apart_of S g24 g3 (by rcases hf with h | h<;>rw [h]<;>rfl)
  have ch: ∀ i,[3,23+f,25+f].contains i=true→i<26+f→(getD s.D i).isSome=true→chA (csN [3,23+f,25+f] (26+f)) s.D (aOf s i):=fun i h1 h2 h3=>chA_at h3 (csN_at h2 h1)
  refine codeAny_mono (ru2_loop (prog:=p.prog) (RB.mono (Nat.le_refl _)) (namesR j k ts) T1 rp ⟨l2,0,p.xs,hx.d2⟩ H.hP rfl H.hk fx.e ⟨O,n1,⟨_,_,_,od⟩,hd2⟩ refs rows H.xs (H.rowsA.ext X H.nt) H.ok (by have:=H.len; have:=nok.len; lia) H.nd ?_ nok.ok) fun r' sh' hq=>?_
  ·intro i
   show fx.ys[0+i]? =_
   rw [hfx]
   simp only [Nat.zero_add,List.getElem?_toArray]
   exact strsP_get _ i
  ·refine x51 hq fun h1 h2 e' hs' ts' ep' refs' n' h3 h4 h4' h5 h5' zz h6 h7 h8 h9=>?_; clear hq
   refine x5 (tps_of h6) fun tt er ew ot=>?_
   have chf:=ch (23+f) (by simp) (by lia) g23
   have chl:chA (csN [3,23+f,25+f] (26+f)) s.D l2:=by rw [←e3]; exact ch 3 (by simp) (by lia) g3
   have X2:Ext (fun b=>inD (uD p) b∨r2Mu rp ⟨l2,0,p.xs,hx.d2⟩ b) sh sh':=(X.weak fun b h=>.inl h).trans (h2.weak fun b h=>.inr h)
   have nt2:NoTup sh (fun b=>inD (uD p) b∨r2Mu rp ⟨l2,0,p.xs,hx.d2⟩ b):=by
    intro b hb xs hbx
    rcases hb with hb | hb
    ·exact H.nt b hb xs hbx
    ·by_cases hu:inD (uD p) b
     ·exact H.nt b hu xs hbx
     ·have hbx:=X.keep _ _ hbx hu
      refine x18 O fun c1 zz c2 zz c3 zz c4 zz c5 zz zz=>?_; clear O
      rcases hb with rfl | rfl | rfl
      ·exact ne_of (o':=tupO xs) c1 hbx (by kernel_rfl) rfl
      ·exact ne_of (o':=tupO xs) c3 hbx (by kernel_rfl) rfl
      ·exact ne_of (o':=tupO xs) c5 hbx (by kernel_rfl) rfl
   have hsub: ∀ t∈tt,t.a∈refs∨sh.heap.objs.size≤t.a:=fun t ht=>by
    rcases h8 t.a (by rw [er]; exact List.mem_map_of_mem ht) with h | h
    ·exact .inl h
    ·exact .inr (Nat.le_trans X.size h)
   have rin:=RowsIn.of (refs:=refs) X2 nt2 H.rowsA ot hsub
   rw [←er,←ew] at rin
   let ts2:=tt.filter fun t=>Nat.ble sh.heap.objs.size t.a
   have sub2:List.Sublist ts2 tt:=List.filter_sublist
   have ot2: ∀ (l:List Tp),OwnAll 277 sh' (tupL l)→OwnAll 277 sh' (tupL (l.filter fun t=>Nat.ble sh.heap.objs.size t.a)):=by
    intro l
    induction l with
    | nil=>exact id
    | cons t l ih=>
     intro h
     cases q:Nat.ble sh.heap.objs.size t.a with
     | true=>rw [List.filter_cons_of_pos (by simpa using q)]; exact ⟨h.1,ih h.2⟩
     | false=>rw [List.filter_cons_of_neg (by simp [q])]; exact ih h.2
   have nd2:(ts2.map (·.a)).Nodup:=(sub2.map _).nodup (by rw [←er]; exact h7)
   have F2:Facts 277 sh' (apL [(rp.fr,ruF {rp with hs:=hs',ts:=ts',ep:=ep'} (nameE e')),(l2,listO (refsA refs') n')] (tupL ts2)):=
    facts_ahead (facts_tupL (ot2 tt ot) nd2) (.of ⟨⟨h4,h4'⟩,⟨h5,h5'⟩,trivial⟩ (by kernel_rfl)) (by kernel_rfl)
   have F1:Facts 277 sh' [(rp.fr,ruF {rp with hs:=hs',ts:=ts',ep:=ep'} (nameE e')),(l2,listO (refsA refs') n')]:=.of ⟨⟨h4,h4'⟩,⟨h5,h5'⟩,trivial⟩ (by kernel_rfl)
   have hnew: ∀ y∈tupL ts2,sh1.heap.objs.size≤y.1:=by
    intro y hy
    refine x0 (tupL_mem hy) fun t ht hr2=>?_; subst hr2
    refine x2 (List.mem_filter.mp ht) fun h1 h2=>?_
    have h2:=Nat.le_of_ble_eq_true (by simpa using h2)
    rcases h8 t.a (by rw [er]; exact List.mem_map_of_mem h1) with h | h
    ·obtain ⟨i,hi⟩:=List.mem_iff_getElem?.mp h
     obtain ⟨r,_,_,_,_,e⟩:=H.rowsA.get hi
     exact absurd (Heap.lt_size e) (Nat.not_lt.mpr h2)
    ·exact h
   have wk:Ext (chA (csN [3,23+f,25+f] (26+f)) s.D) sh1 sh':=h2.weak fun b hb=>by
    rcases hb with rfl | rfl | rfl
    ·exact ch (25+f) (by simp) (by lia) g25
    ·exact chf
    ·exact chl
   have lo: ∀ {D:List (Nat×Obj)},Facts 277 sh' D→Facts 0 sh' D:=by
    intro D F
    induction F with
    | nil=>exact .nil
    | cons h hlo hne _ ih=>exact .cons h (Nat.zero_le _) hne ih
   have k4:=H.hk
   by_cases hk2:k=2
   ·have e2: ∀ l,rows2 k l=l:=fun l=>by rw [hk2]; rfl
    refine ⟨⟨e',hs',ts',ep',refsA refs',n',tupL ts2⟩,h1,⟨refs',rfl,h7,by dsimp only; rw [e2]; exact rin⟩,wk,by dsimp only; rw [e2]; exact lo F2,fun y hy=>?_⟩
    dsimp only at hy; rw [e2] at hy
    rcases List.mem_cons.mp hy with rfl | hy
    ·exact .inr chf
    ·rcases List.mem_cons.mp hy with rfl | hy
     ·exact .inr chl
     ·exact .inl (hnew y hy)
   ·have e2: ∀ l,rows2 k l= []:=fun l=>rows2_ne hk2
    have emp:ts2= []:=by
     apply List.filter_eq_nil_iff.mpr
     intro t ht hb
     have hb:=Nat.le_of_ble_eq_true (by simpa using hb)
     have:=h9 hk2 t.a (by rw [er]; exact List.mem_map_of_mem ht)
     obtain ⟨i,hi⟩:=List.mem_iff_getElem?.mp this
     obtain ⟨r,_,_,_,_,e⟩:=H.rowsA.get hi
     exact absurd (Heap.lt_size e) (Nat.not_lt.mpr hb)
    rw [show (tt.filter fun t=>Nat.ble sh.heap.objs.size t.a)= [] from emp] at rin
    refine ⟨⟨e',hs',ts',ep',refsA refs',n',[]⟩,h1,⟨refs',rfl,h7,by dsimp only; rw [e2]; exact rin⟩,wk,by dsimp only; rw [e2]; exact lo F1,fun y hy=>?_⟩
    dsimp only at hy; rw [e2] at hy
    rcases List.mem_cons.mp hy with rfl | hy
    ·exact .inr chf
    ·rcases List.mem_cons.mp hy with rfl | hy
     ·exact .inr chl
     ·cases hy
 refine x5 hlx fun refs' l1 l2' l3=>?_; clear hlx
 exact h ts fx lx refs' R' hts hfx nok l1 l2' l3 q
end
noncomputable def uCut (f:Nat) (fx:FoX) (b:Bool) (hs:List Nat) (P:Rs→Prop):Rs→Prop:=
 CCut (X:=Unit) (fun s=>compareOp .Eq (.ref (aOf s (22+f))) (.ref (aOf s (25+f)))) (fun s=>pick [22+f,25+f] s.D= [(aOf s (22+f),listO fx.ys fx.nn),(aOf s (25+f),listO #[] (epOf (dOf s (25+f))))]) (fun zz=>.bool b) same_ (fun zz=>hs) fun zz=>P
noncomputable instance uCut.rf {f:Nat} {fx:FoX} {b:Bool} {hs:List Nat} {P:Rs→Prop} {R:Rs} [∀ y1,Rf (P y1)]:Rf (uCut f fx b hs P R):=by
 delta uCut; infer_instance
noncomputable def uEx (p:UP) (f l2:Nat) (hx:HdX) (tx:TrX) (xs:Array Value) (n:Nat):Rs→Prop:=
 CEnd (.ok (.ret (.ref hx.h2))) fun s=>keepD [false,false,false] s.D= [(p.self,instO p.d),(p.d,dicO [("_headers",.ref p.l)] p.hs p.ts p.ep),(p.l,listO p.xs p.n)]∧
  pick [3,4,24+f,20] s.D= [(hx.h2,instO hx.d2),(hx.d2,dicO [("_headers",.ref l2)] hx.hs hx.ts hx.ep),(l2,listO xs n),(73,tx.o)]∧pick (ixC f) s.D=codeL f tx
noncomputable instance uEx.rf {p:UP} {f l2:Nat} {hx:HdX} {tx:TrX} {xs:Array Value} {n:Nat} {R:Rs} :Rf (uEx p f l2 hx tx xs n R):=by
 delta uEx; infer_instance
noncomputable def uX (p:UP) (j:Nat):Rs→Prop:=
 uA p 3 j fun x1 tm l2 hx tx=>uB p 3 j x1 tm l2 hx tx (fN tx.f) fun fx lx=>uCut (fN tx.f) fx false [24+fN tx.f] (uEx p (fN tx.f) l2 hx tx lx.xs lx.n)
noncomputable instance uX.rf {p:UP} {j:Nat} {R:Rs} :Rf (uX p j R):=by
 delta uX; infer_instance
theorem uN_00 (p:UP) (K t:Nat):uN p 0 0 (uRun p p.P K t):=pset1 (X:=fun P=>uN p 0 0 (uRun p P K t)) (by intro b1; exact Rf.prove _ (by kernel_rfl))
theorem uN_10 (p:UP) (K t:Nat):uN p 1 0 (uRun p p.P K t):=pset1 (X:=fun P=>uN p 1 0 (uRun p P K t)) (by intro b1; exact Rf.prove _ (by kernel_rfl))
theorem uN_20 (p:UP) (K t:Nat):uN p 2 0 (uRun p p.P K t):=pset1 (X:=fun P=>uN p 2 0 (uRun p P K t)) (by intro b1; exact Rf.prove _ (by kernel_rfl))
theorem uX_0 (p:UP) (K t:Nat):uX p 0 (uRun p p.P K t):=pset1 (X:=fun P=>uX p 0 (uRun p P K t)) (by intro b1; exact Rf.prove _ (by kernel_rfl))
theorem uN_01 (p:UP) (K t:Nat):uN p 0 1 (uRun p p.P K t):=pset1 (X:=fun P=>uN p 0 1 (uRun p P K t)) (by intro b1; exact Rf.prove _ (by kernel_rfl))
theorem uN_11 (p:UP) (K t:Nat):uN p 1 1 (uRun p p.P K t):=pset1 (X:=fun P=>uN p 1 1 (uRun p P K t)) (by intro b1; exact Rf.prove _ (by kernel_rfl))
theorem uN_21 (p:UP) (K t:Nat):uN p 2 1 (uRun p p.P K t):=pset1 (X:=fun P=>uN p 2 1 (uRun p P K t)) (by intro b1; exact Rf.prove _ (by kernel_rfl))
theorem uX_1 (p:UP) (K t:Nat):uX p 1 (uRun p p.P K t):=pset1 (X:=fun P=>uX p 1 (uRun p P K t)) (by intro b1; exact Rf.prove _ (by kernel_rfl))
theorem uN_02 (p:UP) (K t:Nat):uN p 0 2 (uRun p p.P K t):=pset1 (X:=fun P=>uN p 0 2 (uRun p P K t)) (by intro b1; exact Rf.prove _ (by kernel_rfl))
theorem uN_12 (p:UP) (K t:Nat):uN p 1 2 (uRun p p.P K t):=pset1 (X:=fun P=>uN p 1 2 (uRun p P K t)) (by intro b1; exact Rf.prove _ (by kernel_rfl))
theorem uN_22 (p:UP) (K t:Nat):uN p 2 2 (uRun p p.P K t):=pset1 (X:=fun P=>uN p 2 2 (uRun p P K t)) (by intro b1; exact Rf.prove _ (by kernel_rfl))
theorem uX_2 (p:UP) (K t:Nat):uX p 2 (uRun p p.P K t):=pset1 (X:=fun P=>uX p 2 (uRun p P K t)) (by intro b1; exact Rf.prove _ (by kernel_rfl))
theorem uN_03 (p:UP) (K t:Nat):uN p 0 3 (uRun p p.P K t):=pset1 (X:=fun P=>uN p 0 3 (uRun p P K t)) (by intro b1; exact Rf.prove _ (by kernel_rfl))
theorem uN_13 (p:UP) (K t:Nat):uN p 1 3 (uRun p p.P K t):=pset1 (X:=fun P=>uN p 1 3 (uRun p P K t)) (by intro b1; exact Rf.prove _ (by kernel_rfl))
theorem uN_23 (p:UP) (K t:Nat):uN p 2 3 (uRun p p.P K t):=pset1 (X:=fun P=>uN p 2 3 (uRun p P K t)) (by intro b1; exact Rf.prove _ (by kernel_rfl))
theorem uX_3 (p:UP) (K t:Nat):uX p 3 (uRun p p.P K t):=pset1 (X:=fun P=>uX p 3 (uRun p P K t)) (by intro b1; exact Rf.prove _ (by kernel_rfl))
theorem uN_04 (p:UP) (K t:Nat):uN p 0 4 (uRun p p.P K t):=pset1 (X:=fun P=>uN p 0 4 (uRun p P K t)) (by intro b1; exact Rf.prove _ (by kernel_rfl))
theorem uN_14 (p:UP) (K t:Nat):uN p 1 4 (uRun p p.P K t):=pset1 (X:=fun P=>uN p 1 4 (uRun p P K t)) (by intro b1; exact Rf.prove _ (by kernel_rfl))
theorem uN_24 (p:UP) (K t:Nat):uN p 2 4 (uRun p p.P K t):=pset1 (X:=fun P=>uN p 2 4 (uRun p P K t)) (by intro b1; exact Rf.prove _ (by kernel_rfl))
theorem uX_4 (p:UP) (K t:Nat):uX p 4 (uRun p p.P K t):=pset1 (X:=fun P=>uX p 4 (uRun p P K t)) (by intro b1; exact Rf.prove _ (by kernel_rfl))
theorem uN_05 (p:UP) (K t:Nat):uN p 0 5 (uRun p p.P K t):=pset1 (X:=fun P=>uN p 0 5 (uRun p P K t)) (by intro b1; exact Rf.prove _ (by kernel_rfl))
theorem uN_15 (p:UP) (K t:Nat):uN p 1 5 (uRun p p.P K t):=pset1 (X:=fun P=>uN p 1 5 (uRun p P K t)) (by intro b1; exact Rf.prove _ (by kernel_rfl))
theorem uN_25 (p:UP) (K t:Nat):uN p 2 5 (uRun p p.P K t):=pset1 (X:=fun P=>uN p 2 5 (uRun p P K t)) (by intro b1; exact Rf.prove _ (by kernel_rfl))
theorem uX_5 (p:UP) (K t:Nat):uX p 5 (uRun p p.P K t):=pset1 (X:=fun P=>uX p 5 (uRun p P K t)) (by intro b1; exact Rf.prove _ (by kernel_rfl))
theorem uN_all (p:UP) {k j:Nat} (hk:k<3) (hj:j<6) (K t:Nat):uN p k j (uRun p p.P K t):=by
 exact lt6 (P:=fun j=>uN p k j (uRun p p.P K t)) hj (lt3 (P:=fun k=>uN p k 0 (uRun p p.P K t)) hk (uN_00 p K t) (uN_10 p K t) (uN_20 p K t)) (lt3 (P:=fun k=>uN p k 1 (uRun p p.P K t)) hk (uN_01 p K t) (uN_11 p K t) (uN_21 p K t)) (lt3 (P:=fun k=>uN p k 2 (uRun p p.P K t)) hk (uN_02 p K t) (uN_12 p K t) (uN_22 p K t)) (lt3 (P:=fun k=>uN p k 3 (uRun p p.P K t)) hk (uN_03 p K t) (uN_13 p K t) (uN_23 p K t)) (lt3 (P:=fun k=>uN p k 4 (uRun p p.P K t)) hk (uN_04 p K t) (uN_14 p K t) (uN_24 p K t)) (lt3 (P:=fun k=>uN p k 5 (uRun p p.P K t)) hk (uN_05 p K t) (uN_15 p K t) (uN_25 p K t))
theorem uX_all (p:UP) {j:Nat} (hj:j<6) (K t:Nat):uX p j (uRun p p.P K t):=by
 exact lt6 (P:=fun j=>uX p j (uRun p p.P K t)) hj (uX_0 p K t) (uX_1 p K t) (uX_2 p K t) (uX_3 p K t) (uX_4 p K t) (uX_5 p K t)
theorem dropN_sub: ∀ {n:Nat} {D:List (Nat×Obj)} {x:Nat×Obj},x∈dropN n D→∃ i:Nat,D[i]? =some x
 | 0,D,x,h=>List.mem_iff_getElem?.mp h
 | n+1,[],x,h=>by cases h
 | n+1,y::l,x,h=>by
  refine x1 (dropN_sub (n:=n) h) fun i hi=>?_
  exact ⟨i+1,by simpa using hi⟩
noncomputable def RuPost (sh:Shared) (rows':List Row) (r:Result) (sh':Shared):Prop:=
 ∃ h' d' l' refs' n',r= .ok (.ret (.ref h'))∧HdrAt sh' h' d' l'∧277≤l'∧sh'.heap.get? l'=some (listO (refsA refs') n')∧RowsAt sh' refs' rows'∧refs'.Nodup∧Ext (fun b=>b=73) sh sh'∧Tab sh'
section
variable {w:World} {A:Around}
theorem UOk.nt73 {sh:Shared} {p:UP} {refs:List Nat} {rows:List Row} {k j:Nat} (H:UOk w sh p refs rows k j):NoTup sh (fun b=>b=73):=by
 rintro b rfl xs h
 refine x1 H.ox fun ys ho=>?_
 have o:=H.o
 rw [ho] at o
 rw [o] at h
 have h:=congrArg Obj.cls (Option.some.inj h)
 cases h
theorem tab_end {sh sh':Shared} {p:UP} {refs:List Nat} {rows:List Row} {k j:Nat} (H:UOk w sh p refs rows k j) {tx:TrX} (ht:TrOk p tx) (X:Ext (fun b=>b=73) sh sh') (h73:sh'.heap.get? 73=some tx.o) (hc:tx.f=true→sh'.heap.get? tx.c=some (codO tx.cvs)):Tab sh':=by
 rcases ht with ⟨h1,h2⟩ | ⟨h1,h2,h3,h4⟩
 ·rw [h2] at h73
  cases H.tab with
  | none ho=>
   have e:=H.o
   rw [ho] at e
   exact .none (by rw [h73,Option.some.inj e])
  | code c cvs ho hc hc7=>
   have e:=H.o
   rw [ho] at e
   have e':p.o=tabO #[rawInt 100,rawInt 39,.ref c]:=(Option.some.inj e).symm
   rw [e'] at h73
   exact .code c cvs h73 (X.keep _ _ hc fun h=>by have h:c=73:=h; lia) hc7
 ·rw [h3] at h73
  exact .code tx.c tx.cvs h73 (hc h1) h4
theorem uEnd {sh sh':Shared} {V:Sv} {s:St} (T:Top w sh) {p:UP} {refs:List Nat} {rows rows':List Row} {k j:Nat} (H:UOk w sh p refs rows k j) {l2 n:Nat} {hx:HdX} {tx:TrX} (hl2:277≤l2) (hh2:277≤hx.h2) (hd2:277≤hx.d2) (ht:TrOk p tx) {refs':List Nat} {new:List (Nat×Obj)} (nd:refs'.Nodup) (hin:RowsIn sh new refs' rows')
  (S:Sat V s sh') (hm:V.mu=inD (uD p)) (h0:V.h₀=sh.heap) (ho:V.os=sh.os) (htk:V.t₀=sh.toks)
  (q1:keepD [false,false,false] s.D= [(p.self,instO p.d),(p.d,dicO [("_headers",.ref p.l)] p.hs p.ts p.ep),(p.l,listO p.xs p.n)])
  (q2:pick [3,4,24+fN tx.f,20] s.D= [(hx.h2,instO hx.d2),(hx.d2,dicO [("_headers",.ref l2)] hx.hs hx.ts hx.ep),(l2,listO (refsA refs') n),(73,tx.o)])
  (q3:pick (ixC (fN tx.f)) s.D=codeL (fN tx.f) tx) (q4: ∀ x∈new,sh'.heap.get? x.1=some x.2):RuPost sh rows' (.ok (.ret (.ref hx.h2))) sh':=by
 refine x9 (S.all0 q2) fun o1 zz o2 zz o3 zz o4 zz zz=>?_
 have X:Ext (fun b=>b=73) sh sh':=(S.only (sh:=sh) hm h0 ho H.facts (cs:= [false,false,false]) (q1.trans rfl) htk).weak fun b hb=>by
  rcases hb with hb | hb
  ·exact hb
  ·exact hb.elim
 refine ⟨hx.h2,hx.d2,l2,refs',n,rfl,⟨o1,⟨_,_,_,o2⟩,hh2,hd2⟩,hl2,o3,hin.at X H.nt73 q4,nd,X,tab_end H ht X o4 fun hf=>?_⟩
 rw [hf] at q3
 refine x3 (S.all0 q3) fun o5 zz zz=>?_
 exact o5
theorem ruN (Rm:Room 6 A) {sh:Shared} (T:Top w sh) {p:UP} {refs:List Nat} {rows:List Row} {k j:Nat} (H:UOk w sh p refs rows k j) (hk:k<3):
  codeAny (model p.prog w) A (uC p) (fun r sh'=>∃ ts:List Tp,rows=ts.map (fun t=>(t.k,t.v))∧RuPost sh (rowsF k (namesR j k ts) rows) r sh') sh:=by
 refine walk_codeG T Rm rfl H.facts H.allK 700 hU1 fun K t hK ht=>?_
 have q:=uN_all p hk H.hj K t
 rw [H.hP] at q
 revert q
 show uN p k j (runC p.prog w.params 700 (uC p) hU1 (uD p) K t)→_
 generalize runC p.prog w.params 700 (uC p) hU1 (uD p) K t=R
 intro q
 refine uA_ok Rm T H q fun x1 tm l2 hx tx R' a1 a2 a3 a4 a5 a6 q=>?_
 refine uB_ok Rm T H a1 a2 a3 a4 q fun ts fx lx refs' R' b1 b2 b3 b4 b5 b6 q=>?_
 refine CEnd.ok q fun sh' q S=>?_
 refine x13 q fun q1 q2 q3 q4=>?_; clear q
 rw [b4] at q2
 refine ⟨ts,b1,uEnd T H a1 a2 a3 a6 b5 b6 S rfl rfl rfl rfl q1 q2 q3 fun x hx=>?_⟩
 rw [←q4] at hx
 obtain ⟨i,hi⟩:=dropN_sub hx
 exact S.own i x hi
end
noncomputable def ahFor:ForP:=forP (nthS (meth 16).body 2)
noncomputable def hY1 (f:Nat):List Nat:= [24+f,4,0,0,0,4,0,0,0,4,0,0,0,0,4,5,0,0,0,0,27+f,27+f,28+f,28+f,28+f,28+f,28+f,28+f,28+f,28+f,0,0,28+f,28+f,28+f,28+f,4,0,0,0,4,0,0,0,4,0,0,0,0,4,5,28+f,0,1]
noncomputable def hY2 (f:Nat):List Nat:= [28+f,28+f,28+f,29+f,29+f,29+f,29+f,28+f,0,29+f,0,29+f,29+f,29+f,28+f,27+f,27+f,27+f,27+f,0,27+f,0,27+f,30+f,30+f,0,30+f,0,30+f,27+f,27+f,31+f,0,31+f,0,31+f,0,31+f,31+f,27+f,27+f,31+f,31+f,31+f,31+f,31+f,31+f,31+f,31+f,31+f,31+f,31+f,31+f,31+f,31+f,31+f,31+f,31+f]
noncomputable def hY3 (f:Nat):List Nat:= [32+f,32+f,32+f,0,32+f,0,33+f,33+f,0,33+f,0,33+f,33+f,32+f,33+f,33+f,33+f,0,33+f,0,33+f,33+f,32+f,33+f,33+f,33+f,0,33+f,0,33+f,33+f,32+f,33+f,33+f,35+f,28+f,28+f,28+f,28+f,28+f,4,0,0,0,4,0,0,0,4,0,0,0,0,4,5,28+f,0,1]
noncomputable def hY4 (f:Nat):List Nat:= [28+f,28+f,28+f,28+f,4,0,0,0,4,0,0,0,4,0,0,0,0,4,5,28+f,0,1]
noncomputable def hY5 (f:Nat):List Nat:= [28+f,28+f,28+f,29+f,29+f,29+f,29+f,0,28+f,0,0,28+f,0,0,0,0,0,36+f,36+f,36+f,36+f,36+f,36+f,0,0,36+f,0,0,36+f,0,0,0,0,0,0,36+f,0,0,36+f,0,0,0,0,36+f,36+f,36+f,36+f,0,29+f,0,29+f,29+f,29+f,0,31+f,0,31+f,0,31+f,31+f,27+f,27+f,31+f,31+f,31+f,38+f,0,28+f,4,0,0,0,0,4,0,0,0,4,4,0,5,25+f,25+f,25+f,25+f,28+f,4,0,0,0,4,0,0,0,4,0,0,0,0,4,5,28+f,0,1]
noncomputable def hY6 (f:Nat):List Nat:= [28+f,0,0,29+f,29+f,1]
noncomputable def hY7 (f:Nat):List Nat:= [24+f]
noncomputable def CExtR (f:Code→Code) (r:Code→Result) (hs:List Nat) (P:Rs→Prop) (R:Rs):Prop:=CExt (f (codeOf R)) (r (codeOf R)) hs P R
noncomputable instance CExtR.rf {f:Code→Code} {r:Code→Result} {hs:List Nat} {P:Rs→Prop} {R:Rs} [∀ y1,Rf (P y1)]:Rf (CExtR f r hs P R):=by
 delta CExtR; infer_instance
noncomputable def itmO (a:Nat) (l:List Value):Obj:= {cls:=.type "dict_itemiterator",data:=.fields (rawInt (Int.ofNat a)::l).toArray}
noncomputable def itmN (l:List Value):Obj:= {cls:=.type "dict_itemiterator",data:=.fields (PySem.Value.none::l).toArray}
noncomputable def tailV:List Value→List Value
 | []=> []
 | _::l=>l
noncomputable def uCv (s:Str) (b:Bool) (h:Nat) (hs:List Nat) (P:Rs→Prop):Rs→Prop:=
 CExtR (fun c=>convC s b h (argT 1 c)) (fun c=>.ok (.ret (.str s (argT 1 c)))) hs P
noncomputable instance uCv.rf {s:Str} {b:Bool} {h:Nat} {hs:List Nat} {P:Rs→Prop} {R:Rs} [∀ y1,Rf (P y1)]:Rf (uCv s b h hs P R):=by
 delta uCv; infer_instance
noncomputable def uOwn (f:Nat) (hs:List Nat) (P:Rs→Prop):Rs→Prop:=
 CCut (X:=Unit) (fun s=>Sem.bind (letOwnedTupleGo ahFor.tgt (.ref (aOf s (30+f))) (.ref (aOf s (31+f)))) fun zz=>.pure .none)
  (fun s=>getD s.D (30+f)=some (aOf s (30+f),itmO (aOf s (31+f)) (tailV (fldL (dOf s (30+f)))))) (fun zz=>.none)
  (fun s zz=>⟨setD s.D (30+f) (itmN (tailV (fldL (dOf s (30+f))))),s.b,s.m,s.tb,s.ti,[]⟩) (fun zz=>hs) fun zz=>P
noncomputable instance uOwn.rf {f:Nat} {hs:List Nat} {P:Rs→Prop} {R:Rs} [∀ y1,Rf (P y1)]:Rf (uOwn f hs P R):=by
 delta uOwn; infer_instance
noncomputable def tokAt (i:Nat) (o:Obj):Nat:=argT i (.call .none ⟨seqOf o,[]⟩)
noncomputable def CAp (f l2:Nat) (xs:Array Value) (n:Nat) (hs:List Nat) (P:Nat→Nat→Rs→Prop) (R:Rs):Prop:=
 CSw (X:=Nat) (fun s=>.call (.builtin "list.append") ⟨[.ref l2,.ref (aOf s (38+f))],[]⟩) (fun s=>pick [24+f] s.D= [(l2,listO xs n)]∧(getD s.D (24+f)).isSome=true∧aOf s (24+f)=l2) (fun zz=>.ok (.ret .none)) (csN [24+f] (25+f))
  (fun s m=> [(l2,listO (xs.push (.ref (aOf s (38+f)))) m)]) (fun zz=>hs) (fun m=>P (aOf (stOf R) (38+f)) m) R
noncomputable instance CAp.rf {f l2:Nat} {xs:Array Value} {n:Nat} {hs:List Nat} {P:Nat→Nat→Rs→Prop} {R:Rs} [∀ y1 y2 y3,Rf (P y1 y2 y3)]:Rf (CAp f l2 xs n hs P R):=by
 delta CAp; infer_instance
noncomputable def uEy (p:UP) (f l2:Nat) (hx:HdX) (tx:TrX) (xs:Array Value) (a n:Nat):Rs→Prop:=
 CEnd (.ok (.ret (.ref hx.h2))) fun s=>keepD [false,false,false] s.D= [(p.self,instO p.d),(p.d,dicO [("_headers",.ref p.l)] p.hs p.ts p.ep),(p.l,listO p.xs p.n)]∧
  pick [3,4,38+f,20] s.D= [(hx.h2,instO hx.d2),(hx.d2,dicO [("_headers",.ref l2)] hx.hs hx.ts hx.ep),(l2,listO (xs.push (.ref a)) n),(73,tx.o)]∧pick (ixC f) s.D=codeL f tx∧
  pick [37+f] s.D= [(a,tupO [.str sXAB (tokAt 0 (dOf s (37+f))),.str swq (tokAt 1 (dOf s (37+f)))])]∧getD s.D 20=some (73,tx.o)
noncomputable instance uEy.rf {p:UP} {f l2:Nat} {hx:HdX} {tx:TrX} {xs:Array Value} {a n:Nat} {R:Rs} :Rf (uEy p f l2 hx tx xs a n R):=by
 delta uEy; infer_instance
noncomputable def uY (p:UP) (j:Nat):Rs→Prop:=
 uA p 3 j fun x1 tm l2 hx tx=>uB p 3 j x1 tm l2 hx tx (fN tx.f) fun fx lx=>uCut (fN tx.f) fx true (hY1 (fN tx.f))<|uCv sw false hx.h2 (hY2 (fN tx.f))<|uOwn (fN tx.f) (hY3 (fN tx.f))<|uCv sq true hx.h2 (hY4 (fN tx.f))<|
  uCv s1 false hx.h2 (hY5 (fN tx.f))<|uCv sXAB true hx.h2 (hY6 (fN tx.f))<|CAp (fN tx.f) l2 lx.xs lx.n (hY7 (fN tx.f)) fun a m=>uEy p (fN tx.f) l2 hx tx lx.xs a m
noncomputable instance uY.rf {p:UP} {j:Nat} {R:Rs} :Rf (uY p j R):=by
 delta uY; infer_instance
noncomputable abbrev uRunY (p:UP) (P:Params) (K t:Nat):Rs:=runC p.prog P 1500 (uC p) hU1 (uD p) K t
theorem uY_0 (p:UP) (K t:Nat):uY p 0 (uRunY p p.P K t):=three (X:=fun P=>uY p 0 (uRunY p P K t)) (by intro b1; exact Rf.prove _ (by kernel_rfl))
theorem uY_1 (p:UP) (K t:Nat):uY p 1 (uRunY p p.P K t):=three (X:=fun P=>uY p 1 (uRunY p P K t)) (by intro b1; exact Rf.prove _ (by kernel_rfl))
theorem uY_2 (p:UP) (K t:Nat):uY p 2 (uRunY p p.P K t):=three (X:=fun P=>uY p 2 (uRunY p P K t)) (by intro b1; exact Rf.prove _ (by kernel_rfl))
theorem uY_3 (p:UP) (K t:Nat):uY p 3 (uRunY p p.P K t):=three (X:=fun P=>uY p 3 (uRunY p P K t)) (by intro b1; exact Rf.prove _ (by kernel_rfl))
theorem uY_4 (p:UP) (K t:Nat):uY p 4 (uRunY p p.P K t):=three (X:=fun P=>uY p 4 (uRunY p P K t)) (by intro b1; exact Rf.prove _ (by kernel_rfl))
theorem uY_5 (p:UP) (K t:Nat):uY p 5 (uRunY p p.P K t):=three (X:=fun P=>uY p 5 (uRunY p P K t)) (by intro b1; exact Rf.prove _ (by kernel_rfl))
theorem uY_all (p:UP) {j:Nat} (hj:j<6) (K t:Nat):uY p j (uRunY p p.P K t):=by
 exact lt6 (P:=fun j=>uY p j (uRunY p p.P K t)) hj (uY_0 p K t) (uY_1 p K t) (uY_2 p K t) (uY_3 p K t) (uY_4 p K t) (uY_5 p K t)
noncomputable def nilB (l:List (Str×Nat)):Bool:=match l with
 | []=>true
 | _=>false
theorem namesF_ne {f:Str→Bool} : ∀ {l acc:List (Str×Nat)},acc≠ []→namesF f l acc≠ []
 | [],acc,h=>h
 | x::l,acc,h=>by
  unfold namesF
  cases f x.1 with
  | false=>exact namesF_ne h
  | true=>
   cases hasL (lowS x.1) acc with
   | true=>exact namesF_ne h
   | false=>exact namesF_ne (by simp)
theorem namesF_nil {f:Str→Bool} : ∀ {l:List (Str×Nat)},(∀ x∈l,f x.1=false)→namesF f l []= []
 | [],_=>rfl
 | x::l,h=>by
  unfold namesF
  rw [h x List.mem_cons_self]
  exact namesF_nil fun y hy=>h y (List.mem_cons_of_mem _ hy)
theorem namesF_some {f:Str→Bool} : ∀ {l:List (Str×Nat)},(∃ x∈l,f x.1=true)→namesF f l []≠ []
 | [],h=>by refine x0 h fun x h zz=>?_; cases h
 | x::l,h=>by
  unfold namesF
  cases q:f x.1 with
  | true=>exact namesF_ne (by simp)
  | false=>
   refine x0 h fun y hy e=>?_; clear h
   rcases List.mem_cons.mp hy with rfl | hy
   ·rw [q] at e; cases e
   ·exact namesF_some ⟨y,hy,e⟩
section
variable {w:World} {A:Around}
theorem wp_eq_nil {prog:Program} {sh:Shared} {k:Nat} (Rm:Room k A) {a b:Nat} {ss:List (Str×Nat)} {e e':Nat} (ha:sh.heap.get? a=some (listO (strsP ss).toArray e)) (hb:sh.heap.get? b=some (listO #[] e')) {Q:Value→Shared→Prop} {E:Value→Shared→Prop} (h:Q (.bool (nilB ss)) sh):wpAny (model prog w) A (compareOp .Eq (.ref a) (.ref b)) Q E sh:=by
 have hu:A.units<cLine:=by have:=Rm.units; lia
 cases ss with
 | nil=>
  refine PySem.SeqAt.eq_listAt (e:=fun zz=>true) (isList (xs:= []) ha) (isList (xs:= []) hb) rfl hu (fun j h1 h2=>absurd h1 (by simp)) ?_
  exact h
 | cons x l=>
  refine PySem.SeqAt.eq_list_lengthsAt (isList ha) (isList (xs:= []) hb) ?_ hu h
  simp [strsP]
theorem ruX {sh:Shared} (Rm:Room 6 A) (T:Top w sh) {p:UP} {refs:List Nat} {rows:List Row} {j:Nat} (H:UOk w sh p refs rows 3 j) (hne: ∃ r∈rows,takeF j 3 r.1=true):
  codeAny (model p.prog w) A (uC p) (fun r sh'=>∃ ts:List Tp,rows=ts.map (fun t=>(t.k,t.v))∧RuPost sh (rowsF 3 (namesR j 3 ts) rows) r sh') sh:=by
 refine walk_codeG T Rm rfl H.facts H.allK 700 hU1 fun K t hK ht=>?_
 have q:=uX_all p H.hj K t
 rw [H.hP] at q
 revert q
 show uX p j (runC p.prog w.params 700 (uC p) hU1 (uD p) K t)→_
 generalize runC p.prog w.params 700 (uC p) hU1 (uD p) K t=R
 intro q
 refine uA_ok Rm T H q fun x1 tm l2 hx tx R' a1 a2 a3 a4 a5 a6 q=>?_
 refine uB_ok Rm T H a1 a2 a3 a4 q fun ts fx lx refs' R' b1 b2 b3 b4 b5 b6 q=>?_
 refine CCut.ok (fun zz=>True) q Rm T.size (fun s sh1 B pre S T1 RB=>?_) fun zz R' zz q=>?_
 ·refine x6 (S.all0 pre) fun o1 zz o2 zz zz=>?_
  rw [b2] at o1
  refine wp_eq_nil RB o1 o2 ⟨(),?_,trivial,S.lg []⟩
  have hn:namesR j 3 ts≠ []:=by
   refine x0 hne fun r hr e=>?_; clear hne
   rw [b1] at hr
   refine x0 (List.mem_map.mp hr) fun t h1 hr1=>?_; subst hr1
   exact namesF_some ⟨(t.k,t.tk),List.mem_map_of_mem h1,e⟩
  have e:nilB (namesR j 3 ts)=false:=by
   cases q:namesR j 3 ts with
   | nil=>exact absurd q hn
   | cons x l=>rfl
  rw [e]
 refine CEnd.ok q fun sh' q S=>?_
 refine x4 q fun q1 q2 q3=>?_; clear q
 rw [b4] at q2
 exact ⟨ts,b1,uEnd T H a1 a2 a3 a6 b5 b6 S rfl rfl rfl rfl q1 q2 q3 fun x hx=>by cases hx⟩
end
section
variable {prog:Program} {w:World} {A:Around}
theorem own_spec {sh:Shared} {r a:Nat} {l:List Value} {t:Expr} (ht:isTup t=true) (hr:sh.heap.get? r=some (itmO a l)) {Q:Value→Shared→Prop} {E:Value→Shared→Prop}
  (h:Q .none {sh with heap:=sh.heap.update r (Obj.mapFields (·.setIfInBounds 0 .none))}):wpAny (model prog w) A (Sem.bind (letOwnedTupleGo t (.ref r) (.ref a)) fun zz=>.pure .none) Q E sh:=by
 unfold isTup at ht
 split at ht
 ·refine wpAny_bind (m:=letOwnedTupleGo _ _ _) ?_
  unfold letOwnedTupleGo
  refine wpAny_bind (wpAny_load hr ?_)
  show wpAny _ _ (if (["enumerate","zip","dict_itemiterator","dict_reverseitemiterator","odict_iterator","itertools.zip_longest","itertools.pairwise"].contains "dict_itemiterator" &&(rawInt (Int.ofNat a)::l).toArray[0]? ==some (rawInt a))=true then _ else _) _ _ _
  have e1: ["enumerate","zip","dict_itemiterator","dict_reverseitemiterator","odict_iterator","itertools.zip_longest","itertools.pairwise"].contains "dict_itemiterator" =true:=by decide+kernel
  have e2:((rawInt (Int.ofNat a)::l).toArray[0]? ==some (rawInt a))=true:=by
   simp [rawInt]
  rw [if_pos (by rw [e1,e2]; rfl)]
  refine wpAny_bind (wpAny_rule ?_)
  unfold updateField
  refine wpAny_bind (wpAny_load hr ?_)
  show wpAny _ _ (if 0<((rawInt (Int.ofNat a)::l).toArray).size then _ else _) _ _ _
  rw [if_pos (by simp)]
  exact wpAny_update hr (wpAny_pure h)
 ·cases ht
theorem itm_upd (a:Nat) (l:List Value):Obj.mapFields (·.setIfInBounds 0 .none) (itmO a l)=itmN l:=by simp [itmO,itmN,Obj.mapFields]
theorem ruY {sh:Shared} (Rm:Room 6 A) (T:Top w sh) {p:UP} {refs:List Nat} {rows:List Row} {j:Nat} (H:UOk w sh p refs rows 3 j) (hne: ∀ r∈rows,takeF j 3 r.1=false):
  codeAny (model p.prog w) A (uC p) (fun r sh'=>RuPost sh (rows++ [(sXAB,swq)]) r sh') sh:=by
 refine walk_codeG T Rm rfl H.facts H.allK 1500 hU1 fun K t hK ht=>?_
 have q:=uY_all p H.hj K t
 rw [H.hP] at q
 revert q
 show uY p j (runC p.prog w.params 1500 (uC p) hU1 (uD p) K t)→_
 generalize runC p.prog w.params 1500 (uC p) hU1 (uD p) K t=R
 intro q
 have hz:277≤sh.heap.objs.size:=T.l7
 refine uA_ok Rm T H q fun x1 tm l2 hx tx R' a1 a2 a3 a4 a5 a6 q=>?_
 refine uB_ok Rm T H a1 a2 a3 a4 q fun ts fx lx refs' R' b1 b2 b3 b4 b5 b6 q=>?_
 have hnil:namesR j 3 ts= []:=namesF_nil fun x hx=>by
  refine x0 (List.mem_map.mp hx) fun t ht hr1=>?_; subst hr1
  exact hne (t.k,t.v) (by rw [b1]; exact List.mem_map_of_mem ht)
 have hr6:RowsIn sh [] refs' rows:=by
  rw [hnil] at b6
  exact b6
 refine CCut.ok (fun zz=>True) q Rm T.size (fun s sh1 B pre S T1 RB=>?_) fun zz R' zz q=>?_
 ·refine x6 (S.all0 pre) fun o1 zz o2 zz zz=>?_
  rw [b2,hnil] at o1
  exact wp_eq_nil (ss:= []) RB o1 o2 ⟨(),rfl,trivial,S.lg []⟩
 refine CExt.ok q Rm T.size (fun sh1 B zz T1 RB=>conv_spec (b:=false) (memS_of (by kernel_rfl)) T1 RB _ _) fun R' q=>?_
 refine CCut.ok (fun zz=>True) q Rm T.size (fun s sh1 B pre S T1 RB=>?_) fun zz R' zz q=>?_
 ·refine own_spec (by kernel_rfl) (S.obj pre) ⟨(),rfl,trivial,?_⟩
  have z:=S.update pre (f:=Obj.mapFields (·.setIfInBounds 0 .none)) (by rw [itm_upd]; rfl) []
  rw [itm_upd] at z
  exact z
 refine CExt.ok q Rm T.size (fun sh1 B zz T1 RB=>conv_spec (b:=true) (memS_of (by kernel_rfl)) T1 RB _ _) fun R' q=>?_
 refine CExt.ok q Rm T.size (fun sh1 B zz T1 RB=>conv_spec (b:=false) (memS_of (by kernel_rfl)) T1 RB _ _) fun R' q=>?_
 refine CExt.ok q Rm T.size (fun sh1 B zz T1 RB=>conv_spec (b:=true) (memS_of (by kernel_rfl)) T1 RB _ _) fun R' q=>?_
 refine CSw.ok0 (fun zz=>True) q Rm T.size (fun s sh1 B pre S T1 RB=>?_) fun m R' zz q=>?_
 ·refine x4 pre fun pk g24 e24=>?_; clear pre
  refine x3 (S.all0 pk) fun o1 zz zz=>?_
  have hf:=fN_lt tx.f
  have ch:chA (csN [24+fN tx.f] (25+fN tx.f)) s.D l2:=by rw [←e24]; exact chA_at g24 (csN_at (by lia) (by simp))
  have hlen:lx.xs.size≤1000:=by
   rw [b4]
   have e1:refs'.length=rows.length:=by
    have: ∀ {a:List Nat} {b:List Row},RowsIn sh [] a b→a.length=b.length:=by
     intro a b h
     induction h with
     | nil=>rfl
     | old _ _ ih=>simp [ih]
     | new _ h _ _=>cases h
    exact this hr6
   have:=H.rowsA.length
   have:=H.len
   simp [refsA]; lia
  refine codeAny_mono (append_spec S.gens T1.toks o1 hlen) fun r' sh' hq=>x4 hq fun h1 h2 h3=>?_
  refine ⟨_,h1,trivial,h2.weak fun b hb=>by rw [hb]; exact ch,.of ⟨⟨h3,Nat.zero_le _⟩,trivial⟩ (by kernel_rfl),fun y hy=>.inr ?_⟩
  rcases List.mem_cons.mp hy with rfl | hy
  ·exact ch
  ·cases hy
 refine CEnd.ok q fun sh' q S=>?_
 refine x17 q fun q1 q2 q3 q4 q5=>?_; clear q
 refine x3 (S.all77 H.mu hz q5 q4 (by have hf:=fN_lt tx.f; rcases hf with h | h<;>rw [h]<;>simp)) fun o1 l1 zz=>?_
 refine x9 (S.all0 q2) fun c1 zz c2 zz c3 zz c4 zz zz=>?_
 have X:Ext (fun b=>b=73) sh sh':=(S.only (sh:=sh) rfl rfl rfl H.facts (cs:= [false,false,false]) (q1.trans rfl)).weak fun b hb=>by
  rcases hb with hb | hb
  ·exact hb
  ·exact hb.elim
 have old: ∀ {x:Nat},x∈refs'→∃ r,RowAt sh x r:=by
  intro x hx
  have: ∀ {l:List Nat} {b:List Row},RowsIn sh [] l b→x∈l→∃ r,RowAt sh x r:=by
   intro l b h
   induction h with
   | nil=>intro h; cases h
   | old h _ ih=>
    intro hm
    rcases List.mem_cons.mp hm with rfl | hm
    ·exact ⟨_,h⟩
    ·exact ih hm
   | new _ h _ _=>cases h
  exact this hr6 hx
 refine x0 (pick_mem (js:= [37+fN tx.f]) (D:=(stOf R').D) (by rw [q4]; exact List.mem_cons_self)) fun i hi gi=>?_
 rw [getD_eq] at gi
 rw [b4] at c3
 refine ⟨hx.h2,hx.d2,l2,refs'++ [_],m,rfl,⟨c1,⟨_,_,_,c2⟩,a2,a3⟩,a1,?_,(hr6.at X H.nt73 (fun x hx=>by cases hx)).app (.cons ⟨l1,_,_,o1⟩ .nil),?_,X,tab_end H a6 X c4 fun hf=>?_⟩
 ·refine c3.trans ?_
  simp [refsA]
 ·rw [List.nodup_append]
  refine ⟨b5,by simp,fun x hx y hy=>?_⟩
  rw [List.mem_singleton] at hy
  subst hy
  rintro rfl
  refine x52 (old hx) fun r zz tk tv e=>?_
  rcases S.muD i _ gi with q | q
  ·rcases q with q | q | q | q | q
   ·exact ne_of (o':=tupO _) H.self e (by kernel_rfl) q
   ·exact ne_of (o':=tupO _) H.d e (by kernel_rfl) q
   ·exact ne_of (o':=tupO _) H.l e (by kernel_rfl) q
   ·exact H.nt73 _ q _ e
   ·exact q
  ·exact absurd (Heap.lt_size e) (Nat.not_lt.mpr q)
 ·rw [hf] at q3
  refine x3 (S.all0 q3) fun o5 zz zz=>?_
  exact o5
end
noncomputable def namesS (f:Str→Bool):List Str→List Str→List Str
 | [],acc=>acc
 | x::l,acc=>match f x with
  | true=>(match acc.any fun y=>lowS y==lowS x with
   | true=>namesS f l acc
   | false=>namesS f l (acc++ [x]))
  | false=>namesS f l acc
theorem namesF_S (f:Str→Bool): ∀ (l acc:List (Str×Nat)),(namesF f l acc).map (·.1)=namesS f (l.map (·.1)) (acc.map (·.1))
 | [],acc=>rfl
 | x::l,acc=>by
  have e:((acc.map (·.1)).any fun y=>lowS y==lowS x.1)=hasL (lowS x.1) acc:=by
   unfold hasL
   rw [List.any_map]
   rfl
  show (namesF f (x::l) acc).map (·.1)=namesS f (x.1::l.map (·.1)) (acc.map (·.1))
  unfold namesF namesS
  rw [e]
  cases f x.1 with
  | false=>exact namesF_S f l acc
  | true=>
   cases hasL (lowS x.1) acc with
   | true=>exact namesF_S f l acc
   | false=>
    show (namesF f l (acc++ [x])).map (·.1)=_
    rw [namesF_S f l (acc++ [x])]
    simp
noncomputable def ruledR (j k:Nat) (rows:List Row):List Row:=
 if k<3 then (namesS (takeF j k) (rows.map (·.1)) []).foldl (rowOp k) rows else if rows.any (fun r=>takeF j 3 r.1)=true then rows else rows++ [(sXAB,swq)]
theorem rowsF_S (k:Nat) (names:List (Str×Nat)) (rows:List Row):rowsF k names rows=(names.map (·.1)).foldl (rowOp k) rows:=by
 unfold rowsF
 rw [List.foldl_map]
theorem rowsF_3: ∀ (names:List (Str×Nat)) (rows:List Row),rowsF 3 names rows=rows
 | [],_=>rfl
 | x::l,rows=>by
  show rowsF 3 l (rowOp 3 rows x.1)=rows
  have:rowOp 3 rows x.1=rows:=by unfold rowOp; rw [if_neg (by lia),if_neg (by lia)]
  rw [this]
  exact rowsF_3 l rows
theorem ruled_spec {prog:Program} {w:World} {A:Around} {sh:Shared} (Rm:Room 6 A) (T:Top w sh) {h d l n:Nat} {refs:List Nat} {rows:List Row} (H:HdrAt sh h d l) (hl:sh.heap.get? l=some (listO (refsA refs) n)) (hL:277≤l) (hr:RowsAt sh refs rows) (ok: ∀ r∈rows,OkRow r) (len:refs.length≤13) (nd:refs.Nodup) (tab:Tab sh)
  {k j:Nat} (hk:k<4) (hj:j<6) {z:Int} (z1:z.fmod (Int.ofNat (Nat.succ 3))=Int.ofNat k) (z2:(z.fdiv (Int.ofNat (Nat.succ 3))).fmod (Int.ofNat (Nat.succ 5))=Int.ofNat j) (tz:Nat):
  codeAny (model prog w) A (.call (.ref 252) ⟨[.ref h,.int z tz],[]⟩) (RuPost sh (ruledR j k rows)) sh:=by
 refine x8 H.dict fun hs ts ep hd=>?_
 have ho: ∃ o,sh.heap.get? 73=some o∧∃ xs,o=tabO xs:=by
  cases tab with
  | none h=>exact ⟨_,h,_,rfl⟩
  | code c cvs h _ _=>exact ⟨_,h,_,rfl⟩
 refine x0 ho fun o ho hx=>?_
 let p:UP:=⟨prog,w.params,h,d,l,n,refsA refs,hs,ts,ep,z,tz,o⟩
 have O:UOk w sh p refs rows k j:=⟨hk,hj,rfl,z1,z2,H.inst,hd,hl,H.hL,H.dL,hL,ho,hx,tab,rfl,hr,ok,len,nd⟩
 by_cases k3:k<3
 ·refine codeAny_mono (ruN Rm T O k3) fun r sh' hq=>?_
  refine x0 hq fun tt e hq=>?_
  have:rowsF k (namesR j k tt) rows=ruledR j k rows:=by
   unfold ruledR
   rw [if_pos k3,rowsF_S]
   unfold namesR
   rw [namesF_S]
   congr 2
   rw [e]
   simp
  rw [this] at hq
  exact hq
 ·have:k=3:=by lia
  subst this
  by_cases any:rows.any (fun r=>takeF j 3 r.1)=true
  ·refine codeAny_mono (ruX Rm T O (by simpa using any)) fun r sh' hq=>?_
   refine x0 hq fun tt e hq=>?_
   rw [rowsF_3] at hq
   unfold ruledR
   rw [if_neg k3,if_pos any]
   exact hq
  ·refine codeAny_mono (ruY Rm T O (fun r hr=>?_)) fun r sh' hq=>?_
   ·cases q:takeF j 3 r.1 with
    | false=>rfl
    | true=>exact absurd (List.any_eq_true.mpr ⟨r,hr,q⟩) any
   ·unfold ruledR
    rw [if_neg k3,if_neg any]
    exact hq
noncomputable def toX1:PySem.Expr:=asgV (nthS (fn 23).body 1)
noncomputable abbrev qTo:Str:=Str.ofString "_law_told.<locals>."
noncomputable def toC1 (it acc fr cf ct ck:Nat):Code:=compC toX1 it acc (compEnv (compScC toX1) qTo 256 fr cf [("taken",ct),("kind",ck)])
structure TP1 where
 prog:Program
 P:Params
 it:Nat
 l:Nat
 i:Nat
 n:Nat
 xs:Array Value
 cf:Nat
 hs:Nat→Int
 ts:Nat→Nat
 ep:Nat
 acc:Nat
 ys:Array Value
 m:Nat
 ct:Nat
 ck:Nat
 tl:Nat
 zs:Array Value
 e0:Nat
 kd:Nat
 tk:Nat
 fr:Nat
 a:Nat
 k:Str
 tk0:Nat
 v:Str
 tv:Nat
noncomputable def rowE:Option Value→List (Str×Value)
 | none=> []
 | some v=> [("row",v)]
noncomputable def t1D6 (p:TP1) (e:Option Value):List (Nat×Obj):=
 [(p.acc,listO p.ys p.m),(p.l,listO p.xs p.n),(p.it,iterO p.l p.i),(p.cf,dicO (rowE e) p.hs p.ts p.ep),(p.ct,cellO (.ref p.tl)),(p.ck,cellO (.int (Int.ofNat p.kd) p.tk))]
noncomputable def t1D (p:TP1) (e:Option Value):List (Nat×Obj):=
 [(p.acc,listO p.ys p.m),(p.l,listO p.xs p.n),(p.it,iterO p.l p.i),(p.cf,dicO (rowE e) p.hs p.ts p.ep),(p.ct,cellO (.ref p.tl)),(p.ck,cellO (.int (Int.ofNat p.kd) p.tk)),(p.a,tupO [.str p.k p.tk0,.str p.v p.tv]),(p.tl,listO p.zs p.e0)]
noncomputable abbrev t1C (p:TP1):Code:=toC1 p.it p.acc p.fr p.cf p.ct p.ck
noncomputable def t1Loop (p:TP1) (ys:Array Value) (m:Nat):Rs→Prop:=
 CLoop (t1C p) fun s=>keepD [true,false,true,true,false,false,false,false] s.D=keepD [true,false,true,true,false,false,false,false] (t1D p none)∧
  pick [0,2,3] s.D= [(p.acc,listO ys m),(p.it,iterO p.l (p.i+1)),(p.cf,dicO (rowE (some (.ref p.a))) (hsOf (dOf s 3)) (tsOf (dOf s 3)) (epOf (dOf s 3)))]
noncomputable instance t1Loop.rf {p:TP1} {ys:Array Value} {m:Nat} {R:Rs} :Rf (t1Loop p ys m R):=by
 delta t1Loop; infer_instance
noncomputable def t1In (p:TP1) (b:Bool) (hs:List Nat) (P:Rs→Prop):Rs→Prop:=
 CNext p.it p.l p.i p.n p.xs 2 1 (.ref p.a) [4,4,4,7,7,7,0,7,0,7,1]<|CCall (X:=Nat) (fun zz=>lowerC p.k p.tk0) (fun zz=>True) (fun t=>.ok (.ret (.str (lowS p.k) t))) [] (fun zz=> []) [5,8,8,1] fun t=>
  CSw (X:=Unit) (fun zz=>.call (.builtin "list.__contains__") ⟨[.ref p.tl,.str (lowS p.k) t],[]⟩) (fun s=>pick [7] s.D= [(p.tl,listO p.zs p.e0)]) (fun zz=>.ok (.ret (.bool b))) [] (fun zz zz=> []) (fun zz=>hs) fun zz=>P
noncomputable instance t1In.rf {p:TP1} {b:Bool} {hs:List Nat} {P:Rs→Prop} {R:Rs} [∀ y1,Rf (P y1)]:Rf (t1In p b hs P R):=by
 delta t1In; infer_instance
noncomputable def t1T1 (p:TP1) (b:Bool):Rs→Prop:=t1In p b [6,0,0,0,0,4,1]<|CApp p.acc p.m p.ys (.ref p.a) 0 [1]<|t1Loop p (p.ys.push (.ref p.a)) (p.m+1)
noncomputable instance t1T1.rf {p:TP1} {b:Bool} {R:Rs} :Rf (t1T1 p b R):=by
 delta t1T1; infer_instance
noncomputable def t1T0 (p:TP1) (b:Bool):Rs→Prop:=t1In p b [6,0,0,0,0,1]<|t1Loop p p.ys p.m
noncomputable instance t1T0.rf {p:TP1} {b:Bool} {R:Rs} :Rf (t1T0 p b R):=by
 delta t1T0; infer_instance
noncomputable def t1E (p:TP1) (e:Option Value):Rs→Prop:=
 CLast p.it p.l p.i p.n p.xs 2 1 [7] fun zz=>CEnd (.ok .next) fun s=>keepD [false,false,true,false,false,false] s.D=keepD [false,false,true,false,false,false] (t1D6 p e)
noncomputable instance t1E.rf {p:TP1} {e:Option Value} {R:Rs} :Rf (t1E p e R):=by
 delta t1E; infer_instance
noncomputable abbrev t1Run (p:TP1) (P:Params) (D:List (Nat×Obj)) (K t:Nat):Rs:=runC p.prog P 150 (t1C p) [3,1] D K t
theorem t1E_0 (p:TP1) (e:Option Value) (K t:Nat):t1E p e (t1Run p p.P (t1D6 p e) K t):=pset1 (X:=fun P=>t1E p e (t1Run p P (t1D6 p e) K t)) (by intro b1; revert e; exact Rf.prove _ (by kernel_rfl))
theorem t1T1_all (p:TP1) {b:Bool} (hk:p.kd<4) (h:(b==(p.kd==1))=true) (e:Option Value) (K t:Nat):t1T1 p b (t1Run p p.P (t1D p e) K t):=by
 refine pset1 (X:=fun P=>t1T1 p b (t1Run p P (t1D p e) K t)) fun b1 b2=>?_
 exact kbE (P:=fun k b=>t1T1 {p with kd:=k} b (t1Run {p with kd:=k} (pset b1 b2 p.P) (t1D {p with kd:=k} e) K t)) (by revert b2 e; exact Rf.prove _ (by kernel_rfl)) (by revert b2 e; exact Rf.prove _ (by kernel_rfl)) (by revert b2 e; exact Rf.prove _ (by kernel_rfl)) (by revert b2 e; exact Rf.prove _ (by kernel_rfl)) hk (ne_ff h)
theorem t1T0_all (p:TP1) {b:Bool} (hk:p.kd<4) (h:(b==(p.kd==1))=false) (e:Option Value) (K t:Nat):t1T0 p b (t1Run p p.P (t1D p e) K t):=by
 refine pset1 (X:=fun P=>t1T0 p b (t1Run p P (t1D p e) K t)) fun b1 b2=>?_
 exact kbN (P:=fun k b=>t1T0 {p with kd:=k} b (t1Run {p with kd:=k} (pset b1 b2 p.P) (t1D {p with kd:=k} e) K t)) (by revert b2 e; exact Rf.prove _ (by kernel_rfl)) (by revert b2 e; exact Rf.prove _ (by kernel_rfl)) (by revert b2 e; exact Rf.prove _ (by kernel_rfl)) (by revert b2 e; exact Rf.prove _ (by kernel_rfl)) hk (ne_tt h)
noncomputable def takenL (j:Nat):List Str:=match j with
 | 0=> [sxa,sxb,sxab]
 | 1=> [sxa,sxb]
 | 2=> [saccept,shost]
 | 3=> [saccept,shost]
 | 4=> [saccept,sxa,sxab]
 | _=> [sxab]
theorem takenL_any (j:Nat) (nm:Str):(takenL j).any (fun x=>x==nm)=takesB j nm:=by
 have c: ∀ a:Str,(a==nm)=(nm==a):=fun a=>by rw [Bool.eq_iff_iff,beq_iff_eq,beq_iff_eq]; exact eq_comm
 match j with
 | 0=>
  show (sxa==nm || (sxb==nm || (sxab==nm || false)))=(nm==sxa || nm==sxb || nm==sxab)
  rw [c sxa,c sxb,c sxab,Bool.or_false,Bool.or_assoc]
 | 1=>
  show (sxa==nm || (sxb==nm || false))=(nm==sxa || nm==sxb)
  rw [c sxa,c sxb,Bool.or_false]
 | 2=>
  show (saccept==nm || (shost==nm || false))=(nm==saccept || nm==shost)
  rw [c saccept,c shost,Bool.or_false]
 | 3=>
  show (saccept==nm || (shost==nm || false))=(nm==saccept || nm==shost)
  rw [c saccept,c shost,Bool.or_false]
 | 4=>
  show (saccept==nm || (sxa==nm || (sxab==nm || false)))=(nm==saccept || nm==sxa || nm==sxab)
  rw [c saccept,c sxa,c sxab,Bool.or_false,Bool.or_assoc]
 | _+5=>
  show (sxab==nm || false)=(nm==sxab)
  rw [c sxab,Bool.or_false]
theorem any_map1 (ps:List (Str×Nat)) (s:Str):(ps.any fun x=>x.1==s)=(ps.map (·.1)).any (fun x=>x==s):=by rw [List.any_map]; rfl
section
variable {prog:Program} {w:World}
theorem in_strs {A:Around} {sh:Shared} {l n t:Nat} {s:Str} {ps:List (Str×Nat)} (hg:sh.gens= #[]) (ht:849≤sh.toks) (hl:sh.heap.get? l=some (listO (strsP ps).toArray n)):
  codeAny (model prog w) A (.call (.builtin "list.__contains__") ⟨[.ref l,.str s t],[]⟩) (fun r sh'=>r= .ok (.ret (.bool (ps.any fun x=>x.1==s)))∧Ext none_ sh sh') sh:=by
 refine code_slot F.slot_list_contains ⟨_,hl,rfl⟩ F.entry_list_contains (F.args_list_contains_2 _ _) (PySem.SeqAt.list_containsAt l (strsP ps).toArray n none #[] _ (isS s) prog w A _ sh ⟨hl,fun y hy=>?_,?_⟩)
 ·refine x0 (strsP_mem (by simpa using hy)) fun x zz hr1=>?_; subst hr1
  exact (PyProof.Rows.eqGives_str _ _ _ _).at _ _
 ·refine ⟨?_,.refl hg ht⟩
  rw [←strsP_any]
  simp
noncomputable def t1Mu (p:TP1) (b:Nat):Prop:=b=p.acc∨b=p.it∨b=p.cf
structure TlAt (sh:Shared) (p:TP1) (j:Nat):Prop where
 h: ∃ ps:List (Str×Nat),p.zs=(strsP ps).toArray∧ps.map (·.1)=takenL j
 tl:sh.heap.get? p.tl=some (listO p.zs p.e0)
 lo:277≤p.tl
 n1:p.tl≠p.l
 n2:p.tl≠p.acc
noncomputable def leftF (j k:Nat) (r:Row):Bool:=takesB j (lowS r.1)==(k==1)
theorem t1_facts6 {sh:Shared} {p:TP1} {e:Option Value} (H:OwnAll 277 sh (t1D6 p e)) (hne:p.l≠p.acc) (hc:p.ct≠p.ck):Facts 277 sh (t1D6 p e):=by
 refine x14 H fun o1 l1 o2 l2 o3 l3 o4 l4 o5 l5 o6 l6 zz=>?_; clear H
 refine .cons o1 l1 (ne_cons hne (ne_cons (ne_of o1 o3 (by kernel_rfl)) (ne_cons (ne_of o1 o4 (by kernel_rfl)) (ne_cons (ne_of o1 o5 (by kernel_rfl)) (ne_cons (ne_of o1 o6 (by kernel_rfl)) ne_nil))))) ?_
 refine .cons o2 l2 (ne_cons (ne_of o2 o3 (by kernel_rfl)) (ne_cons (ne_of o2 o4 (by kernel_rfl)) (ne_cons (ne_of o2 o5 (by kernel_rfl)) (ne_cons (ne_of o2 o6 (by kernel_rfl)) ne_nil)))) ?_
 refine .cons o3 l3 (ne_cons (ne_of o3 o4 (by kernel_rfl)) (ne_cons (ne_of o3 o5 (by kernel_rfl)) (ne_cons (ne_of o3 o6 (by kernel_rfl)) ne_nil))) ?_
 refine .cons o4 l4 (ne_cons (ne_of o4 o5 (by kernel_rfl)) (ne_cons (ne_of o4 o6 (by kernel_rfl)) ne_nil)) ?_
 exact .cons o5 l5 (ne_cons (Ne.symm hc) ne_nil) (.cons o6 l6 ne_nil .nil)
theorem t1_facts {sh:Shared} {p:TP1} {e:Option Value} (H:OwnAll 277 sh (t1D p e)) (hne:p.l≠p.acc) (hc:p.ct≠p.ck) (n1:p.tl≠p.l) (n2:p.tl≠p.acc):Facts 277 sh (t1D p e):=by
 refine x32 H fun o1 l1 o2 l2 o3 l3 o4 l4 o5 l5 o6 l6 o7 l7 o8 l8 zz=>?_; clear H
 refine .cons o1 l1 (ne_cons hne (ne_cons (ne_of o1 o3 (by kernel_rfl)) (ne_cons (ne_of o1 o4 (by kernel_rfl)) (ne_cons (ne_of o1 o5 (by kernel_rfl)) (ne_cons (ne_of o1 o6 (by kernel_rfl)) (ne_cons (ne_of o1 o7 (by kernel_rfl)) (ne_cons n2 ne_nil))))))) ?_
 refine .cons o2 l2 (ne_cons (ne_of o2 o3 (by kernel_rfl)) (ne_cons (ne_of o2 o4 (by kernel_rfl)) (ne_cons (ne_of o2 o5 (by kernel_rfl)) (ne_cons (ne_of o2 o6 (by kernel_rfl)) (ne_cons (ne_of o2 o7 (by kernel_rfl)) (ne_cons n1 ne_nil)))))) ?_
 refine .cons o3 l3 (ne_cons (ne_of o3 o4 (by kernel_rfl)) (ne_cons (ne_of o3 o5 (by kernel_rfl)) (ne_cons (ne_of o3 o6 (by kernel_rfl)) (ne_cons (ne_of o3 o7 (by kernel_rfl)) (ne_cons (ne_of o3 o8 (by kernel_rfl)) ne_nil))))) ?_
 refine .cons o4 l4 (ne_cons (ne_of o4 o5 (by kernel_rfl)) (ne_cons (ne_of o4 o6 (by kernel_rfl)) (ne_cons (ne_of o4 o7 (by kernel_rfl)) (ne_cons (ne_of o4 o8 (by kernel_rfl)) ne_nil)))) ?_
 refine .cons o5 l5 (ne_cons (Ne.symm hc) (ne_cons (ne_of o5 o7 (by kernel_rfl)) (ne_cons (ne_of o5 o8 (by kernel_rfl)) ne_nil))) ?_
 refine .cons o6 l6 (ne_cons (ne_of o6 o7 (by kernel_rfl)) (ne_cons (ne_of o6 o8 (by kernel_rfl)) ne_nil)) ?_
 exact .cons o7 l7 (ne_cons (ne_of o7 o8 (by kernel_rfl)) ne_nil) (.cons o8 l8 ne_nil .nil)
theorem t1_noTup {sh:Shared} {p:TP1} {e:Option Value} (H:OwnAll 277 sh (t1D6 p e)):NoTup sh (t1Mu p):=by
 rintro b (rfl | rfl | rfl) xs h
 ·exact ne_of (o':=tupO xs) H.1.1 h (by kernel_rfl) rfl
 ·exact ne_of (o':=tupO xs) H.2.2.1.1 h (by kernel_rfl) rfl
 ·exact ne_of (o':=tupO xs) H.2.2.2.1.1 h (by kernel_rfl) rfl
theorem to1_loop {A:Around} (Rm:Room 1 A) {j:Nat} (rest:List Nat): ∀ (rrest:List Row) {sh:Shared} (T:Top w sh) (p:TP1) (hp:p.P=w.params) (hg:p.prog=prog) (hk:p.kd<4) (e:Option Value) (H:OwnAll 277 sh (t1D6 p e)) (hne:p.l≠p.acc) (hc:p.ct≠p.ck) (Tl:TlAt sh p j)
  (hx: ∀ i,p.xs[p.i+i]? =(rest[i]?).map Value.ref) (hr:RowsAt sh rest rrest) (ok: ∀ r∈rrest,OkRow r) (hsz:p.ys.size+rest.length≤100),
  codeAny (model prog w) A (t1C p) (fun r sh'=>r= .ok .next∧Ext (t1Mu p) sh sh'∧
   ∃ (m':Nat) (e':Option Value) (hs:Nat→Int) (ts:Nat→Nat) (ep:Nat),OwnAll 277 sh' [(p.acc,listO (p.ys++refsA (selR (leftF j p.kd) rest rrest)) m'),(p.cf,dicO (rowE e') hs ts ep)]) sh:=by
 induction rest with
 | nil=>
  intro rrest sh T p hp hg hk e H hne hc Tl hx hr ok hsz
  subst hg
  have F:=t1_facts6 H hne hc
  refine walk_code T Rm rfl F 150 [3,1] fun K t hK=>?_
  have q:=t1E_0 p e K t
  rw [hp] at q
  revert q
  show t1E p e (runC p.prog w.params 150 (t1C p) [3,1] (t1D6 p e) K t)→_
  generalize runC p.prog w.params 150 (t1C p) [3,1] (t1D6 p e) K t=R
  intro q
  refine CLast.ok q Rm T.size (by simpa using hx 0) fun e1 R' q=>?_
  refine CEnd.ok q fun sh' q S=>?_
  have X:=(S.only (sh:=sh) rfl rfl rfl F q).weak (mu':=fun b=>b=p.it) fun b h=>by
   rcases h with h | h
   ·exact h
   ·exact h.elim
  refine x9 H fun o1 l1 o2 l2 o3 l3 o4 l4 zz=>?_; clear H
  refine ⟨rfl,X.weak fun b h=>.inr (.inl h),p.m,e,p.hs,p.ts,p.ep,⟨⟨?_,l1⟩,⟨X.keep _ _ o4 (ne_of o3 o4 (by kernel_rfl)),l4⟩,trivial⟩⟩
  show sh'.heap.get? p.acc=some (listO (p.ys++ #[]) p.m)
  rw [Array.append_empty]
  exact X.keep _ _ o1 (ne_of o3 o1 (by kernel_rfl))
 | cons a rest ih=>
  intro rrest sh T p hp hg hk e H hne hc Tl hx hr ok hsz
  subst hg
  cases hr with
  | @cons _ r _ rs ha hr=>
  refine x11 ha fun h1 tk tv h2=>?_; clear ha
  let p':TP1:= {p with a:=a,k:=r.1,v:=r.2,tk0:=tk,tv:=tv}
  refine x14 (id H) fun o1 l1 o2 l2 o3 l3 o4 l4 o5 l5 o6 l6 zz=>?_
  have H':OwnAll 277 sh (t1D p' e):=⟨⟨o1,l1⟩,⟨o2,l2⟩,⟨o3,l3⟩,⟨o4,l4⟩,⟨o5,l5⟩,⟨o6,l6⟩,⟨h2,h1⟩,⟨Tl.tl,Tl.lo⟩,trivial⟩
  have F:=t1_facts H' hne hc Tl.n1 Tl.n2
  have okr:=ok r List.mem_cons_self
  have hz:277≤sh.heap.objs.size:=T.l7
  have h0:p.xs[p.i]? =some (.ref a):=by simpa using hx 0
  refine x0 Tl.h fun ps hzs hps=>?_
  let b:=takesB j (lowS r.1)
  have hb:(ps.any fun x=>x.1==lowS r.1)=b:=by rw [any_map1,hps]; exact takenL_any j _
  refine walk_code T Rm rfl F 150 [3,1] fun K t hK=>?_
  have go: ∀ (ys:Array Value) (m:Nat) (R:Rs),t1Loop p' ys m R→ys.size≤p.ys.size+1→(ys++refsA (selR (leftF j p.kd) rest rs)=p.ys++refsA (selR (leftF j p.kd) (a::rest) (r::rs)))→
    Ok (sv p.prog w A (fun r' sh'=>r'= .ok .next∧Ext (t1Mu p) sh sh'∧∃ (m':Nat) (e':Option Value) (hs:Nat→Int) (ts:Nat→Nat) (ep:Nat),OwnAll 277 sh' [(p.acc,listO (p.ys++refsA (selR (leftF j p.kd) (a::rest) (r::rs))) m'),(p.cf,dicO (rowE e') hs ts ep)]) sh.heap (inD (t1D p' e)) sh.os sh.toks) R:=by
   intro ys m R q hys hsel
   refine CLoop.ok q fun sh' q S=>?_
   refine x2 q fun q1 q2=>?_; clear q
   have X:=(S.only (sh:=sh) rfl rfl rfl F (cs:= [true,false,true,true,false,false,false,false]) (q1.trans rfl)).weak (mu':=t1Mu p) fun b hb=>by
    rcases hb with hb | hb | hb | hb
    ·exact .inl hb
    ·exact .inr (.inl hb)
    ·exact .inr (.inr hb)
    ·exact hb.elim
   refine x7 (S.all rfl rfl hz F q2) fun a1 m1 a2 m2 a3 m3 zz=>?_
   have kp: ∀ {x:Nat} {o:Obj},sh.heap.get? x=some o→x≠p.acc→kne (iterO p.l p.i).cls o.cls=true→kne (dicO (rowE e) p.hs p.ts p.ep).cls o.cls=true→sh'.heap.get? x=some o:=fun h hn h1 h2=>X.keep _ _ h (by
    rintro (q | q | q)
    ·exact hn q
    ·exact ne_of o3 h h1 q
    ·exact ne_of o4 h h2 q)
   have hsz':p.ys.size+(rest.length+1)≤100:=hsz
   refine codeAny_mono (ih rs (T.ext X ?_) {p with i:=p.i+1,ys:=ys,m:=m,hs:=_,ts:=_,ep:=_} hp rfl hk (some (.ref a)) ⟨⟨a1,l1⟩,⟨kp o2 hne (by kernel_rfl) (by kernel_rfl),l2⟩,⟨a2,l3⟩,⟨a3,l4⟩,⟨kp o5 (ne_of o1 o5 (by kernel_rfl)) (by kernel_rfl) (by kernel_rfl),l5⟩,⟨kp o6 (ne_of o1 o6 (by kernel_rfl)) (by kernel_rfl) (by kernel_rfl),l6⟩,trivial⟩ hne hc
    ⟨⟨ps,hzs,hps⟩,kp Tl.tl Tl.n2 (by kernel_rfl) (by kernel_rfl),Tl.lo,Tl.n1,Tl.n2⟩ ?_ (hr.ext X (t1_noTup H)) (fun r h=>ok r (List.mem_cons_of_mem _ h)) (by show ys.size+rest.length≤100; lia)) fun r' sh'' hq=>?_
   ·rintro b (rfl | rfl | rfl)
    ·exact l1
    ·exact l3
    ·exact l4
   ·intro i
    have:=hx (i+1)
    rw [List.getElem?_cons_succ] at this
    rw [←this]
    show p.xs[p.i+1+i]? =_
    rw [show p.i+1+i=p.i+(i+1) by lia]
   ·refine x53 hq fun g1 g2 m' e' hs' ts' ep' g4=>?_; clear hq
    refine ⟨g1,X.trans g2,m',e',hs',ts',ep',?_⟩
    rw [←hsel]
    exact g4
  have inOk: ∀ (hh:List Nat) (P:Rs→Prop) (R:Rs) (Q:Result→Shared→Prop),t1In p' b hh P R→(∀ R',P R'→Ok (sv p.prog w A Q sh.heap (inD (t1D p' e)) sh.os sh.toks) R')→Ok (sv p.prog w A Q sh.heap (inD (t1D p' e)) sh.os sh.toks) R:=by
   intro hh P R Q q hP
   refine CNext.ok q Rm T.size h0 fun R' q=>?_
   refine CCall.ok (fun zz=>True) q Rm T.size (fun s sh1 B zz S T1 RB=>?_) fun t' R' zz q=>?_
   ·exact codeAny_mono (lower_spec (names7_9 okr.1) T1 RB tk) fun r' sh' hq=>x0 hq fun t' h1 h2=>⟨t',h1,trivial,h2,.nil⟩
   refine CSw.ok (fun zz=>True) q Rm T.size (fun s sh1 B pre S T1 RB=>?_) fun zz R' zz q=>hP R' q
   refine x3 (S.all0 pre) fun otl zz zz=>?_
   have otl:sh1.heap.get? p.tl=some (listO (strsP ps).toArray p.e0):=by rw [←hzs]; exact otl
   have z:=in_strs (prog:=p.prog) (w:=w) (A:=B) (t:=t') (s:=lowS r.1) S.gens T1.toks otl
   rw [hb] at z
   exact codeAny_mono z fun r' sh' hq=>x2 hq fun h1 h2=>⟨(),h1,trivial,h2,.nil,fun y hy=>by cases hy⟩
  cases hq:(b==(p.kd==1)) with
  | true=>
   have q:=t1T1_all p' (b:=b) hk hq e K t
   rw [show p'.P=w.params from hp] at q
   revert q
   show t1T1 p' b (runC p.prog w.params 150 (t1C p) [3,1] (t1D p' e) K t)→_
   generalize runC p.prog w.params 150 (t1C p) [3,1] (t1D p' e) K t=R
   intro q
   refine inOk _ _ R _ q fun R' q=>?_
   refine CApp.ok q Rm T.size (by show p.ys.size≤1000; lia) fun R' q=>?_
   refine go _ _ R' q (by show (p.ys.push _).size≤_; simp) ?_
   show p.ys.push (.ref a)++_=_
   have hl:leftF j p.kd r=true:=hq
   simp [selR,hl,refsA]
  | false=>
   have q:=t1T0_all p' (b:=b) hk hq e K t
   rw [show p'.P=w.params from hp] at q
   revert q
   show t1T0 p' b (runC p.prog w.params 150 (t1C p) [3,1] (t1D p' e) K t)→_
   generalize runC p.prog w.params 150 (t1C p) [3,1] (t1D p' e) K t=R
   intro q
   refine inOk _ _ R _ q fun R' q=>?_
   refine go _ _ R' q (by show p.ys.size≤_; lia) ?_
   show p.ys++_=_
   have hl:leftF j p.kd r=false:=hq
   simp [selR,hl]
end
noncomputable def riO (i left:Int):Obj:= {cls:=.type "range_iterator",data:=.fields #[.int i 0,.int left 0,.int 1 0]}
noncomputable def rangeO (n:Nat) (t u v:Nat):Obj:= {cls:=.type "range",data:=.fields #[.int 0 t,.int (n:Int) u,.int 1 v]}
section
variable {prog:Program} {w:World} {A:Around} {sh:Shared}
theorem rnext_item {it:Nat} {i left:Int} (hg:sh.gens= #[]) (ht:849≤sh.toks) (hit:sh.heap.get? it=some (riO i left)) (hl:0<left):
  codeAny (model prog w) A (.call (.builtin "range_iterator.__next__") ⟨[.ref it],[]⟩) (fun r sh'=>∃ t,r= .ok (.ret (.int i t))∧Ext (fun b=>b=it) sh sh'∧sh'.heap.get? it=some (riO (i+1) (left - 1))) sh:=by
 refine code_slot F.slot_range_iterator_next ⟨_,hit,rfl⟩ F.entry_range_iterator_next (F.args_range_iterator_next_1 _) (AutoRange.range_iterator___next___range_iterator_1 it i left 1 (by lia) prog w A (fun r sh'=>∃ t,r= .ok (.ret (.int i t))∧Ext (fun b=>b=it) sh sh'∧sh'.heap.get? it=some (riO (i+1) (left - 1))) sh ⟨hit,sh.toks,rfl,?_,?_⟩)
 ·exact ⟨fun b x e hn=>Heap.get?_update_of_ne _ (Ne.symm hn) (Heap.get?_update_of_ne _ (Ne.symm hn) e),hg,rfl,by simp only [Heap.size_after_update]; lia,by show 849≤sh.toks+1; lia,by show sh.toks≤sh.toks+1; lia⟩
 ·exact Heap.get?_update_self _ (Heap.get?_update_self _ hit rfl) rfl
theorem rnext_end {it:Nat} {i left:Int} (hg:sh.gens= #[]) (ht:849≤sh.toks) (hh:A.handled=none) (hit:sh.heap.get? it=some (riO i left)) (hl:left≤0):
  codeAny (model prog w) A (.call (.builtin "range_iterator.__next__") ⟨[.ref it],[]⟩) (fun r sh'=>∃ e vs,r= .error (.ref e)∧Ext none_ sh sh'∧sh.heap.objs.size≤e∧sh'.heap.get? e=some (stopO vs)) sh:=by
 refine code_slot F.slot_range_iterator_next ⟨_,hit,rfl⟩ F.entry_range_iterator_next (F.args_range_iterator_next_1 _) ?_
 show wpAny _ _ (field (.ref it) 0>>=_) _ _ sh
 refine wpAny_bind (wpAny_field hit rfl (x:=.int i 0) rfl ?_)
 show wpAny _ _ (field (.ref it) 1>>=_) _ _ sh
 refine wpAny_bind (wpAny_field hit rfl (x:=.int left 0) rfl ?_)
 show wpAny _ _ (field (.ref it) 2>>=_) _ _ sh
 refine wpAny_bind (wpAny_field hit rfl (x:=.int 1 0) rfl ?_)
 show wpAny _ _ (if left≤0 then _ else _) _ _ sh
 rw [if_pos hl]
 refine wpAny_bind (wpAny_rule ?_)
 refine wpAny_bind ?_
 show wpAny _ _ (newExc (.type "StopIteration") []>>=_) _ _ _
 refine wpAny_bind ?_
 simp only [newExc,newTuple]
 refine wpAny_bind (wpAny_newObj_type ?_ (by size_fits))
 refine wpAny_bind (m:=firstArgMember _ _) (wpAny_of_eq (a:=Value.none) (by first | rfl | (simp only [firstArgMember]; rfl)) ?_)
 refine wpAny_newObj_type ?_ (by size_fits)
 simp only [raiseNew]
 refine wpAny_bind (wpAny_handled ?_)
 rw [show A.in1.handled=none from hh]
 refine wpAny_bind (wpAny_pure (wpAny_throw ?_))
 refine ⟨_,_,rfl,⟨fun b x e zz=>Heap.get?_push_of_some _ (Heap.get?_push_of_some _ e),hg,rfl,?_,ht,Nat.le_refl _⟩,?_,Heap.get?_push_size _ rfl⟩
 ·simp only [Heap.size_push]; lia
 ·simp only [Heap.size_push]; lia
theorem range_small: ∀ n:Nat,n≤100→Builtin.Range.small 0 (n:Int) 1=true:=by decide+kernel
theorem range_size: ∀ n:Nat,n≤100→Builtin.Range.rangeSize 0 (n:Int) 1=(n:Int):=by decide+kernel
theorem riter_spec {r n t u v:Nat} (hg:sh.gens= #[]) (ht:849≤sh.toks) (hr:sh.heap.get? r=some (rangeO n t u v)) (hn:n≤100):
  codeAny (model prog w) A (.call (.builtin "range.__iter__") ⟨[.ref r],[]⟩) (fun r sh'=>r= .ok (.ret (.ref sh.heap.objs.size))∧Ext none_ sh sh'∧sh'.heap.get? sh.heap.objs.size=some (riO 0 (Int.ofNat n))) sh:=by
 have hs:=range_small n hn
 have hz:=range_size n hn
 refine code_slot F.slot_range_iter ⟨_,hr,rfl⟩ F.entry_range_iter (F.args_range_iter_1 _) (AutoRange.range___iter___range_1 r _ _ _ t u v (by unfold Builtin.Range.small at hs; rw [hs]; decide) prog w A (fun r sh'=>r= .ok (.ret (.ref sh.heap.objs.size))∧Ext none_ sh sh'∧sh'.heap.get? sh.heap.objs.size=some (riO 0 (Int.ofNat n))) sh ⟨hr,rfl,?_,?_⟩)
 ·exact push_ext hg ht
 ·unfold Builtin.Range.small at hs
  rw [hs,hz]
  exact Heap.get?_push_size _ rfl
theorem getitem_spec {l n i:Nat} {xs:Array Value} {x:Value} (tk:Nat) (hg:sh.gens= #[]) (ht:849≤sh.toks) (hl:sh.heap.get? l=some (listO xs n)) (hi:i≤1000) (hx:xs[i]? =some x):
  codeAny (model prog w) A (.call (.builtin "list.__getitem__") ⟨[.ref l,.int (Int.ofNat i) tk],[]⟩) (fun r sh'=>r= .ok (.ret x)∧Ext none_ sh sh') sh:=by
 obtain ⟨z,hz⟩: ∃ z:Int,z=Int.ofNat i:=⟨_,rfl⟩
 rw [←hz]
 refine code_slot slot_list_getitem ⟨_,hl,rfl⟩ entry_list_getitem (args_list_getitem _ _) ?_
 show wpAny _ _ (Builtin.List.listSubscript? (.int z tk)>>=_) _ _ sh
 have hz':z=(i:Int):=hz
 refine wpAny_bind (wpAny_listSubscript_int (fitsIndex_of (by lia) (by lia)) ?_)
 subst hz
 show wpAny _ _ ((seqItemAt l i>>=fun r=>pure (r.map (i,·)))>>=_) _ _ sh
 refine wpAny_bind (wpAny_bind (wpAny_seqItemAt hl rfl (wpAny_pure ?_)))
 rw [hx]
 first
  | exact wpAny_bind (wpAny_pure (wpAny_pure ⟨rfl,.refl hg ht⟩))
  | exact wpAny_pure ⟨rfl,.refl hg ht⟩
theorem getslice_spec {l n sl i:Nat} {t:Nat} {xs:Array Value} (hg:sh.gens= #[]) (ht:849≤sh.toks) (hl:sh.heap.get? l=some (listO xs n)) (hs:sh.heap.get? sl=some (sliceO .none (.int (Int.ofNat i) t) .none)) (hi:i≤xs.size) (hz:xs.size≤1000):
  codeAny (model prog w) A (.call (.builtin "list.__getitem__") ⟨[.ref l,.ref sl],[]⟩) (fun r sh'=>r= .ok (.ret (.ref sh.heap.objs.size))∧Ext none_ sh sh'∧sh'.heap.get? sh.heap.objs.size=some (listO (xs.toList.take i).toArray 0)) sh:=by
 refine code_slot slot_list_getitem ⟨_,hl,rfl⟩ entry_list_getitem (args_list_getitem _ _) ?_
 have hTs:sh.TypeIs (.ref sl) "slice" :=⟨_,hs,rfl⟩
 show wpAny _ _ (Builtin.List.listSubscript? (.ref sl)>>=_) _ _ sh
 refine wpAny_bind ?_
 unfold Builtin.List.listSubscript?
 refine wpAny_bind (wpAny_specialOf hTs idx_slice ?_)
 simp only [Option.isNone_none,if_true]
 refine wpAny_pure ?_
 refine wpAny_bind (wpAny_typeOf hTs ?_)
 rw [if_neg (by decide)]
 rw [listSliceParts_eq]
 refine wpAny_bind (wpAny_bind (wpAny_field hs rfl (x:=.none) rfl (wpAny_bind (wpAny_listPart .none ?_))))
 rw [if_neg (show ¬ ((rawPart none==rawInt 0)=true) from Bool.false_ne_true)]
 refine wpAny_bind (wpAny_field hs rfl (x:=.none) rfl (wpAny_bind (wpAny_listPart .none ?_)))
 refine wpAny_bind (wpAny_field hs rfl (x:=.int (Int.ofNat i) t) rfl (wpAny_bind (wpAny_listPart (.int _ _) (wpAny_pure ?_))))
 refine wpAny_bind (listItems_spec hl ?_)
 refine wpAny_bind (wpAny_of_eq (sliceIndices_raw none (some (Int.ofNat i)) none xs.size (by simp)) ?_)
 have hp:((sliceRange (sliceBounds none (some (Int.ofNat i)) none xs.size).1 (sliceBounds none (some (Int.ofNat i)) none xs.size).2.1 (sliceBounds none (some (Int.ofNat i)) none xs.size).2.2).filterMap (xs[·]?)).toArray=(xs.toList.take i).toArray:=slicePick_upto xs i hi
 rw [hp]
 refine wpAny_bind (wpAny_newObj_type (wpAny_pure ⟨rfl,push_ext hg ht,?_⟩) ?_)
 ·exact Heap.get?_push_size _ rfl
 ·show (xs.toList.take i).toArray.size≤sizeLine
  rw [sizeLine_eq]; simp; lia
end
noncomputable def lenC (l:Nat):Code:=.call (.builtin "len") ⟨[.ref l],[]⟩
noncomputable def lenP (l n:Nat) (vs:List Value) (R:Rs):Prop:=CEnd (.ok (.ret (.int (Int.ofNat vs.length) (tokI (resOf R))))) (fun s=>keepD [false] s.D= [(l,listO vs.toArray n)]) R
where tokI:Result→Nat
 | .ok (.ret (.int _ t))=>t
 | _=>0
noncomputable instance lenP.rf {l n:Nat} {vs:List Value} {R:Rs} :Rf (lenP l n vs R):=by
 delta lenP; infer_instance
theorem len_all (prog:Program) (P:Params) (l n K t:Nat) (vs:List Value) (h:vs.length≤15):lenP l n vs (runC prog P 60 (lenC l) [0,1,0,1,0,1] [(l,listO vs.toArray n)] K t):=by
 rcases vs with _ | ⟨v0,vs⟩
 ·exact Rf.prove _ (by kernel_rfl)
 rcases vs with _ | ⟨v1,vs⟩
 ·exact Rf.prove _ (by kernel_rfl)
 rcases vs with _ | ⟨v2,vs⟩
 ·exact Rf.prove _ (by kernel_rfl)
 rcases vs with _ | ⟨v3,vs⟩
 ·exact Rf.prove _ (by kernel_rfl)
 rcases vs with _ | ⟨v4,vs⟩
 ·exact Rf.prove _ (by kernel_rfl)
 rcases vs with _ | ⟨v5,vs⟩
 ·exact Rf.prove _ (by kernel_rfl)
 rcases vs with _ | ⟨v6,vs⟩
 ·exact Rf.prove _ (by kernel_rfl)
 rcases vs with _ | ⟨v7,vs⟩
 ·exact Rf.prove _ (by kernel_rfl)
 rcases vs with _ | ⟨v8,vs⟩
 ·exact Rf.prove _ (by kernel_rfl)
 rcases vs with _ | ⟨v9,vs⟩
 ·exact Rf.prove _ (by kernel_rfl)
 rcases vs with _ | ⟨v10,vs⟩
 ·exact Rf.prove _ (by kernel_rfl)
 rcases vs with _ | ⟨v11,vs⟩
 ·exact Rf.prove _ (by kernel_rfl)
 rcases vs with _ | ⟨v12,vs⟩
 ·exact Rf.prove _ (by kernel_rfl)
 rcases vs with _ | ⟨v13,vs⟩
 ·exact Rf.prove _ (by kernel_rfl)
 rcases vs with _ | ⟨v14,vs⟩
 ·exact Rf.prove _ (by kernel_rfl)
 rcases vs with _ | ⟨v15,vs⟩
 ·exact Rf.prove _ (by kernel_rfl)
 ·exact absurd h (by simp)
theorem len_spec {prog:Program} {w:World} {A:Around} {sh:Shared} {k l n:Nat} {xs:Array Value} (T:Top w sh) (Rm:Room k A) (hl:sh.heap.get? l=some (listO xs n)) (hL:277≤l) (h:xs.size≤15):
  codeAny (model prog w) A (lenC l) (fun r sh'=>∃ t,r= .ok (.ret (.int (Int.ofNat xs.size) t))∧Ext none_ sh sh') sh:=by
 obtain ⟨vs⟩:=xs
 have F:Facts 277 sh [(l,listO vs.toArray n)]:=.cons hl hL ne_nil .nil
 refine walk_code T Rm rfl F 60 [0,1,0,1,0,1] fun K t zz=>?_
 have e:=len_all prog w.params l n K t vs h
 revert e
 generalize runC prog w.params 60 (lenC l) [0,1,0,1,0,1] [(l,listO vs.toArray n)] K t=R
 intro e
 exact CEnd.ok e fun sh' q S=>⟨_,rfl,(S.only (sh:=sh) (cs:= [false]) rfl rfl rfl F q).weak fun b h=>h⟩
theorem loop_rule {M:Model} {A:Around} {C:Code} {Q:Result→Shared→Prop} {n:Nat} {Inv:Nat→Shared→Prop}
  (turn: ∀ i sh,i<n→Inv i sh→(∀ sh',Inv (i+1) sh'→codeAny M A C Q sh')→codeAny M A C Q sh) (fin: ∀ sh,Inv n sh→codeAny M A C Q sh):
  ∀ (d i:Nat) (sh:Shared),i+d=n→Inv i sh→codeAny M A C Q sh
 | 0,i,sh,e,h=>by
  have:i=n:=by lia
  subst this; exact fin sh h
 | d+1,i,sh,e,h=>turn i sh (by lia) h fun sh' h'=>loop_rule turn fin d (i+1) sh' (by lia) h'
noncomputable def toX2:PySem.Expr:=asgV (nthS (fn 23).body 4)
noncomputable def genIf:PySem.Expr→PySem.Expr
 | .ListComp _ gs _ _=>(match gs with
  | g::_=>nthE' g.ifs 0
  | []=>.Constant .none 0 ⟨0,0,0,0⟩)
 | _=>.Constant .none 0 ⟨0,0,0,0⟩
noncomputable def binR:PySem.Expr→PySem.Expr
 | .BinOp _ _ r _=>r
 | _=>.Constant .none 0 ⟨0,0,0,0⟩
noncomputable def toX3:PySem.Expr:=cmpR (boolA 1 (genIf toX2))
noncomputable def toX4:PySem.Expr:=binR (retV (nthS (fn 23).body 5))
noncomputable def toC2 (it acc fr cf ct cr:Nat):Code:=compC toX2 it acc (compEnv (compScC toX2) qTo 256 fr cf [("taken",ct),("rows",cr)])
noncomputable def toC3 (it acc fr cf:Nat):Code:=compC toX3 it acc (compEnv (compScC toX3) qTo 256 fr cf [])
noncomputable def toC4 (it acc fr cf cr:Nat):Code:=compC toX4 it acc (compEnv (compScC toX4) qTo 256 fr cf [("rows",cr)])
structure TP3 where
 prog:Program
 P:Params
 it:Nat
 l:Nat
 i:Nat
 n:Nat
 xs:Array Value
 cf:Nat
 hs:Nat→Int
 ts:Nat→Nat
 ep:Nat
 acc:Nat
 ys:Array Value
 m:Nat
 fr:Nat
 a:Nat
 k:Str
 tk:Nat
 v:Str
 tv:Nat
noncomputable def t3D4 (p:TP3) (e:Option Value):List (Nat×Obj):=
 [(p.acc,listO p.ys p.m),(p.l,listO p.xs p.n),(p.it,iterO p.l p.i),(p.cf,dicO (rowE e) p.hs p.ts p.ep)]
noncomputable def t3D (p:TP3) (e:Option Value):List (Nat×Obj):=
 [(p.acc,listO p.ys p.m),(p.l,listO p.xs p.n),(p.it,iterO p.l p.i),(p.cf,dicO (rowE e) p.hs p.ts p.ep),(p.a,tupO [.str p.k p.tk,.str p.v p.tv])]
noncomputable abbrev t3C (p:TP3):Code:=toC3 p.it p.acc p.fr p.cf
noncomputable def t3T (p:TP3) (e:Option Value):Rs→Prop:=
 CNext p.it p.l p.i p.n p.xs 2 1 (.ref p.a) [4,4,4,5,5,5,0,5,0,5,1]<|CCall (X:=Nat) (fun zz=>lowerC p.k p.tk) (fun zz=>True) (fun t=>.ok (.ret (.str (lowS p.k) t))) [] (fun zz=> []) [1] fun t=>
  CApp p.acc p.m p.ys (.str (lowS p.k) t) 0 [1]<|
  CLoop (t3C p) fun s=>keepD [true,false,true,true,false] s.D=keepD [true,false,true,true,false] (t3D p e)∧
   pick [0,2,3] s.D= [(p.acc,listO (p.ys.push (.str (lowS p.k) t)) (p.m+1)),(p.it,iterO p.l (p.i+1)),(p.cf,dicO (rowE (some (.ref p.a))) (hsOf (dOf s 3)) (tsOf (dOf s 3)) (epOf (dOf s 3)))]
noncomputable instance t3T.rf {p:TP3} {e:Option Value} {R:Rs} :Rf (t3T p e R):=by
 delta t3T; infer_instance
noncomputable def t3E (p:TP3) (e:Option Value):Rs→Prop:=
 CLast p.it p.l p.i p.n p.xs 2 1 [5] fun zz=>CEnd (.ok .next) fun s=>keepD [false,false,true,false] s.D=keepD [false,false,true,false] (t3D4 p e)
noncomputable instance t3E.rf {p:TP3} {e:Option Value} {R:Rs} :Rf (t3E p e R):=by
 delta t3E; infer_instance
noncomputable abbrev t3Run (p:TP3) (P:Params) (D:List (Nat×Obj)) (K t:Nat):Rs:=runC p.prog P 150 (t3C p) [3,1] D K t
theorem t3T_0 (p:TP3) (e:Option Value) (K t:Nat):t3T p e (t3Run p p.P (t3D p e) K t):=pset1 (X:=fun P=>t3T p e (t3Run p P (t3D p e) K t)) (by intro b1; revert e; exact Rf.prove _ (by kernel_rfl))
theorem t3E_0 (p:TP3) (e:Option Value) (K t:Nat):t3E p e (t3Run p p.P (t3D4 p e) K t):=pset1 (X:=fun P=>t3E p e (t3Run p P (t3D4 p e) K t)) (by intro b1; revert e; exact Rf.prove _ (by kernel_rfl))
theorem t3_facts4 {sh:Shared} {p:TP3} {e:Option Value} (H:OwnAll 277 sh (t3D4 p e)) (hne:p.l≠p.acc):Facts 277 sh (t3D4 p e):=by
 refine x9 H fun o0 l0 o1 l1 o2 l2 o3 l3 zz=>?_; clear H
 exact .cons o0 l0 (ne_cons hne (ne_cons (ne_of o0 o2 (by kernel_rfl)) (ne_cons (ne_of o0 o3 (by kernel_rfl)) ne_nil))) (.cons o1 l1 (ne_cons (ne_of o1 o2 (by kernel_rfl)) (ne_cons (ne_of o1 o3 (by kernel_rfl)) ne_nil)) (.cons o2 l2 (ne_cons (ne_of o2 o3 (by kernel_rfl)) ne_nil) (.cons o3 l3 ne_nil .nil)))
theorem t3_facts {sh:Shared} {p:TP3} {e:Option Value} (H:OwnAll 277 sh (t3D p e)) (hne:p.l≠p.acc):Facts 277 sh (t3D p e):=by
 refine x18 H fun o0 l0 o1 l1 o2 l2 o3 l3 o4 l4 zz=>?_; clear H
 exact .cons o0 l0 (ne_cons hne (ne_cons (ne_of o0 o2 (by kernel_rfl)) (ne_cons (ne_of o0 o3 (by kernel_rfl)) (ne_cons (ne_of o0 o4 (by kernel_rfl)) ne_nil)))) (.cons o1 l1 (ne_cons (ne_of o1 o2 (by kernel_rfl)) (ne_cons (ne_of o1 o3 (by kernel_rfl)) (ne_cons (ne_of o1 o4 (by kernel_rfl)) ne_nil))) (.cons o2 l2 (ne_cons (ne_of o2 o3 (by kernel_rfl)) (ne_cons (ne_of o2 o4 (by kernel_rfl)) ne_nil)) (.cons o3 l3 (ne_cons (ne_of o3 o4 (by kernel_rfl)) ne_nil) (.cons o4 l4 ne_nil .nil))))
noncomputable def IsStrs (ys:Array Value) (ss:List Str):Prop:=∃ ps:List (Str×Nat),ys=(strsP ps).toArray∧ps.map (·.1)=ss
theorem IsStrs.push {ys:Array Value} {ss:List Str} (h:IsStrs ys ss) (s:Str) (t:Nat):IsStrs (ys.push (.str s t)) (ss++ [s]):=by
 refine x0 h fun ps hr1 h2=>?_; clear h; subst hr1
 refine ⟨ps++ [(s,t)],?_,by simp [h2]⟩
 have: ∀ l:List (Str×Nat),strsP (l++ [(s,t)])=strsP l++ [.str s t]:=fun l=>by
  induction l with
  | nil=>rfl
  | cons x l ih=>show _::strsP (l++_)=_; rw [ih]; rfl
 rw [this]
 simp
theorem IsStrs.size {ys:Array Value} {ss:List Str} (h:IsStrs ys ss):ys.size=ss.length:=by
 refine x0 h fun ps hr2 hr3=>?_; clear h; subst hr2; subst hr3
 have: ∀ l:List (Str×Nat),(strsP l).length=l.length:=fun l=>by
  induction l with
  | nil=>rfl
  | cons x l ih=>show (strsP l).length+1=_; rw [ih]; rfl
 simp [this]
section
variable {prog:Program} {w:World}
noncomputable def t3Mu (p:TP3) (b:Nat):Prop:=b=p.acc∨b=p.it∨b=p.cf
noncomputable def t3Inv (w:World) (sh₀:Shared) (p:TP3) (rows:List Row) (i:Nat) (sh:Shared):Prop:=
 Top w sh∧Ext (t3Mu p) sh₀ sh∧∃ (ys:Array Value) (m:Nat) (e:Option Value) (hs:Nat→Int) (ts:Nat→Nat) (ep:Nat),IsStrs ys ((rows.take i).map fun r=>lowS r.1)∧(i=0→e=none)∧(0<i→e.isSome=true)∧
  sh.heap.get? p.acc=some (listO ys m)∧sh.heap.get? p.it=some (iterO p.l i)∧sh.heap.get? p.cf=some (dicO (rowE e) hs ts ep)
theorem to3_loop {A:Around} (Rm:Room 1 A) {sh₀:Shared} {rows:List Row} {refs:List Nat} {p:TP3} (hp:p.P=w.params) (hg:p.prog=prog) (hx:p.xs=refsA refs) (hr:RowsAt sh₀ refs rows) (ok: ∀ r∈rows,OkRow r) (hsz:rows.length≤100)
  (T:Top w sh₀) (hi:p.i=0) (hy:p.ys= #[]) (H:OwnAll 277 sh₀ (t3D4 p none)) (hne:p.l≠p.acc):
  codeAny (model prog w) A (t3C p) (fun r sh'=>r= .ok .next∧Ext (t3Mu p) sh₀ sh'∧∃ (ys:Array Value) (m:Nat) (e:Option Value) (hs:Nat→Int) (ts:Nat→Nat) (ep:Nat),IsStrs ys (rows.map fun r=>lowS r.1)∧(rows= []→e=none)∧(rows≠ []→e.isSome=true)∧
   sh'.heap.get? p.acc=some (listO ys m)∧sh'.heap.get? p.cf=some (dicO (rowE e) hs ts ep)) sh₀:=by
 subst hg
 refine x9 (id H) fun o0 l0 o1 l1 o2 l2 o3 l3 zz=>?_
 have nt:NoTup sh₀ (t3Mu p):=by
  rintro b (rfl | rfl | rfl) xs h
  ·exact ne_of (o':=tupO xs) o0 h (by kernel_rfl) rfl
  ·exact ne_of (o':=tupO xs) o2 h (by kernel_rfl) rfl
  ·exact ne_of (o':=tupO xs) o3 h (by kernel_rfl) rfl
 have lr:=hr.length
 have nl: ¬ t3Mu p p.l:=by
  rintro (q | q | q)
  ·exact hne q
  ·exact ne_of o2 o1 (by kernel_rfl) q
  ·exact ne_of o3 o1 (by kernel_rfl) q
 refine loop_rule (Inv:=t3Inv w sh₀ p rows) (n:=rows.length) (fun i sh hin I K=>?_) (fun sh I=>?_) rows.length 0 sh₀ (by lia) ⟨T,.refl T.gens T.toks,p.ys,p.m,none,p.hs,p.ts,p.ep,⟨[],by rw [hy]; rfl,rfl⟩,fun zz=>rfl,fun h=>absurd h (by lia),o0,by rw [hi] at o2; exact o2,o3⟩
 ·refine x19 I fun T1 X ys m e hs ts ep h1 zz zz h2 h3 h4=>?_; clear I
  obtain ⟨a,ha⟩: ∃ a,refs[i]? =some a:=⟨refs[i]'(by lia),by simp⟩
  refine x0 (hr.get ha) fun r hri hra=>?_
  have hra:=hra.ext' X nt
  refine x11 hra fun g1 tk tv g2=>?_; clear hra
  have okr:=ok r (List.mem_of_getElem? hri)
  let q:TP3:= {p with i:=i,ys:=ys,m:=m,hs:=hs,ts:=ts,ep:=ep,a:=a,k:=r.1,tk:=tk,v:=r.2,tv:=tv}
  have H':OwnAll 277 sh (t3D q e):=⟨⟨h2,l0⟩,⟨X.keep _ _ o1 nl,l1⟩,⟨h3,l2⟩,⟨h4,l3⟩,⟨g2,g1⟩,trivial⟩
  have F:=t3_facts H' hne
  have hz:277≤sh.heap.objs.size:=T1.l7
  have hxa:p.xs[i]? =some (.ref a):=by rw [hx]; exact refsA_get ha
  refine walk_code T1 Rm rfl F 150 [3,1] fun K' t hK=>?_
  have z:=t3T_0 q e K' t
  rw [show q.P=w.params from hp] at z
  revert z
  show t3T q e (runC p.prog w.params 150 (t3C p) [3,1] (t3D q e) K' t)→_
  generalize runC p.prog w.params 150 (t3C p) [3,1] (t3D q e) K' t=R
  intro z
  refine CNext.ok z Rm T1.size hxa fun R' z=>?_
  refine CCall.ok (fun zz=>True) z Rm T1.size (fun s sh1 B zz S T2 RB=>?_) fun t' R' zz z=>?_
  ·exact codeAny_mono (lower_spec (names7_9 okr.1) T2 RB tk) fun r' sh' hq=>x0 hq fun t' h1 h2=>⟨t',h1,trivial,h2,.nil⟩
  refine CApp.ok z Rm T1.size (by show ys.size≤1000; rw [h1.size]; simp; lia) fun R' z=>?_
  refine CLoop.ok z fun sh' z S=>?_
  refine x2 z fun z1 z2=>?_; clear z
  have Y:=(S.only (sh:=sh) rfl rfl rfl F (cs:= [true,false,true,true,false]) (z1.trans rfl)).weak (mu':=t3Mu p) fun b hb=>by
   rcases hb with hb | hb | hb | hb
   ·exact .inl hb
   ·exact .inr (.inl hb)
   ·exact .inr (.inr hb)
   ·exact hb.elim
  refine x7 (S.all0 z2) fun a0 zz a2 zz a3 zz zz=>?_
  refine K sh' ⟨T1.ext Y ?_,X.trans Y,_,_,_,_,_,_,?_,fun h=>absurd h (by lia),fun zz=>rfl,a0,a2,a3⟩
  ·rintro b (rfl | rfl | rfl)
   ·exact l0
   ·exact l2
   ·exact l3
  ·have:rows.take (i+1)=rows.take i++ [r]:=by rw [List.take_add_one,hri]; rfl
   rw [this,List.map_append]
   exact h1.push _ _
 ·refine x19 I fun T1 X ys m e hs ts ep h1 e1 e2 h2 h3 h4=>?_; clear I
  let q:TP3:= {p with i:=rows.length,ys:=ys,m:=m,hs:=hs,ts:=ts,ep:=ep}
  have H':OwnAll 277 sh (t3D4 q e):=⟨⟨h2,l0⟩,⟨X.keep _ _ o1 nl,l1⟩,⟨h3,l2⟩,⟨h4,l3⟩,trivial⟩
  have F:=t3_facts4 H' hne
  refine walk_code T1 Rm rfl F 150 [3,1] fun K' t hK=>?_
  have z:=t3E_0 q e K' t
  rw [show q.P=w.params from hp] at z
  revert z
  show t3E q e (runC p.prog w.params 150 (t3C p) [3,1] (t3D4 q e) K' t)→_
  generalize runC p.prog w.params 150 (t3C p) [3,1] (t3D4 q e) K' t=R
  intro z
  refine CLast.ok z Rm T1.size (by show p.xs[rows.length]? =none; rw [hx]; exact refsA_end (by lia)) fun ex R' z=>?_
  refine CEnd.ok z fun sh' z S=>?_
  have Y:=(S.only (sh:=sh) rfl rfl rfl F z).weak (mu':=fun b=>b=p.it) fun b h=>by
   rcases h with h | h
   ·exact h
   ·exact h.elim
  refine ⟨rfl,X.trans (Y.weak fun b h=>.inr (.inl h)),ys,m,e,hs,ts,ep,?_,fun h=>e1 (by rw [h]; rfl),fun h=>e2 (List.length_pos_iff.mpr h),Y.keep _ _ h2 (ne_of h3 h2 (by kernel_rfl)),Y.keep _ _ h4 (ne_of h3 h4 (by kernel_rfl))⟩
  rw [List.take_length] at h1
  exact h1
end
noncomputable def CSet {X:Type} (c:St→Code) (pre:St→Prop) (r:X→Result) (j:Nat) (o:St→X→Obj) (hs:X→List Nat) (P:X→Rs→Prop) (R:Rs):Prop:=
 obsS R=(2,dup (lgOf R),none,true,c (stOf R))∧pre (stOf R)∧(getD (stOf R).D j).isSome=true∧∀ x K t,P x (contOf R (hs x) (r x) ⟨setD (stOf R).D j (o (stOf R) x),K+278,0,t+849,0,[]⟩)
noncomputable instance CSet.rf {X:Type} {c:St→Code} {pre:St→Prop} {r:X→Result} {j:Nat} {o:St→X→Obj} {hs:X→List Nat} {P:X→Rs→Prop} {R:Rs} [Rx X] [∀ y1,Rf (pre y1)] [∀ y1 y2,Rf (P y1 y2)]:Rf (CSet c pre r j o hs P R):=by
 delta CSet; infer_instance
theorem CSet.ok {prog:Program} {w:World} {A:Around} {Q:Result→Shared→Prop} {h₀:Heap} {mu:Nat→Prop} {os:OsState} {t₀:Nat} {R:Rs} {k:Nat}
  {X:Type} {c:St→Code} {pre:St→Prop} {r:X→Result} {j:Nat} {o:St→X→Obj} {hs:X→List Nat} {P:X→Rs→Prop} (T:X→Prop) (H:CSet c pre r j o hs P R) (Rm:Room (k+1) A) (h0:278≤h₀.objs.size)
  (spec: ∀ s sh B,pre s→Sat (sv prog w A Q h₀ mu os t₀) s sh→Top w sh→Room k B→codeAny (model prog w) B (c s) (fun r' sh'=>∃ x,r'=r x∧T x∧Ext (fun b=>b=aOf s j) sh sh'∧sh'.heap.get? (aOf s j)=some (o s x)) sh)
  (h: ∀ x R',T x→P x R'→Ok (sv prog w A Q h₀ mu os t₀) R'):Ok (sv prog w A Q h₀ mu os t₀) R:=by
 refine ok_stop H.1 fun sh S B h1 h2 h3=>?_
 have T0:=topW w S rfl h0
 refine codeAny_mono (spec _ sh B H.2.1 S T0 (Rm.down h1 h2 h3)) fun r' sh' hq=>x22 hq fun x hr ht X ho=>?_
 have hz:278≤sh'.heap.objs.size:=Nat.le_trans T0.size X.size
 have q:=h x _ ht (H.2.2.2 x (sh'.heap.objs.size - 278) (sh'.toks - 849))
 subst hr
 have hj:getD (stOf R).D j=some (aOf (stOf R) j,dOf (stOf R) j):=by rw [getD_eq]; exact aOf_get H.2.2.1
 exact ⟨hs x,_,S.turn hj X ho (b:=sh'.heap.objs.size - 278+278) (t:=sh'.toks - 849+849) (Nat.sub_add_cancel hz).symm (Nat.sub_add_cancel X.t849).symm,q⟩
noncomputable def CRd (c:Code) (js:List Nat) (D2:List (Nat×Obj)) (r:Result) (hs:List Nat) (P:Rs→Prop) (R:Rs):Prop:=
 obsS R=(2,dup (lgOf R),none,true,c)∧pick js (stOf R).D=D2∧∀ K t,P (contOf R hs r ⟨(stOf R).D,K+278,0,t+849,0,[]⟩)
noncomputable instance CRd.rf {c:Code} {js:List Nat} {D2:List (Nat×Obj)} {r:Result} {hs:List Nat} {P:Rs→Prop} {R:Rs} [∀ y1,Rf (P y1)]:Rf (CRd c js D2 r hs P R):=by
 delta CRd; infer_instance
theorem CRd.ok {prog:Program} {w:World} {A:Around} {Q:Result→Shared→Prop} {h₀:Heap} {mu:Nat→Prop} {os:OsState} {t₀:Nat} {R:Rs} {k:Nat} {c:Code} {js:List Nat} {D2:List (Nat×Obj)} {r:Result} {hs:List Nat} {P:Rs→Prop}
  (H:CRd c js D2 r hs P R) (Rm:Room (k+1) A) (h0:278≤h₀.objs.size)
  (spec: ∀ sh B,OwnAll 0 sh D2→Top w sh→Room k B→codeAny (model prog w) B c (fun r' sh'=>r'=r∧Ext none_ sh sh') sh)
  (h: ∀ R',P R'→Ok (sv prog w A Q h₀ mu os t₀) R'):Ok (sv prog w A Q h₀ mu os t₀) R:=
 ok_ext H.1 Rm h0 (fun sh B S T RB=>spec sh B (S.all0 H.2.1) T RB) hs fun K t=>h _ (H.2.2 K t)
noncomputable def kE:Option Value→List (Str×Value)
 | none=> []
 | some v=> [("k",v)]
noncomputable def getC (l i tk:Nat):Code:=.call (.builtin "list.__getitem__") ⟨[.ref l,.int (Int.ofNat i) tk],[]⟩
noncomputable def inC (l:Nat) (s:Str) (t:Nat):Code:=.call (.builtin "list.__contains__") ⟨[.ref l,.str s t],[]⟩
structure TP2 where
 prog:Program
 P:Params
 it:Nat
 l:Nat
 i:Nat
 left:Int
 n:Nat
 xs:Array Value
 cf:Nat
 hs:Nat→Int
 ts:Nat→Nat
 ep:Nat
 acc:Nat
 ys:Array Value
 m:Nat
 ct:Nat
 cr:Nat
 tl:Nat
 zs:Array Value
 e0:Nat
 fr:Nat
 a:Nat
 k:Str
 tk0:Nat
 v:Str
 tv:Nat
noncomputable def t2D6 (p:TP2) (e:Option Value):List (Nat×Obj):=
 [(p.acc,listO p.ys p.m),(p.l,listO p.xs p.n),(p.it,riO (Int.ofNat p.i) p.left),(p.cf,dicO (kE e) p.hs p.ts p.ep),(p.ct,cellO (.ref p.tl)),(p.cr,cellO (.ref p.l))]
noncomputable def t2D (p:TP2) (e:Option Value):List (Nat×Obj):=
 [(p.acc,listO p.ys p.m),(p.l,listO p.xs p.n),(p.it,riO (Int.ofNat p.i) p.left),(p.cf,dicO (kE e) p.hs p.ts p.ep),(p.ct,cellO (.ref p.tl)),(p.cr,cellO (.ref p.l)),(p.a,tupO [.str p.k p.tk0,.str p.v p.tv]),(p.tl,listO p.zs p.e0)]
noncomputable abbrev t2C (p:TP2):Code:=toC2 p.it p.acc p.fr p.cf p.ct p.cr
noncomputable def t2Loop (p:TP2) (tk:Nat) (ys:Array Value) (m:Nat):Rs→Prop:=
 CLoop (t2C p) fun s=>keepD [true,false,true,true,false,false,false,false] s.D=keepD [true,false,true,true,false,false,false,false] (t2D p none)∧
  pick [0,2,3] s.D= [(p.acc,listO ys m),(p.it,riO (Int.ofNat p.i+1) (p.left - 1)),(p.cf,dicO (kE (some (.int (Int.ofNat p.i) tk))) (hsOf (dOf s 3)) (tsOf (dOf s 3)) (epOf (dOf s 3)))]
noncomputable instance t2Loop.rf {p:TP2} {tk:Nat} {ys:Array Value} {m:Nat} {R:Rs} :Rf (t2Loop p tk ys m R):=by
 delta t2Loop; infer_instance
noncomputable def t2In (p:TP2) (b:Bool) (hs:List Nat) (P:Nat→Rs→Prop):Rs→Prop:=
 CSet (X:=Nat) (fun zz=>.call (.builtin "range_iterator.__next__") ⟨[.ref p.it],[]⟩) (fun s=>pick [2] s.D= [(p.it,riO (Int.ofNat p.i) p.left)]∧aOf s 2=p.it) (fun tk=>.ok (.ret (.int (Int.ofNat p.i) tk))) 2 (fun zz zz=>riO (Int.ofNat p.i+1) (p.left - 1)) (fun zz=> [4,4,6,4,2,2,2,1]) fun tk=>
  CRd (getC p.l p.i tk) [1] [(p.l,listO p.xs p.n)] (.ok (.ret (.ref p.a))) [7,7,7,0,7,0,7,0,1]<|
  CCall (X:=Nat) (fun zz=>lowerC p.k p.tk0) (fun zz=>True) (fun t=>.ok (.ret (.str (lowS p.k) t))) [] (fun zz=> []) [5,8,8,1] fun t=>
  CRd (inC p.tl (lowS p.k) t) [7] [(p.tl,listO p.zs p.e0)] (.ok (.ret (.bool b))) hs<|P tk
noncomputable instance t2In.rf {p:TP2} {b:Bool} {hs:List Nat} {P:Nat→Rs→Prop} {R:Rs} [∀ y1 y2,Rf (P y1 y2)]:Rf (t2In p b hs P R):=by
 delta t2In; infer_instance
noncomputable def t2N (p:TP2):Rs→Prop:=t2In p false [1] fun tk=>t2Loop p tk p.ys p.m
noncomputable instance t2N.rf {p:TP2} {R:Rs} :Rf (t2N p R):=by
 delta t2N; infer_instance
noncomputable def h23 (b1:Bool):List Nat:= [10,10,0,10,0,11,0]++(match b1 with
 | true=> [1]
 | false=> [11,11,0,11,0,11,1])
noncomputable def h24:Option Value→List Nat
 | none=> [12,11,11,1]
 | some _=> [12,12,12,11,11,1]
structure T2X where
 ys:Array Value
 m:Nat
 e:Option Value
 hs:Nat→Int
 ts:Nat→Nat
 ep:Nat
noncomputable instance T2X.rx:Rx T2X:=⟨fun k=>.all fun x:T2X=>.and (k {x with e:=none}) (.all fun v=>k {x with e:=some v}),fun h x=>match x with
 | ⟨y0,y1,none,y3,y4,y5⟩=>(h ⟨y0,y1,none,y3,y4,y5⟩).1
 | ⟨y0,y1,some v,y3,y4,y5⟩=>(h ⟨y0,y1,none,y3,y4,y5⟩).2 v⟩
noncomputable def tp3 (p:TP2) (x3:Nat) (s:St):TP3:=
 {prog:=p.prog,P:=p.P,it:=aOf s 10,l:=x3,i:=0,n:=0,xs:=(p.xs.toList.take p.i).toArray,cf:=aOf s 12,hs:=hsOf (dOf s 12),ts:=tsOf (dOf s 12),ep:=epOf (dOf s 12),acc:=aOf s 11,ys:= #[],m:=0,fr:=p.fr,a:=0,k:=⟨#[]⟩,tk:=0,v:=⟨#[]⟩,tv:=0}
noncomputable def t2Y (p:TP2) (b1 b:Bool) (hs:List Nat) (P:Nat→Rs→Prop):Rs→Prop:=t2In p true [6,4,2,2,2,1] fun tk=>
 CRd (getC p.l p.i tk) [1] [(p.l,listO p.xs p.n)] (.ok (.ret (.ref p.a))) [7,7,7,0,7,0,7,0,1]<|
 CCall (X:=Nat) (fun zz=>lowerC p.k p.tk0) (fun zz=>True) (fun t=>.ok (.ret (.str (lowS p.k) t))) [] (fun zz=> []) [6,4,2,2,2,1] fun t=>
 CSw (X:=Nat) (fun s=>.call (.builtin "list.__getitem__") ⟨[.ref p.l,.ref (aOf s 8)],[]⟩) (fun s=>pick [1,8] s.D= [(p.l,listO p.xs p.n),(aOf s 8,sliceO .none (.int (Int.ofNat p.i) tk) .none)]) (fun x=>.ok (.ret (.ref x))) []
  (fun zz x=> [(x,listO (p.xs.toList.take p.i).toArray 0)]) (fun zz=>h23 b1) fun x3=>
 CSw (X:=T2X) (fun s=>t3C (tp3 p x3 s)) (fun s=>pick [11,9,10,12] s.D=t3D4 (tp3 p x3 s) none∧some_ s [11,9,10,12]∧aOf s 9=x3∧keepD [true,false,true,true,false,false,false,false] s.D=keepD [true,false,true,true,false,false,false,false] (t2D p none)) (fun zz=>.ok .next) (csN [10,11,12] 13) (fun s x=> [(aOf s 11,listO x.ys x.m),(aOf s 12,dicO (rowE x.e) x.hs x.ts x.ep)]) (fun x=>h24 x.e) fun x=>
 CSw (X:=Unit) (fun s=>inC (aOf s 10) (lowS p.k) t) (fun s=>pick [10] s.D= [(aOf s 10,listO x.ys x.m)]) (fun zz=>.ok (.ret (.bool b))) [] (fun zz zz=> []) (fun zz=>hs) fun zz=>P tk
noncomputable instance t2Y.rf {p:TP2} {b1 b:Bool} {hs:List Nat} {P:Nat→Rs→Prop} {R:Rs} [∀ y1 y2,Rf (P y1 y2)]:Rf (t2Y p b1 b hs P R):=by
 delta t2Y; infer_instance
noncomputable def t2Y1 (p:TP2) (b1:Bool):Rs→Prop:=t2Y p b1 true [1] fun tk=>t2Loop p tk p.ys p.m
noncomputable instance t2Y1.rf {p:TP2} {b1:Bool} {R:Rs} :Rf (t2Y1 p b1 R):=by
 delta t2Y1; infer_instance
noncomputable def t2Y0 (p:TP2) (b1:Bool):Rs→Prop:=t2Y p b1 false [4,1] fun tk=>CApp p.acc p.m p.ys (.int (Int.ofNat p.i) tk) 0 [1]<|t2Loop p tk (p.ys.push (.int (Int.ofNat p.i) tk)) (p.m+1)
noncomputable instance t2Y0.rf {p:TP2} {b1:Bool} {R:Rs} :Rf (t2Y0 p b1 R):=by
 delta t2Y0; infer_instance
noncomputable def CStop (it:Nat) (i left:Int) (hs:List Nat) (P:Rs→Prop) (R:Rs):Prop:=
 CSw (X:=Nat×Array Value) (fun zz=>.call (.builtin "range_iterator.__next__") ⟨[.ref it],[]⟩) (fun s=>pick [2] s.D= [(it,riO i left)]) (fun x=>.error (.ref x.1)) [] (fun zz x=> [(x.1,stopO x.2)]) (fun zz=>hs) (fun zz=>P) R
noncomputable instance CStop.rf {it:Nat} {i left:Int} {hs:List Nat} {P:Rs→Prop} {R:Rs} [∀ y1,Rf (P y1)]:Rf (CStop it i left hs P R):=by
 delta CStop; infer_instance
noncomputable def t2E (p:TP2) (e:Option Value):Rs→Prop:=
 CStop p.it (Int.ofNat p.i) p.left [7]<|CEnd (.ok .next) fun s=>keepD [false,false,false,false,false,false] s.D=t2D6 p e
noncomputable instance t2E.rf {p:TP2} {e:Option Value} {R:Rs} :Rf (t2E p e R):=by
 delta t2E; infer_instance
noncomputable abbrev t2Run (p:TP2) (P:Params) (D:List (Nat×Obj)) (K t:Nat):Rs:=runC p.prog P 250 (t2C p) [3,1] D K t
theorem t2N_0 (p:TP2) (e:Option Value) (K t:Nat):t2N p (t2Run p p.P (t2D p e) K t):=pset1 (X:=fun P=>t2N p (t2Run p P (t2D p e) K t)) (by intro b1; revert e; exact Rf.prove _ (by kernel_rfl))
theorem t2E_0 (p:TP2) (e:Option Value) (K t:Nat):t2E p e (t2Run p p.P (t2D6 p e) K t):=pset1 (X:=fun P=>t2E p e (t2Run p P (t2D6 p e) K t)) (by intro b1; revert e; exact Rf.prove _ (by kernel_rfl))
theorem t2Y1_0 (p:TP2) (e:Option Value) (K t:Nat):t2Y1 p (itw p.P) (t2Run p p.P (t2D p e) K t):=pset_two (X:=fun b1 zz P=>t2Y1 p b1 (t2Run p P (t2D p e) K t)) (P:=p.P) (by revert e; exact Rf.prove _ (by kernel_rfl))
theorem t2Y0_0 (p:TP2) (e:Option Value) (K t:Nat):t2Y0 p (itw p.P) (t2Run p p.P (t2D p e) K t):=pset_two (X:=fun b1 zz P=>t2Y0 p b1 (t2Run p P (t2D p e) K t)) (P:=p.P) (by revert e; exact Rf.prove _ (by kernel_rfl))
theorem t2_facts6 {sh:Shared} {p:TP2} {e:Option Value} (H:OwnAll 277 sh (t2D6 p e)) (hne:p.l≠p.acc) (hc:p.cr≠p.ct):Facts 277 sh (t2D6 p e):=by
 refine x14 H fun o0 l0 o1 l1 o2 l2 o3 l3 o4 l4 o5 l5 zz=>?_; clear H
 exact .cons o0 l0 (ne_cons hne (ne_cons (ne_of o0 o2 (by kernel_rfl)) (ne_cons (ne_of o0 o3 (by kernel_rfl)) (ne_cons (ne_of o0 o4 (by kernel_rfl)) (ne_cons (ne_of o0 o5 (by kernel_rfl)) ne_nil))))) (.cons o1 l1 (ne_cons (ne_of o1 o2 (by kernel_rfl)) (ne_cons (ne_of o1 o3 (by kernel_rfl)) (ne_cons (ne_of o1 o4 (by kernel_rfl)) (ne_cons (ne_of o1 o5 (by kernel_rfl)) ne_nil)))) (.cons o2 l2 (ne_cons (ne_of o2 o3 (by kernel_rfl)) (ne_cons (ne_of o2 o4 (by kernel_rfl)) (ne_cons (ne_of o2 o5 (by kernel_rfl)) ne_nil))) (.cons o3 l3 (ne_cons (ne_of o3 o4 (by kernel_rfl)) (ne_cons (ne_of o3 o5 (by kernel_rfl)) ne_nil)) (.cons o4 l4 (ne_cons hc ne_nil) (.cons o5 l5 ne_nil .nil)))))
theorem t2_facts {sh:Shared} {p:TP2} {e:Option Value} (H:OwnAll 277 sh (t2D p e)) (hne:p.l≠p.acc) (hc:p.cr≠p.ct) (n1:p.tl≠p.l) (n2:p.tl≠p.acc):Facts 277 sh (t2D p e):=by
 refine x32 H fun o0 l0 o1 l1 o2 l2 o3 l3 o4 l4 o5 l5 o6 l6 o7 l7 zz=>?_; clear H
 exact .cons o0 l0 (ne_cons hne (ne_cons (ne_of o0 o2 (by kernel_rfl)) (ne_cons (ne_of o0 o3 (by kernel_rfl)) (ne_cons (ne_of o0 o4 (by kernel_rfl)) (ne_cons (ne_of o0 o5 (by kernel_rfl)) (ne_cons (ne_of o0 o6 (by kernel_rfl)) (ne_cons n2 ne_nil))))))) (.cons o1 l1 (ne_cons (ne_of o1 o2 (by kernel_rfl)) (ne_cons (ne_of o1 o3 (by kernel_rfl)) (ne_cons (ne_of o1 o4 (by kernel_rfl)) (ne_cons (ne_of o1 o5 (by kernel_rfl)) (ne_cons (ne_of o1 o6 (by kernel_rfl)) (ne_cons n1 ne_nil)))))) (.cons o2 l2 (ne_cons (ne_of o2 o3 (by kernel_rfl)) (ne_cons (ne_of o2 o4 (by kernel_rfl)) (ne_cons (ne_of o2 o5 (by kernel_rfl)) (ne_cons (ne_of o2 o6 (by kernel_rfl)) (ne_cons (ne_of o2 o7 (by kernel_rfl)) ne_nil))))) (.cons o3 l3 (ne_cons (ne_of o3 o4 (by kernel_rfl)) (ne_cons (ne_of o3 o5 (by kernel_rfl)) (ne_cons (ne_of o3 o6 (by kernel_rfl)) (ne_cons (ne_of o3 o7 (by kernel_rfl)) ne_nil)))) (.cons o4 l4 (ne_cons hc (ne_cons (ne_of o4 o6 (by kernel_rfl)) (ne_cons (ne_of o4 o7 (by kernel_rfl)) ne_nil))) (.cons o5 l5 (ne_cons (ne_of o5 o6 (by kernel_rfl)) (ne_cons (ne_of o5 o7 (by kernel_rfl)) ne_nil)) (.cons o6 l6 (ne_cons (ne_of o6 o7 (by kernel_rfl)) ne_nil) (.cons o7 l7 ne_nil .nil)))))))
noncomputable def IsInts (ys:Array Value) (ks:List Nat):Prop:=∃ ps:List (Nat×Nat),ys=(ps.map fun x=>Value.int (Int.ofNat x.1) x.2).toArray∧ps.map (·.1)=ks
theorem IsInts.push {ys:Array Value} {ks:List Nat} (h:IsInts ys ks) (k t:Nat):IsInts (ys.push (.int (Int.ofNat k) t)) (ks++ [k]):=by
 refine x0 h fun ps hr1 h2=>?_; clear h; subst hr1
 exact ⟨ps++ [(k,t)],by simp,by simp [h2]⟩
theorem IsInts.size {ys:Array Value} {ks:List Nat} (h:IsInts ys ks):ys.size=ks.length:=by
 refine x0 h fun ps hr2 hr3=>?_; clear h; subst hr2; subst hr3
 simp
theorem IsInts.get {ys:Array Value} {ks:List Nat} (h:IsInts ys ks) {i k:Nat} (hk:ks[i]? =some k): ∃ t,ys[i]? =some (.int (Int.ofNat k) t):=by
 refine x0 h fun ps hr4 hr5=>?_; clear h; subst hr4; subst hr5
 rw [List.getElem?_map] at hk
 cases q:ps[i]? with
 | none=>rw [q] at hk; cases hk
 | some x=>rw [q] at hk; cases hk; exact ⟨x.2,by simp [q]⟩
noncomputable def firstB (j:Nat) (rows:List Row) (i:Nat):Bool:=match rows[i]? with
 | some r=>takesB j (lowS r.1)&& !((rows.take i).any fun x=>lowS x.1==lowS r.1)
 | none=>false
noncomputable def firstsL (j:Nat) (rows:List Row):Nat→List Nat
 | 0=> []
 | i+1=>firstsL j rows i++(if firstB j rows i=true then [i] else [])
theorem firstsL_len (j:Nat) (rows:List Row): ∀ i,(firstsL j rows i).length≤i
 | 0=>Nat.le_refl _
 | i+1=>by
  show (firstsL j rows i++_).length≤i+1
  have:=firstsL_len j rows i
  rw [List.length_append]
  split<;>simp<;>lia
theorem firstsL_lt (j:Nat) (rows:List Row): ∀ i,∀ k∈firstsL j rows i,k<i
 | 0,_,h=>by cases h
 | i+1,k,h=>by
  rcases List.mem_append.mp h with h | h
  ·have:=firstsL_lt j rows i k h; lia
  ·split at h
   ·simp at h; lia
   ·cases h
theorem RowsAt.take {sh:Shared} {l:List Nat} {rs:List Row} (h:RowsAt sh l rs): ∀ i,RowsAt sh (l.take i) (rs.take i):=by
 induction h with
 | nil=>intro i; rw [List.take_nil,List.take_nil]; exact .nil
 | cons q _ ih=>
  intro i
  cases i with
  | zero=>exact .nil
  | succ i=>exact .cons q (ih i)
section
variable {prog:Program} {w:World}
noncomputable def t2Mu (p:TP2) (b:Nat):Prop:=b=p.acc∨b=p.it∨b=p.cf
noncomputable def t2Inv (w:World) (sh₀:Shared) (p:TP2) (j:Nat) (rows:List Row) (i:Nat) (sh:Shared):Prop:=
 Top w sh∧Ext (t2Mu p) sh₀ sh∧∃ (ys:Array Value) (m:Nat) (e:Option Value) (hs:Nat→Int) (ts:Nat→Nat) (ep:Nat),IsInts ys (firstsL j rows i)∧(i=0→e=none)∧(0<i→e.isSome=true)∧
  sh.heap.get? p.acc=some (listO ys m)∧sh.heap.get? p.it=some (riO (Int.ofNat i) ((rows.length:Int) - i))∧sh.heap.get? p.cf=some (dicO (kE e) hs ts ep)
theorem to2_loop {A:Around} (Rm:Room 2 A) {sh₀:Shared} {rows:List Row} {refs:List Nat} {p:TP2} {j:Nat} (hp:p.P=w.params) (hg:p.prog=prog) (hx:p.xs=refsA refs) (hr:RowsAt sh₀ refs rows) (ok: ∀ r∈rows,OkRow r) (hsz:rows.length≤100)
  (T:Top w sh₀) (hi:p.i=0) (hlf:p.left=rows.length) (hy:p.ys= #[]) (H:OwnAll 277 sh₀ (t2D6 p none)) (hne:p.l≠p.acc) (hc:p.cr≠p.ct)
  (htl:sh₀.heap.get? p.tl=some (listO p.zs p.e0)) (htL:277≤p.tl) (n1:p.tl≠p.l) (n2:p.tl≠p.acc) (hzs:IsStrs p.zs (takenL j)):
  codeAny (model prog w) A (t2C p) (fun r sh'=>r= .ok .next∧Ext (t2Mu p) sh₀ sh'∧∃ (ys:Array Value) (m:Nat) (e:Option Value) (hs:Nat→Int) (ts:Nat→Nat) (ep:Nat),IsInts ys (firstsL j rows rows.length)∧
   sh'.heap.get? p.acc=some (listO ys m)∧sh'.heap.get? p.cf=some (dicO (kE e) hs ts ep)) sh₀:=by
 subst hg
 refine x14 (id H) fun o0 l0 o1 l1 o2 l2 o3 l3 o4 l4 o5 l5 zz=>?_
 have nt:NoTup sh₀ (t2Mu p):=by
  rintro b (rfl | rfl | rfl) xs h
  ·exact ne_of (o':=tupO xs) o0 h (by kernel_rfl) rfl
  ·exact ne_of (o':=tupO xs) o2 h (by kernel_rfl) rfl
  ·exact ne_of (o':=tupO xs) o3 h (by kernel_rfl) rfl
 have lr:=hr.length
 have kp: ∀ {b:Nat} {o:Obj} {sh:Shared},Ext (t2Mu p) sh₀ sh→sh₀.heap.get? b=some o→b≠p.acc→kne (riO (Int.ofNat p.i) p.left).cls o.cls=true→kne (dicO (kE none) p.hs p.ts p.ep).cls o.cls=true→sh.heap.get? b=some o:=fun X h hn h1 h2=>X.keep _ _ h (by
  rintro (q | q | q)
  ·exact hn q
  ·exact ne_of o2 h h1 q
  ·exact ne_of o3 h h2 q)
 refine loop_rule (Inv:=t2Inv w sh₀ p j rows) (n:=rows.length) (fun i sh hin I K=>?_) (fun sh I=>?_) rows.length 0 sh₀ (by lia) ⟨T,.refl T.gens T.toks,p.ys,p.m,none,p.hs,p.ts,p.ep,⟨[],by rw [hy]; rfl,rfl⟩,fun zz=>rfl,fun h=>absurd h (by lia),o0,?_,o3⟩
 ·refine x19 I fun T1 X ys m e hs ts ep h1 zz zz h2 h3 h4=>?_; clear I
  obtain ⟨a,ha⟩: ∃ a,refs[i]? =some a:=⟨refs[i]'(by lia),by simp⟩
  refine x0 (hr.get ha) fun r hri hra=>?_
  have hra:=hra.ext' X nt
  refine x11 hra fun g1 tk tv g2=>?_; clear hra
  have okr:=ok r (List.mem_of_getElem? hri)
  let q:TP2:= {p with i:=i,left:=(rows.length:Int) - i,ys:=ys,m:=m,hs:=hs,ts:=ts,ep:=ep,a:=a,k:=r.1,tk0:=tk,v:=r.2,tv:=tv}
  have H':OwnAll 277 sh (t2D q e):=⟨⟨h2,l0⟩,⟨kp X o1 hne (by kernel_rfl) (by kernel_rfl),l1⟩,⟨h3,l2⟩,⟨h4,l3⟩,⟨kp X o4 (ne_of o0 o4 (by kernel_rfl)) (by kernel_rfl) (by kernel_rfl),l4⟩,⟨kp X o5 (ne_of o0 o5 (by kernel_rfl)) (by kernel_rfl) (by kernel_rfl),l5⟩,⟨g2,g1⟩,⟨kp X htl n2 (by kernel_rfl) (by kernel_rfl),htL⟩,trivial⟩
  have F:=t2_facts H' hne hc n1 n2
  have hz:277≤sh.heap.objs.size:=T1.l7
  have hxa:p.xs[i]? =some (.ref a):=by rw [hx]; exact refsA_get ha
  have hys:ys.size≤100:=by rw [h1.size]; have:=firstsL_len j rows i; lia
  refine x0 hzs fun ps hps hps2=>?_; clear hzs
  have hb:(ps.any fun x=>x.1==lowS r.1)=takesB j (lowS r.1):=by rw [any_map1,hps2]; exact takenL_any j _
  have go: ∀ (tk:Nat) (ys':Array Value) (m':Nat) (R:Rs),t2Loop q tk ys' m' R→IsInts ys' (firstsL j rows (i+1))→
    Ok (sv p.prog w A (fun r sh'=>r= .ok .next∧Ext (t2Mu p) sh₀ sh'∧∃ (ys:Array Value) (m:Nat) (e:Option Value) (hs:Nat→Int) (ts:Nat→Nat) (ep:Nat),IsInts ys (firstsL j rows rows.length)∧
     sh'.heap.get? p.acc=some (listO ys m)∧sh'.heap.get? p.cf=some (dicO (kE e) hs ts ep)) sh.heap (inD (t2D q e)) sh.os sh.toks) R:=by
   intro tk ys' m' R z hys'
   refine CLoop.ok z fun sh' z S=>?_
   refine x2 z fun z1 z2=>?_; clear z
   have Y:=(S.only (sh:=sh) rfl rfl rfl F (cs:= [true,false,true,true,false,false,false,false]) (z1.trans rfl)).weak (mu':=t2Mu p) fun b hb=>by
    rcases hb with hb | hb | hb | hb
    ·exact .inl hb
    ·exact .inr (.inl hb)
    ·exact .inr (.inr hb)
    ·exact hb.elim
   refine x7 (S.all0 z2) fun a0 zz a2 zz a3 zz zz=>?_
   refine K sh' ⟨T1.ext Y ?_,X.trans Y,_,_,_,_,_,_,hys',fun h=>absurd h (by lia),fun zz=>rfl,a0,?_,a3⟩
   ·rintro b (rfl | rfl | rfl)
    ·exact l0
    ·exact l2
    ·exact l3
   ·have e1:(Int.ofNat (i+1))=Int.ofNat i+1:=rfl
    have e2:((rows.length:Int) - ((i+1:Nat):Int))=(rows.length:Int) - i - 1:=by lia
    rw [e1,e2]
    exact a2
  have inOk: ∀ (b:Bool) (hh:List Nat) (P:Nat→Rs→Prop) (R:Rs) (Q:Result→Shared→Prop),takesB j (lowS r.1)=b→t2In q b hh P R→(∀ tk R',P tk R'→Ok (sv p.prog w A Q sh.heap (inD (t2D q e)) sh.os sh.toks) R')→Ok (sv p.prog w A Q sh.heap (inD (t2D q e)) sh.os sh.toks) R:=by
   intro b hh P R Q hbb z hP
   refine CSet.ok (fun zz=>True) z Rm T1.size (fun s sh1 B pre S T2 RB=>?_) fun tk' R' zz z=>?_
   ·refine x2 pre fun pre pe=>?_
    refine x3 (S.all0 pre) fun oo zz zz=>?_
    refine codeAny_mono (rnext_item S.gens T2.toks oo (by show 0<(rows.length:Int) - i; lia)) fun r' sh' hq=>x5 hq fun t y1 y2 y3=>⟨t,y1,trivial,?_,?_⟩
    ·rw [pe]; exact y2
    ·rw [pe]; exact y3
   refine CRd.ok z Rm T1.size (fun sh1 B O T2 RB=>getitem_spec tk' T2.gens T2.toks O.1.1 (by show i≤1000; lia) hxa) fun R' z=>?_
   refine CCall.ok (fun zz=>True) z Rm T1.size (fun s sh1 B zz S T2 RB=>?_) fun t' R' zz z=>?_
   ·exact codeAny_mono (lower_spec (names7_9 okr.1) T2 RB tk) fun r' sh' hq=>x0 hq fun t' h1 h2=>⟨t',h1,trivial,h2,.nil⟩
   refine CRd.ok z Rm T1.size (fun sh1 B O T2 RB=>?_) fun R' z=>hP tk' R' z
   have oo:sh1.heap.get? p.tl=some (listO (strsP ps).toArray p.e0):=by rw [←hps]; exact O.1.1
   have y:=in_strs (prog:=p.prog) (w:=w) (A:=B) (t:=t') (s:=lowS r.1) T2.gens T2.toks oo
   rw [hb,hbb] at y
   exact y
  refine walk_code T1 Rm rfl F 250 [3,1] fun K' t hK=>?_
  cases hbb:takesB j (lowS r.1) with
  | false=>
   have z:=t2N_0 q e K' t
   rw [show q.P=w.params from hp] at z
   revert z
   show t2N q (runC p.prog w.params 250 (t2C p) [3,1] (t2D q e) K' t)→_
   generalize runC p.prog w.params 250 (t2C p) [3,1] (t2D q e) K' t=R
   intro z
   refine inOk false _ _ R _ hbb z fun tk' R' z=>go tk' _ _ R' z ?_
   have:firstB j rows i=false:=by unfold firstB; rw [hri]; show (takesB j (lowS r.1)&&_)=false; rw [hbb]; rfl
   show IsInts ys (firstsL j rows i++(if firstB j rows i=true then [i] else []))
   rw [this,if_neg (by decide),List.append_nil]
   exact h1
  | true=>
   let bb:=(rows.take i).any fun x=>lowS x.1==lowS r.1
   have hfb:firstB j rows i= !bb:=by unfold firstB; rw [hri]; show (takesB j (lowS r.1)&&_)=_; rw [hbb,Bool.true_and]
   have secOk: ∀ (hh:List Nat) (P:Nat→Rs→Prop) (R:Rs) (Q:Result→Shared→Prop),t2Y q (itw w.params) bb hh P R→(∀ tk R',P tk R'→Ok (sv p.prog w A Q sh.heap (inD (t2D q e)) sh.os sh.toks) R')→Ok (sv p.prog w A Q sh.heap (inD (t2D q e)) sh.os sh.toks) R:=by
    intro hh P R Q z hP
    refine inOk true _ _ R _ hbb z fun tk' R' z=>?_
    refine CRd.ok z Rm T1.size (fun sh1 B O T2 RB=>getitem_spec tk' T2.gens T2.toks O.1.1 (by show i≤1000; lia) hxa) fun R' z=>?_
    refine CCall.ok (fun zz=>True) z Rm T1.size (fun s sh1 B zz S T2 RB=>?_) fun t' R' zz z=>?_
    ·exact codeAny_mono (lower_spec (names7_9 okr.1) T2 RB tk) fun r' sh' hq=>x0 hq fun t' h1 h2=>⟨t',h1,trivial,h2,.nil⟩
    refine CSw.ok (fun x=>277≤x) z Rm T1.size (fun s sh1 B pre S T2 RB=>?_) fun x3 R' zz z=>?_
    ·refine x6 (S.all0 pre) fun y1 zz y2 zz zz=>?_
     have l7:277≤sh1.heap.objs.size:=T2.l7
     refine codeAny_mono (getslice_spec T2.gens T2.toks y1 y2 (by show i≤p.xs.size; rw [hx]; simp; lia) (by show p.xs.size≤1000; rw [hx]; simp; lia)) fun r' sh' hq=>x4 hq fun y3 y4 y5=>?_
     refine ⟨_,y3,l7,y4.weak fun b hb=>hb.elim,.of ⟨⟨y5,l7⟩,trivial⟩ (by kernel_rfl),fun y hy=>.inl ?_⟩
     rcases List.mem_cons.mp hy with rfl | hy
     ·exact Nat.le_refl _
     ·cases hy
    refine CSw.ok (fun x=>IsStrs x.ys ((rows.take i).map fun r=>lowS r.1)) z Rm T1.size (fun s sh1 B pre S T2 RB=>?_) fun x R' hxs z=>?_
    ·refine x54 pre fun pre g11 g9 g10 g12 zz e9 ek=>?_
     have O:=S.all rfl rfl hz F pre
     have Y:=(S.only (sh:=sh) rfl rfl rfl F (cs:= [true,false,true,true,false,false,false,false]) (ek.trans rfl)).weak (mu':=t2Mu p) fun b hb=>by
      rcases hb with hb | hb | hb | hb
      ·exact .inl hb
      ·exact .inr (.inl hb)
      ·exact .inr (.inr hb)
      ·exact hb.elim
     have n3:aOf s 9≠aOf s 11:=apart_of S g9 g11 rfl
     have ch: ∀ i,[10,11,12].contains i=true→i<13→(getD s.D i).isSome=true→chA (csN [10,11,12] 13) s.D (aOf s i):=fun i h1 h2 h3=>chA_at h3 (csN_at h2 h1)
     have rr:RowsAt sh1 refs rows:=hr.ext (X.trans Y) nt
     refine codeAny_mono (to3_loop RB (refs:=refs.take i) (rows:=rows.take i) (p:=tp3 q x3 s) (w:=w) hp rfl ?_ (rr.take i) (fun r h=>ok r (List.mem_of_mem_take h)) (by rw [List.length_take]; lia) T2 rfl rfl O (by rw [←e9] at *; exact n3)) fun r' sh' hq=>?_
     ·show (p.xs.toList.take i).toArray=_
      rw [hx]
      simp [refsA,List.map_take]
     ·refine x30 hq fun y1 y2 ys3 m3 e3 hs3 ts3 ep3 y3 zz zz y4 y5=>?_; clear hq
      refine ⟨⟨ys3,m3,e3,hs3,ts3,ep3⟩,y1,y3,y2.weak fun b hb=>?_,.of ⟨⟨y4,O.1.2⟩,⟨y5,O.2.2.2.1.2⟩,trivial⟩ (by kernel_rfl),fun y hy=>.inr ?_⟩
      ·rcases hb with rfl | rfl | rfl
       ·exact ch 11 (by simp) (by lia) g11
       ·exact ch 10 (by simp) (by lia) g10
       ·exact ch 12 (by simp) (by lia) g12
      ·rcases List.mem_cons.mp hy with rfl | hy
       ·exact ch 11 (by simp) (by lia) g11
       ·rcases List.mem_cons.mp hy with rfl | hy
        ·exact ch 12 (by simp) (by lia) g12
        ·cases hy
    refine CSw.ok (fun zz=>True) z Rm T1.size (fun s sh1 B pre S T2 RB=>?_) fun zz R' zz z=>hP tk' R' z
    obtain ⟨⟨oo,_⟩,_⟩:=S.all0 pre
    obtain ⟨ps3,hp3,hm3⟩:=hxs
    have hxs:x.ys=(strsP ps3).toArray:=hp3
    rw [hxs] at oo
    have y:=in_strs (prog:=p.prog) (w:=w) (A:=B) (t:=t') (s:=lowS r.1) T2.gens T2.toks oo
    have hbb3:(ps3.any fun x=>x.1==lowS r.1)=bb:=by
     rw [any_map1,hm3,List.any_map]
     rfl
    rw [hbb3] at y
    exact codeAny_mono y fun r' sh' hq=>x2 hq fun h1 h2=>⟨(),h1,trivial,h2,.nil,fun y hy=>by cases hy⟩
   cases hbb2:bb with
   | true=>
    have z:=t2Y1_0 q e K' t
    rw [show q.P=w.params from hp] at z
    revert z
    show t2Y1 q (itw w.params) (runC p.prog w.params 250 (t2C p) [3,1] (t2D q e) K' t)→_
    generalize runC p.prog w.params 250 (t2C p) [3,1] (t2D q e) K' t=R
    intro z
    rw [hbb2] at secOk hfb
    refine secOk _ _ R _ z fun tk' R' z=>go tk' _ _ R' z ?_
    show IsInts ys (firstsL j rows i++(if firstB j rows i=true then [i] else []))
    rw [hfb,if_neg (by decide),List.append_nil]
    exact h1
   | false=>
    have z:=t2Y0_0 q e K' t
    rw [show q.P=w.params from hp] at z
    revert z
    show t2Y0 q (itw w.params) (runC p.prog w.params 250 (t2C p) [3,1] (t2D q e) K' t)→_
    generalize runC p.prog w.params 250 (t2C p) [3,1] (t2D q e) K' t=R
    intro z
    rw [hbb2] at secOk hfb
    refine secOk _ _ R _ z fun tk' R' z=>?_
    refine CApp.ok z Rm T1.size (by show ys.size≤1000; lia) fun R' z=>go tk' _ _ R' z ?_
    show IsInts _ (firstsL j rows i++(if firstB j rows i=true then [i] else []))
    rw [hfb,if_pos (by decide)]
    exact h1.push _ _
 ·refine x19 I fun T1 X ys m e hs ts ep h1 e1 e2 h2 h3 h4=>?_; clear I
  let q:TP2:= {p with i:=rows.length,left:=(rows.length:Int) - rows.length,ys:=ys,m:=m,hs:=hs,ts:=ts,ep:=ep}
  have H':OwnAll 277 sh (t2D6 q e):=⟨⟨h2,l0⟩,⟨kp X o1 hne (by kernel_rfl) (by kernel_rfl),l1⟩,⟨h3,l2⟩,⟨h4,l3⟩,⟨kp X o4 (ne_of o0 o4 (by kernel_rfl)) (by kernel_rfl) (by kernel_rfl),l4⟩,⟨kp X o5 (ne_of o0 o5 (by kernel_rfl)) (by kernel_rfl) (by kernel_rfl),l5⟩,trivial⟩
  have F:=t2_facts6 H' hne hc
  refine walk_code T1 Rm rfl F 250 [3,1] fun K' t hK=>?_
  have z:=t2E_0 q e K' t
  rw [show q.P=w.params from hp] at z
  revert z
  show t2E q e (runC p.prog w.params 250 (t2C p) [3,1] (t2D6 q e) K' t)→_
  generalize runC p.prog w.params 250 (t2C p) [3,1] (t2D6 q e) K' t=R
  intro z
  unfold t2E CStop at z
  refine CSw.ok (fun zz=>True) z Rm T1.size (fun s sh1 B pre S T2 RB=>?_) fun x R' zz z=>?_
  ·refine x3 (S.all0 pre) fun oo zz zz=>?_
   have l7:277≤sh1.heap.objs.size:=T2.l7
   refine codeAny_mono (rnext_end T2.gens T2.toks RB.handled oo (by show (rows.length:Int) - rows.length≤0; lia)) fun r' sh' hq=>x15 hq fun ex vs y1 y2 y3 y4=>?_
   refine ⟨(ex,vs),y1,trivial,y2.weak fun b hb=>hb.elim,.cons y4 (Nat.le_trans l7 y3) ne_nil .nil,fun y hy=>.inl ?_⟩
   rcases List.mem_cons.mp hy with rfl | hy
   ·exact y3
   ·cases hy
  refine CEnd.ok z fun sh' z S=>?_
  have Y:=S.only (sh:=sh) rfl rfl rfl F (cs:= [false,false,false,false,false,false]) (z.trans rfl)
  have Y:Ext none_ sh sh':=Y.weak fun b h=>h
  exact ⟨rfl,X.trans (Y.weak fun b h=>h.elim),ys,m,e,hs,ts,ep,h1,Y.keep _ _ h2 id,Y.keep _ _ h4 id⟩
 ·rw [hi,hlf] at o2
  show sh₀.heap.get? p.it=some (riO (Int.ofNat 0) ((rows.length:Int) - (0:Nat)))
  rw [show ((rows.length:Int) - (0:Nat))=rows.length by lia]
  exact o2
end
noncomputable def addrN:Nat→List (Nat×Obj)→List Nat
 | 0,_=> []
 | _+1,[]=> []
 | n+1,x::l=>x.1::addrN n l
theorem addrN_get: ∀ {n:Nat} {D:List (Nat×Obj)} {i:Nat},i<n→(addrN n D)[i]? =(D[i]?).map (·.1)
 | 0,_,_,h=>absurd h (Nat.not_lt_zero _)
 | _+1,[],i,_=>by simp [addrN]
 | n+1,x::l,0,_=>rfl
 | n+1,x::l,i+1,h=>by
  show (addrN n l)[i]? =_
  rw [addrN_get (by lia)]
  simp
theorem inD_idx: ∀ {D:List (Nat×Obj)} {b:Nat},inD D b→∃ (i:Nat) (x:Nat×Obj),D[i]? =some x∧x.1=b
 | [],_,h=>h.elim
 | x::l,b,h=>by
  rcases h with h | h
  ·exact ⟨0,x,rfl,h.symm⟩
  ·refine x12 (inD_idx h) fun i y h1 h2=>?_
   exact ⟨i+1,y,by simpa using h1,h2⟩
theorem new_of {V:Sv} {s:St} {sh:Shared} (S:Sat V s sh) {D:List (Nat×Obj)} (hm:V.mu=inD D) {n:Nat} (hn:D.length=n) (ha:addrN n s.D=addrN n D) {j:Nat} (hj:n≤j) (g:(getD s.D j).isSome=true):V.h₀.objs.size≤aOf s j:=by
 rcases S.muD j _ (aOf_get g) with q | q
 ·rw [hm] at q
  refine x12 (inD_idx q) fun i x h1 h2=>?_
  have hi:i<n:=by
   rw [←hn]
   rcases Nat.lt_or_ge i D.length with h | h
   ·exact h
   ·rw [List.getElem?_eq_none h] at h1; cases h1
  have e:=congrArg (fun l=>l[i]?) ha
  simp only [addrN_get hi,h1] at e
  cases q2:s.D[i]? with
  | none=>rw [q2] at e; cases e
  | some y=>
   rw [q2] at e
   have e:y.1=x.1:=Option.some.inj e
   have:=S.apart i j y _ q2 (aOf_get g) (e.trans h2)
   lia
 ·exact q
structure TP4 where
 prog:Program
 P:Params
 it:Nat
 fl:Nat
 i:Nat
 fn:Nat
 zs:Array Value
 cf:Nat
 hs:Nat→Int
 ts:Nat→Nat
 ep:Nat
 acc:Nat
 ys:Array Value
 m:Nat
 cr:Nat
 l:Nat
 n:Nat
 xs:Array Value
 fr:Nat
 a:Nat
 k:Str
 tk:Nat
 v:Str
 tv:Nat
 kk:Nat
 tkk:Nat
noncomputable def t4D6 (p:TP4) (e:Option Value):List (Nat×Obj):=
 [(p.acc,listO p.ys p.m),(p.fl,listO p.zs p.fn),(p.it,iterO p.fl p.i),(p.cf,dicO (kE e) p.hs p.ts p.ep),(p.cr,cellO (.ref p.l)),(p.l,listO p.xs p.n)]
noncomputable def t4D (p:TP4) (e:Option Value):List (Nat×Obj):=
 [(p.acc,listO p.ys p.m),(p.fl,listO p.zs p.fn),(p.it,iterO p.fl p.i),(p.cf,dicO (kE e) p.hs p.ts p.ep),(p.cr,cellO (.ref p.l)),(p.l,listO p.xs p.n),(p.a,tupO [.str p.k p.tk,.str p.v p.tv])]
noncomputable abbrev t4C (p:TP4):Code:=toC4 p.it p.acc p.fr p.cf p.cr
noncomputable def t4T (p:TP4):Rs→Prop:=
 CNext p.it p.fl p.i p.fn p.zs 2 1 (.int (Int.ofNat p.kk) p.tkk) [4,4,5,4,6,6,6,1]<|CRd (getC p.l p.kk p.tkk) [5] [(p.l,listO p.xs p.n)] (.ok (.ret (.ref p.a))) [7,7,7,0,7,0,7,0,1]<|
  CSet (X:=Unit) (fun s=>.call (.builtin "list.append") ⟨[.ref p.acc,.ref (aOf s 7)],[]⟩) (fun s=>pick [0] s.D= [(p.acc,listO p.ys p.m)]∧aOf s 0=p.acc) (fun zz=>.ok (.ret .none)) 0 (fun s zz=>listO (p.ys.push (.ref (aOf s 7))) (p.m+1)) (fun zz=> [1]) fun zz=>
  CLoop (t4C p) fun s=>keepD [true,false,true,true,false,false,false] s.D=keepD [true,false,true,true,false,false,false] (t4D p none)∧
   pick [0,2,3,7] s.D= [(p.acc,listO (p.ys.push (.ref (aOf s 7))) (p.m+1)),(p.it,iterO p.fl (p.i+1)),(p.cf,dicO (kE (some (.int (Int.ofNat p.kk) p.tkk))) (hsOf (dOf s 3)) (tsOf (dOf s 3)) (epOf (dOf s 3))),(aOf s 7,tupO [.str p.k p.tk,.str sn (tokAt 1 (dOf s 7))])]∧
   addrN 7 s.D=addrN 7 (t4D p none)∧(getD s.D 7).isSome=true
noncomputable instance t4T.rf {p:TP4} {R:Rs} :Rf (t4T p R):=by
 delta t4T; infer_instance
noncomputable def t4E (p:TP4) (e:Option Value):Rs→Prop:=
 CLast p.it p.fl p.i p.fn p.zs 2 1 [7] fun zz=>CEnd (.ok .next) fun s=>keepD [false,false,true,false,false,false] s.D=keepD [false,false,true,false,false,false] (t4D6 p e)
noncomputable instance t4E.rf {p:TP4} {e:Option Value} {R:Rs} :Rf (t4E p e R):=by
 delta t4E; infer_instance
noncomputable abbrev t4Run (p:TP4) (P:Params) (D:List (Nat×Obj)) (K t:Nat):Rs:=runC p.prog P 150 (t4C p) [3,1] D K t
theorem t4T_0 (p:TP4) (e:Option Value) (K t:Nat):t4T p (t4Run p p.P (t4D p e) K t):=pset1 (X:=fun P=>t4T p (t4Run p P (t4D p e) K t)) (by intro b1; revert e; exact Rf.prove _ (by kernel_rfl))
theorem t4E_0 (p:TP4) (e:Option Value) (K t:Nat):t4E p e (t4Run p p.P (t4D6 p e) K t):=pset1 (X:=fun P=>t4E p e (t4Run p P (t4D6 p e) K t)) (by intro b1; revert e; exact Rf.prove _ (by kernel_rfl))
theorem t4_facts6 {sh:Shared} {p:TP4} {e:Option Value} (H:OwnAll 277 sh (t4D6 p e)) (hne:p.fl≠p.acc) (n1:p.l≠p.fl) (n2:p.l≠p.acc):Facts 277 sh (t4D6 p e):=by
 refine x14 H fun o0 l0 o1 l1 o2 l2 o3 l3 o4 l4 o5 l5 zz=>?_; clear H
 exact .cons o0 l0 (ne_cons hne (ne_cons (ne_of o0 o2 (by kernel_rfl)) (ne_cons (ne_of o0 o3 (by kernel_rfl)) (ne_cons (ne_of o0 o4 (by kernel_rfl)) (ne_cons n2 ne_nil))))) (.cons o1 l1 (ne_cons (ne_of o1 o2 (by kernel_rfl)) (ne_cons (ne_of o1 o3 (by kernel_rfl)) (ne_cons (ne_of o1 o4 (by kernel_rfl)) (ne_cons n1 ne_nil)))) (.cons o2 l2 (ne_cons (ne_of o2 o3 (by kernel_rfl)) (ne_cons (ne_of o2 o4 (by kernel_rfl)) (ne_cons (ne_of o2 o5 (by kernel_rfl)) ne_nil))) (.cons o3 l3 (ne_cons (ne_of o3 o4 (by kernel_rfl)) (ne_cons (ne_of o3 o5 (by kernel_rfl)) ne_nil)) (.cons o4 l4 (ne_cons (ne_of o4 o5 (by kernel_rfl)) ne_nil) (.cons o5 l5 ne_nil .nil)))))
theorem t4_facts {sh:Shared} {p:TP4} {e:Option Value} (H:OwnAll 277 sh (t4D p e)) (hne:p.fl≠p.acc) (n1:p.l≠p.fl) (n2:p.l≠p.acc):Facts 277 sh (t4D p e):=by
 refine x55 H fun o0 l0 o1 l1 o2 l2 o3 l3 o4 l4 o5 l5 o6 l6 zz=>?_; clear H
 exact .cons o0 l0 (ne_cons hne (ne_cons (ne_of o0 o2 (by kernel_rfl)) (ne_cons (ne_of o0 o3 (by kernel_rfl)) (ne_cons (ne_of o0 o4 (by kernel_rfl)) (ne_cons n2 (ne_cons (ne_of o0 o6 (by kernel_rfl)) ne_nil)))))) (.cons o1 l1 (ne_cons (ne_of o1 o2 (by kernel_rfl)) (ne_cons (ne_of o1 o3 (by kernel_rfl)) (ne_cons (ne_of o1 o4 (by kernel_rfl)) (ne_cons n1 (ne_cons (ne_of o1 o6 (by kernel_rfl)) ne_nil))))) (.cons o2 l2 (ne_cons (ne_of o2 o3 (by kernel_rfl)) (ne_cons (ne_of o2 o4 (by kernel_rfl)) (ne_cons (ne_of o2 o5 (by kernel_rfl)) (ne_cons (ne_of o2 o6 (by kernel_rfl)) ne_nil)))) (.cons o3 l3 (ne_cons (ne_of o3 o4 (by kernel_rfl)) (ne_cons (ne_of o3 o5 (by kernel_rfl)) (ne_cons (ne_of o3 o6 (by kernel_rfl)) ne_nil))) (.cons o4 l4 (ne_cons (ne_of o4 o5 (by kernel_rfl)) (ne_cons (ne_of o4 o6 (by kernel_rfl)) ne_nil)) (.cons o5 l5 (ne_cons (ne_of o5 o6 (by kernel_rfl)) ne_nil) (.cons o6 l6 ne_nil .nil))))))
noncomputable def newRow (rows:List Row) (k:Nat):Row:=match rows[k]? with
 | some r=>(r.1,sn)
 | none=>(⟨#[]⟩,sn)
section
variable {prog:Program} {w:World}
noncomputable def t4Mu (p:TP4) (b:Nat):Prop:=b=p.acc∨b=p.it∨b=p.cf
noncomputable def t4Inv (w:World) (sh₀:Shared) (p:TP4) (ks:List Nat) (rows:List Row) (i:Nat) (sh:Shared):Prop:=
 Top w sh∧Ext (t4Mu p) sh₀ sh∧∃ (news:List Nat) (m:Nat) (e:Option Value) (hs:Nat→Int) (ts:Nat→Nat) (ep:Nat),RowsAt sh news ((ks.take i).map (newRow rows))∧news.Nodup∧(∀ b∈news,sh₀.heap.objs.size≤b)∧
  sh.heap.get? p.acc=some (listO (refsA news) m)∧sh.heap.get? p.it=some (iterO p.fl i)∧sh.heap.get? p.cf=some (dicO (kE e) hs ts ep)
theorem to4_loop {A:Around} (Rm:Room 1 A) {sh₀:Shared} {rows:List Row} {refs ks:List Nat} {p:TP4} (hp:p.P=w.params) (hg:p.prog=prog) (hx:p.xs=refsA refs) (hr:RowsAt sh₀ refs rows) (hz:IsInts p.zs ks) (hks: ∀ k∈ks,k<rows.length) (hsz:rows.length≤100) (hkl:ks.length≤100)
  (T:Top w sh₀) (hi:p.i=0) (hy:p.ys= #[]) (H:OwnAll 277 sh₀ (t4D6 p none)) (hne:p.fl≠p.acc) (n1:p.l≠p.fl) (n2:p.l≠p.acc):
  codeAny (model prog w) A (t4C p) (fun r sh'=>r= .ok .next∧Ext (t4Mu p) sh₀ sh'∧∃ (news:List Nat) (m:Nat) (e:Option Value) (hs:Nat→Int) (ts:Nat→Nat) (ep:Nat),RowsAt sh' news (ks.map (newRow rows))∧news.Nodup∧(∀ b∈news,sh₀.heap.objs.size≤b)∧
   sh'.heap.get? p.acc=some (listO (refsA news) m)∧sh'.heap.get? p.cf=some (dicO (kE e) hs ts ep)) sh₀:=by
 subst hg
 refine x14 (id H) fun o0 l0 o1 l1 o2 l2 o3 l3 o4 l4 o5 l5 zz=>?_
 have lr:=hr.length
 have kp: ∀ {b:Nat} {o:Obj} {sh:Shared},Ext (t4Mu p) sh₀ sh→sh₀.heap.get? b=some o→b≠p.acc→kne (iterO p.fl p.i).cls o.cls=true→kne (dicO (kE none) p.hs p.ts p.ep).cls o.cls=true→sh.heap.get? b=some o:=fun X h hn h1 h2=>X.keep _ _ h (by
  rintro (q | q | q)
  ·exact hn q
  ·exact ne_of o2 h h1 q
  ·exact ne_of o3 h h2 q)
 have nt: ∀ {sh:Shared} {news:List Nat} {m i ep:Nat} {e:Option Value} {hs:Nat→Int} {ts:Nat→Nat},sh.heap.get? p.acc=some (listO (refsA news) m)→sh.heap.get? p.it=some (iterO p.fl i)→sh.heap.get? p.cf=some (dicO (kE e) hs ts ep)→NoTup sh (t4Mu p):=by
  rintro sh news m i ep e hs ts h2 h3 h4 b (rfl | rfl | rfl) xs h
  ·exact ne_of (o':=tupO xs) h2 h (by kernel_rfl) rfl
  ·exact ne_of (o':=tupO xs) h3 h (by kernel_rfl) rfl
  ·exact ne_of (o':=tupO xs) h4 h (by kernel_rfl) rfl
 have o0':sh₀.heap.get? p.acc=some (listO (refsA []) p.m):=by rw [o0,hy]; rfl
 have nt0:=nt o0' o2 o3
 refine loop_rule (Inv:=t4Inv w sh₀ p ks rows) (n:=ks.length) (fun i sh hin I K=>?_) (fun sh I=>?_) ks.length 0 sh₀ (by lia) ⟨T,.refl T.gens T.toks,[],p.m,none,p.hs,p.ts,p.ep,.nil,.nil,(fun b h=>absurd h List.not_mem_nil),o0',by rw [hi] at o2; exact o2,o3⟩
 ·refine x19 I fun T1 X news m e hs ts ep h1 hnd hnew h2 h3 h4=>?_; clear I
  have ln:=h1.length
  rw [List.length_map,List.length_take] at ln
  obtain ⟨kk,hkk⟩: ∃ kk,ks[i]? =some kk:=⟨ks[i]'(by lia),by simp⟩
  refine x1 (hz.get hkk) fun tkk hzk=>?_
  have kl:kk<rows.length:=hks kk (List.mem_of_getElem? hkk)
  obtain ⟨a,ha⟩: ∃ a,refs[kk]? =some a:=⟨refs[kk]'(by lia),by simp⟩
  refine x0 (hr.get ha) fun r hri hra=>?_
  have hra:=hra.ext' X nt0
  refine x11 hra fun g1 tk tv g2=>?_; clear hra
  let q:TP4:= {p with i:=i,ys:=refsA news,m:=m,hs:=hs,ts:=ts,ep:=ep,a:=a,k:=r.1,tk:=tk,v:=r.2,tv:=tv,kk:=kk,tkk:=tkk}
  have H':OwnAll 277 sh (t4D q e):=⟨⟨h2,l0⟩,⟨kp X o1 hne (by kernel_rfl) (by kernel_rfl),l1⟩,⟨h3,l2⟩,⟨h4,l3⟩,⟨kp X o4 (ne_of o0 o4 (by kernel_rfl)) (by kernel_rfl) (by kernel_rfl),l4⟩,⟨kp X o5 n2 (by kernel_rfl) (by kernel_rfl),l5⟩,⟨g2,g1⟩,trivial⟩
  have F:=t4_facts H' hne n1 n2
  have hz:277≤sh.heap.objs.size:=T1.l7
  have hxa:p.xs[kk]? =some (.ref a):=by rw [hx]; exact refsA_get ha
  refine walk_code T1 Rm rfl F 150 [3,1] fun K' t hK=>?_
  have z:=t4T_0 q e K' t
  rw [show q.P=w.params from hp] at z
  revert z
  show t4T q (runC p.prog w.params 150 (t4C p) [3,1] (t4D q e) K' t)→_
  generalize runC p.prog w.params 150 (t4C p) [3,1] (t4D q e) K' t=R
  intro z
  refine CNext.ok z Rm T1.size hzk fun R' z=>?_
  refine CRd.ok z Rm T1.size (fun sh1 B O T2 RB=>getitem_spec tkk T2.gens T2.toks O.1.1 (by show kk≤1000; lia) hxa) fun R' z=>?_
  refine CSet.ok (fun zz=>True) z Rm T1.size (fun s sh1 B pre S T2 RB=>?_) fun zz R' zz z=>?_
  ·refine x2 pre fun pre pe=>?_
   refine x3 (S.all0 pre) fun oo zz zz=>?_
   refine codeAny_mono (append_spec S.gens T2.toks oo (by show (refsA news).size≤1000; simp [refsA]; lia)) fun r' sh' hq=>x4 hq fun y1 y2 y3=>⟨(),y1,trivial,?_,?_⟩
   ·rw [pe]; exact y2
   ·rw [pe]; exact y3
  refine CLoop.ok z fun sh' z S=>?_
  refine x13 z fun z1 z2 z3 z4=>?_; clear z
  have big:sh.heap.objs.size≤aOf (stOf R') 7:=new_of S rfl (n:=7) rfl (z3.trans rfl) (Nat.le_refl _) z4
  have Y:=(S.only (sh:=sh) rfl rfl rfl F (cs:= [true,false,true,true,false,false,false]) (z1.trans rfl)).weak (mu':=t4Mu p) fun b hb=>by
   rcases hb with hb | hb | hb | hb
   ·exact .inl hb
   ·exact .inr (.inl hb)
   ·exact .inr (.inr hb)
   ·exact hb.elim
  refine x9 (S.all rfl rfl hz F z2) fun a0 zz a2 zz a3 zz a7 l7 zz=>?_
  refine K sh' ⟨T1.ext Y ?_,X.trans Y,news++ [aOf (stOf R') 7],m+1,_,_,_,_,?_,?_,?_,?_,a2,a3⟩
  ·rintro b (rfl | rfl | rfl)
   ·exact l0
   ·exact l2
   ·exact l3
  ·have e1:ks.take (i+1)=ks.take i++ [kk]:=by rw [List.take_add_one,hkk]; rfl
   rw [e1,List.map_append]
   refine (h1.ext Y (nt h2 h3 h4)).app (.cons ⟨l7,tk,tokAt 1 (dOf (stOf R') 7),?_⟩ .nil)
   have:newRow rows kk=(r.1,sn):=by unfold newRow; rw [hri]
   rw [this]
   exact a7
  ·refine List.nodup_append.mpr ⟨hnd,by simp,fun x hx y hy e=>?_⟩
   have hy:y=aOf (stOf R') 7:=by simpa using hy
   refine x1 (List.mem_iff_getElem?.mp hx) fun ix hix=>?_
   refine x21 (h1.get hix) fun zz zz zz zz zz g=>?_
   have g:=Heap.lt_size g
   rw [e,hy] at g
   exact absurd g (Nat.not_lt.mpr big)
  ·intro b hb
   rcases List.mem_append.mp hb with hb | hb
   ·exact hnew b hb
   ·have hb:b=aOf (stOf R') 7:=by simpa using hb
    rw [hb]
    exact Nat.le_trans X.size big
  ·have:refsA (news++ [aOf (stOf R') 7])=(refsA news).push (.ref (aOf (stOf R') 7)):=by simp [refsA]
   rw [this]
   exact a0
 ·refine x19 I fun T1 X news m e hs ts ep h1 hnd hnew h2 h3 h4=>?_; clear I
  let q:TP4:= {p with i:=ks.length,ys:=refsA news,m:=m,hs:=hs,ts:=ts,ep:=ep}
  have H':OwnAll 277 sh (t4D6 q e):=⟨⟨h2,l0⟩,⟨kp X o1 hne (by kernel_rfl) (by kernel_rfl),l1⟩,⟨h3,l2⟩,⟨h4,l3⟩,⟨kp X o4 (ne_of o0 o4 (by kernel_rfl)) (by kernel_rfl) (by kernel_rfl),l4⟩,⟨kp X o5 n2 (by kernel_rfl) (by kernel_rfl),l5⟩,trivial⟩
  have F:=t4_facts6 H' hne n1 n2
  refine walk_code T1 Rm rfl F 150 [3,1] fun K' t hK=>?_
  have z:=t4E_0 q e K' t
  rw [show q.P=w.params from hp] at z
  revert z
  show t4E q e (runC p.prog w.params 150 (t4C p) [3,1] (t4D6 q e) K' t)→_
  generalize runC p.prog w.params 150 (t4C p) [3,1] (t4D6 q e) K' t=R
  intro z
  refine CLast.ok z Rm T1.size (by show p.zs[ks.length]? =none; exact Array.getElem?_eq_none (by rw [hz.size]; lia)) fun ex R' z=>?_
  refine CEnd.ok z fun sh' z S=>?_
  have Y:=(S.only (sh:=sh) rfl rfl rfl F z).weak (mu':=fun b=>b=p.it) fun b h=>by
   rcases h with h | h
   ·exact h
   ·exact h.elim
  refine ⟨rfl,X.trans (Y.weak fun b h=>.inr (.inl h)),news,m,e,hs,ts,ep,?_,hnd,hnew,Y.keep _ _ h2 (ne_of h3 h2 (by kernel_rfl)),Y.keep _ _ h4 (ne_of h3 h4 (by kernel_rfl))⟩
  rw [List.take_length] at h1
  refine h1.ext Y fun b hb xs h=>?_
  subst hb
  exact ne_of (o':=tupO xs) h3 h (by kernel_rfl) rfl
end
noncomputable def patC:Code:=.call (.ref 235) ⟨[],[]⟩
noncomputable def strAt (o:Obj):Str:=match seqOf o with
 | []=>⟨#[]⟩
 | v::_=>(match v with
  | .str s _=>s
  | _=>⟨#[]⟩)
structure PX where
 L:Nat
 xs:Array Value
 e:Nat
 a:Nat
 pat:Str
 tp:Nat
 tl:Nat
 zs:Array Value
 e0:Nat
noncomputable def zipT:List Str→List Nat→List (Str×Nat)
 | [],_=> []
 | s::l,[]=>(s,0)::zipT l []
 | s::l,t::ts=>(s,t)::zipT l ts
theorem zipT_fst: ∀ (l:List Str) (ts:List Nat),(zipT l ts).map (·.1)=l
 | [],_=>rfl
 | s::l,[]=>by show s::_=_; rw [zipT_fst l []]
 | s::l,t::ts=>by show s::_=_; rw [zipT_fst l ts]
noncomputable def patX (j K:Nat) (s:St):PX:=⟨K+291,refsA [K+280,K+282,K+284,K+286,K+288,K+290],0,K+280+2 * j,strAt (dOf s (2+2 * j)),tokAt 0 (dOf s (2+2 * j)),K+279+2 * j,(strsP (zipT (takenL j) (toksS (seqOf (dOf s (1+2 * j)))))).toArray,0⟩
noncomputable def patO (x:PX):List (Nat×Obj):= [(x.L,listO x.xs x.e),(x.a,tupO [.str x.pat x.tp,.ref x.tl]),(x.tl,listO x.zs x.e0)]
noncomputable def patP (j K:Nat) (R:Rs):Prop:=CEnd (.ok (.ret (.ref (K+291)))) (fun s=>pick [13,2+2 * j,1+2 * j] s.D=patO (patX j K s)) R
noncomputable instance patP.rf {j K:Nat} {R:Rs} :Rf (patP j K R):=by
 delta patP; infer_instance
theorem pat_all (prog:Program) (P:Params) {j:Nat} (hj:j<6) (K t:Nat):patP j K (runC prog P 150 patC [0,0,0,0] [] K t):=by
 exact lt6 (P:=fun j=>patP j K (runC prog P 150 patC [0,0,0,0] [] K t)) hj (Rf.prove _ (by kernel_rfl)) (Rf.prove _ (by kernel_rfl)) (Rf.prove _ (by kernel_rfl)) (Rf.prove _ (by kernel_rfl)) (Rf.prove _ (by kernel_rfl)) (Rf.prove _ (by kernel_rfl))
theorem pat_spec {prog:Program} {w:World} {A:Around} {sh:Shared} {k:Nat} (T:Top w sh) (Rm:Room k A) {j:Nat} (hj:j<6):
  codeAny (model prog w) A patC (fun r sh'=>∃ x:PX,r= .ok (.ret (.ref x.L))∧x.xs[j]? =some (.ref x.a)∧IsStrs x.zs (takenL j)∧Ext none_ sh sh'∧OwnAll sh.heap.objs.size sh' (patO x)∧x.a≠x.L∧x.tl≠x.L∧x.tl≠x.a) sh:=by
 refine walk_code T Rm rfl .nil 150 [0,0,0,0] fun K t hK=>?_
 have e:=pat_all prog w.params hj K t
 revert e
 generalize runC prog w.params 150 patC [0,0,0,0] [] K t=R
 intro e
 refine CEnd.ok e fun sh' q S=>?_
 refine x7 (S.all0 q) fun o1 zz o2 zz o3 zz zz=>?_
 refine ⟨patX j K (stOf R),rfl,?_,⟨_,rfl,zipT_fst _ _⟩,(S.ext (sh₀:=sh) rfl rfl).weak fun zz h=>h,⟨⟨o1,?_⟩,⟨o2,?_⟩,⟨o3,?_⟩,trivial⟩,?_,?_,?_⟩
 ·exact lt6 (P:=fun j=>(patX j K (stOf R)).xs[j]? =some (.ref (patX j K (stOf R)).a)) hj rfl rfl rfl rfl rfl rfl
 ·show sh.heap.objs.size≤K+291; lia
 ·show sh.heap.objs.size≤K+280+2 * j; lia
 ·show sh.heap.objs.size≤K+279+2 * j; lia
 ·show K+280+2 * j≠K+291; lia
 ·show K+279+2 * j≠K+291; lia
 ·show K+279+2 * j≠K+280+2 * j; lia
structure QP where
 prog:Program
 P:Params
 l:Nat
 n:Nat
 xs:Array Value
 z:Int
 tz:Nat
noncomputable def qD (p:QP):List (Nat×Obj):= [(p.l,listO p.xs p.n)]
noncomputable def qC (p:QP):Code:=.call (.ref 257) ⟨[.ref p.l,.int p.z p.tz],[]⟩
noncomputable def tp1 (p:QP) (k x1:Nat) (px:PX) (s:St):TP1:=
 {prog:=p.prog,P:=p.P,it:=aOf s 12,l:=p.l,i:=0,n:=p.n,xs:=p.xs,cf:=aOf s 14,hs:=hsOf (dOf s 14),ts:=tsOf (dOf s 14),ep:=epOf (dOf s 14),acc:=aOf s 13,ys:= #[],m:=0,ct:=aOf s 4,ck:=aOf s 3,
  tl:=px.tl,zs:=px.zs,e0:=px.e0,kd:=k,tk:=x1,fr:=aOf s 1,a:=0,k:=⟨#[]⟩,tk0:=0,v:=⟨#[]⟩,tv:=0}
structure QX where
 xs:Array Value
 m:Nat
 kv:Option Value
 hs:Nat→Int
 ts:Nat→Nat
 ep:Nat
noncomputable instance QX.rx:Rx QX:=⟨fun k=>.all fun x:QX=>.and (k {x with kv:=none}) (.all fun v=>k {x with kv:=some v}),fun h x=>match x with
 | ⟨y0,y1,none,y3,y4,y5⟩=>(h ⟨y0,y1,none,y3,y4,y5⟩).1
 | ⟨y0,y1,some v,y3,y4,y5⟩=>(h ⟨y0,y1,none,y3,y4,y5⟩).2 v⟩
noncomputable def h34 (b1:Bool):List Nat:= [0,7,7,7,0,7,0,7,0,9,9,9,0,9,0,10,10,0,10,0,10,10,9,10,10,10,0,10,0,10,10,9,10,10,10,0,10,0,10,10,9,10,10,12,4,4,5,5,3,1,1,0,1,0,13,0]++(match b1 with
 | true=> [1]
 | false=> [13,13,0,13,0,13,1])
noncomputable def hCm (c:Nat) (kv:Option Value) (l:List Nat):List Nat:=(match kv with
 | none=> [2,2,c]
 | some _=> [2,2,c,c,c])++l
noncomputable def qA (p:QP) (b1:Bool) (k j:Nat) (hs:List Nat) (P:PX→Nat→QX→Rs→Prop):Rs→Prop:=
 CTok (fun c=>modC p.z p.tz 3 (argT 1 c)) (fun x=>.ok (.ret (.int (Int.ofNat k) x))) 0 [0,0,1] fun x1 zz zz=>
 CSw (X:=PX) (fun zz=>patC) (fun zz=>True) (fun x=>.ok (.ret (.ref x.L))) [] (fun zz x=>patO x) (fun zz=> [2,1]) fun px=>
 CTok (fun c=>divC p.z p.tz 3 (argT 1 c)) (fun x=>.ok (.ret (.int (p.z.fdiv 4) x))) 0 [1] fun x2 zz zz=>
 CTok (fun c=>modC (p.z.fdiv 4) x2 5 (argT 1 c)) (fun x=>.ok (.ret (.int (Int.ofNat j) x))) 0 [6,6,6,1] fun x3 zz zz=>
 CRd (getC px.L j x3) [5] [(px.L,listO px.xs px.e)] (.ok (.ret (.ref px.a))) (h34 b1) fun R=>
 CSw (X:=QX) (fun s=>t1C (tp1 p k x1 px s)) (fun s=>pick [13,0,12,14,4,3] s.D=t1D6 (tp1 p k x1 px s) none∧pick [7] s.D= [(px.tl,listO px.zs px.e0)]∧some_ s [13,0,12,14,4,3,7]∧aOf s 0=p.l∧aOf s 7=px.tl)
  (fun zz=>.ok .next) (csN [12,13,14] 15) (fun s x=> [(aOf s 13,listO x.xs x.m),(aOf s 14,dicO (rowE x.kv) x.hs x.ts x.ep)]) (fun x=>hCm 14 x.kv hs) (fun x=>P px (aOf (stOf R) 13) x) R
noncomputable instance qA.rf {p:QP} {b1:Bool} {k j:Nat} {hs:List Nat} {P:PX→Nat→QX→Rs→Prop} {R:Rs} [∀ y1 y2 y3 y4,Rf (P y1 y2 y3 y4)]:Rf (qA p b1 k j hs P R):=by
 delta qA; infer_instance
noncomputable def q01 (p:QP) (b1:Bool) (k j:Nat):Rs→Prop:=qA p b1 k j [4,0,0,2] fun px acc x=>
 CEnd (.ok (.ret (.ref acc))) fun s=>keepD [false] s.D=qD p∧pick [12] s.D= [(acc,listO x.xs x.m)]
noncomputable instance q01.rf {p:QP} {b1:Bool} {k j:Nat} {R:Rs} :Rf (q01 p b1 k j R):=by
 delta q01; infer_instance
noncomputable def qCut (p:QP) (acc:Nat) (b:Bool) (hs:List Nat) (x:QX) (P:Rs→Prop):Rs→Prop:=
 CCut (X:=Unit) (fun s=>compareOp .Eq (.ref acc) (.ref p.l)) (fun s=>pick [12,0] s.D= [(acc,listO x.xs x.m),(p.l,listO p.xs p.n)]) (fun zz=>.bool b) same_ (fun zz=>hs) fun zz=>P
noncomputable instance qCut.rf {p:QP} {acc:Nat} {b:Bool} {hs:List Nat} {x:QX} {P:Rs→Prop} {R:Rs} [∀ y1,Rf (P y1)]:Rf (qCut p acc b hs x P R):=by
 delta qCut; infer_instance
noncomputable def q3f (p:QP) (b1:Bool) (j:Nat):Rs→Prop:=qA p b1 3 j [4,0,0,4,0,0,2,3] fun px acc x=>qCut p acc false [3] x<|CEnd (.ok (.ret (.ref p.l))) fun s=>keepD [false] s.D=qD p
noncomputable instance q3f.rf {p:QP} {b1:Bool} {j:Nat} {R:Rs} :Rf (q3f p b1 j R):=by
 delta q3f; infer_instance
noncomputable def q3t (p:QP) (b1:Bool) (j:Nat):Rs→Prop:=qA p b1 3 j [4,0,0,4,0,0,2,3] fun px acc x=>qCut p acc true [3,1,16,1,1] x fun R=>
 CSw (X:=Nat) (fun s=>.call (.builtin "list.__add__") ⟨[.ref p.l,.ref (aOf s 15)],[]⟩) (fun s=>pick [0,15] s.D= [(p.l,listO p.xs p.n),(aOf s 15,listO #[.ref (aOf s 14)] 0)]) (fun x=>.ok (.ret (.ref x))) [] (fun s x=> [(x,listO (p.xs.push (.ref (aOf s 14))) 0)]) (fun zz=> []) (fun x=>
  CEnd (.ok (.ret (.ref x))) fun s=>keepD [false] s.D=qD p∧pick [14,16] s.D= [(aOf s 14,tupO [.str sXAB (tokAt 0 (dOf s 14)),.str swq (tokAt 1 (dOf s 14))]),(x,listO (p.xs.push (.ref (aOf s 14))) 0)]) R
noncomputable instance q3t.rf {p:QP} {b1:Bool} {j:Nat} {R:Rs} :Rf (q3t p b1 j R):=by
 delta q3t; infer_instance
noncomputable def tokF (i:Nat) (o:Obj):Nat:=argT i (.call .none ⟨(fldOf o).toList,[]⟩)
structure QY where
 xs:Array Value
 m:Nat
 kv:Option Value
 hs:Nat→Int
 ts:Nat→Nat
 ep:Nat
 rows:List (Nat×Obj)
noncomputable instance QY.rx:Rx QY:=⟨fun k=>.all fun x:QY=>.and (k {x with kv:=none}) (.all fun v=>k {x with kv:=some v}),fun h x=>match x with
 | ⟨y0,y1,none,y3,y4,y5,y6⟩=>(h ⟨y0,y1,none,y3,y4,y5,y6⟩).1
 | ⟨y0,y1,some v,y3,y4,y5,y6⟩=>(h ⟨y0,y1,none,y3,y4,y5,y6⟩).2 v⟩
noncomputable def tq2 (p:QP) (nn:Nat) (px:PX) (s:St):TP2:=
 {prog:=p.prog,P:=p.P,it:=aOf s 15,l:=p.l,i:=0,left:=Int.ofNat nn,n:=p.n,xs:=p.xs,cf:=aOf s 17,hs:=hsOf (dOf s 17),ts:=tsOf (dOf s 17),ep:=epOf (dOf s 17),acc:=aOf s 16,ys:= #[],m:=0,ct:=aOf s 4,cr:=aOf s 2,
  tl:=px.tl,zs:=px.zs,e0:=px.e0,fr:=aOf s 1,a:=0,k:=⟨#[]⟩,tk0:=0,v:=⟨#[]⟩,tv:=0}
noncomputable def tq4 (p:QP) (x:QX) (s:St):TP4:=
 {prog:=p.prog,P:=p.P,it:=aOf s 17,fl:=aOf s 15,i:=0,fn:=x.m,zs:=x.xs,cf:=aOf s 19,hs:=hsOf (dOf s 19),ts:=tsOf (dOf s 19),ep:=epOf (dOf s 19),acc:=aOf s 18,ys:= #[],m:=0,cr:=aOf s 2,l:=p.l,n:=p.n,xs:=p.xs,
  fr:=aOf s 1,a:=0,k:=⟨#[]⟩,tk:=0,v:=⟨#[]⟩,tv:=0,kk:=0,tkk:=0}
noncomputable def hC2 (b1:Bool):List Nat:= [16,0]++(match b1 with
 | true=> [1]
 | false=> [16,16,0,16,0,16,1])
noncomputable def hC4 (b1:Bool):List Nat:= [2,2,16,16,0,16,0,18,0]++(match b1 with
 | true=> [1]
 | false=> [18,18,0,18,0,18,1])
noncomputable def hCa (kv:Option Value):List Nat:=(match kv with
 | none=> [19]
 | some _=> [19,19,19])++ [13,18,13,1]
noncomputable def q2 (p:QP) (b1:Bool) (j nn:Nat):Rs→Prop:=qA p b1 2 j [4,0,0,4,0,0,0,0,0,0,3,1] fun px acc x1=>
 CSw (X:=Nat) (fun zz=>lenC p.l) (fun s=>pick [0] s.D=qD p) (fun t=>.ok (.ret (.int (Int.ofNat nn) t))) [] (fun zz zz=> []) (fun zz=> [0,0,0,0,15,15,0,15,0,15,15,15,1]) fun tk=>
 CSw (X:=Nat) (fun s=>.call (.builtin "range.__iter__") ⟨[.ref (aOf s 14)],[]⟩) (fun s=>pick [14] s.D= [(aOf s 14,rangeO nn (tokF 0 (dOf s 14)) tk (tokF 2 (dOf s 14)))]) (fun x=>.ok (.ret (.ref x))) [] (fun zz x=> [(x,riO 0 (Int.ofNat nn))]) (fun zz=>hC2 b1) fun ri=>
 CSw (X:=QX) (fun s=>t2C (tq2 p nn px s)) (fun s=>pick [16,0,15,17,4,2] s.D=t2D6 (tq2 p nn px s) none∧pick [7] s.D= [(px.tl,listO px.zs px.e0)]∧some_ s [16,0,15,17,4,2,7]∧aOf s 0=p.l∧aOf s 7=px.tl)
  (fun zz=>.ok .next) (csN [15,16,17] 18) (fun s x=> [(aOf s 16,listO x.xs x.m),(aOf s 17,dicO (kE x.kv) x.hs x.ts x.ep)]) (fun x=>hCm 17 x.kv (hC4 b1)) fun x2=>
 CSw (X:=QY) (fun s=>t4C (tq4 p x2 s)) (fun s=>pick [18,15,17,19,2,0] s.D=t4D6 (tq4 p x2 s) none∧some_ s [18,15,17,19,2,0]∧aOf s 0=p.l)
  (fun zz=>.ok .next) (csN [17,18,19] 20) (fun s x=>(aOf s 18,listO x.xs x.m)::(aOf s 19,dicO (kE x.kv) x.hs x.ts x.ep)::x.rows) (fun x=>hCa x.kv) fun y=>
 CSw (X:=Nat) (fun s=>.call (.builtin "list.__add__") ⟨[.ref acc,.ref (aOf s 17)],[]⟩) (fun s=>pick [12,17] s.D= [(acc,listO x1.xs x1.m),(aOf s 17,listO y.xs y.m)]) (fun x=>.ok (.ret (.ref x))) [] (fun zz x=> [(x,listO (x1.xs++y.xs) 0)]) (fun zz=> []) fun x=>
 CEnd (.ok (.ret (.ref x))) fun s=>keepD [false] s.D=qD p∧dropN 19 s.D=apL y.rows [(x,listO (x1.xs++y.xs) 0)]
noncomputable instance q2.rf {p:QP} {b1:Bool} {j nn:Nat} {R:Rs} :Rf (q2 p b1 j nn R):=by
 delta q2; infer_instance
noncomputable def hQ1:List Nat:= [0,0,3,3,2,2,0,0,2,1]
noncomputable abbrev qRun (p:QP) (P:Params) (K t:Nat):Rs:=runC p.prog P 400 (qC p) hQ1 (qD p) K t
theorem q01_0 (p:QP) (j K t:Nat):(q01 p (itw p.P) 0 j) (qRun p p.P K t):=pset_two (X:=fun b1 zz P=>(q01 p b1 0 j) (qRun p P K t)) (P:=p.P) (by exact Rf.prove _ (by kernel_rfl))
theorem q01_1 (p:QP) (j K t:Nat):(q01 p (itw p.P) 1 j) (qRun p p.P K t):=pset_two (X:=fun b1 zz P=>(q01 p b1 1 j) (qRun p P K t)) (P:=p.P) (by exact Rf.prove _ (by kernel_rfl))
theorem q3f_0 (p:QP) (j K t:Nat):(q3f p (itw p.P) j) (qRun p p.P K t):=pset_two (X:=fun b1 zz P=>(q3f p b1 j) (qRun p P K t)) (P:=p.P) (by exact Rf.prove _ (by kernel_rfl))
theorem q3t_0 (p:QP) (j K t:Nat):(q3t p (itw p.P) j) (qRun p p.P K t):=pset_two (X:=fun b1 zz P=>(q3t p b1 j) (qRun p P K t)) (P:=p.P) (by exact Rf.prove _ (by kernel_rfl))
theorem q2_0 (p:QP) (j nn K t:Nat):(q2 p (itw p.P) j nn) (qRun p p.P K t):=pset_two (X:=fun b1 zz P=>(q2 p b1 j nn) (qRun p P K t)) (P:=p.P) (by exact Rf.prove _ (by kernel_rfl))
theorem q01_all (p:QP) {k:Nat} (hk:k<2) (j K t:Nat):q01 p (itw p.P) k j (qRun p p.P K t):=by
 exact lt2 (P:=fun k=>q01 p (itw p.P) k j (qRun p p.P K t)) hk (q01_0 p j K t) (q01_1 p j K t)
noncomputable def QPost (sh:Shared) (rows':List Row) (r:Result) (sh':Shared):Prop:=
 ∃ l' refs' n',r= .ok (.ret (.ref l'))∧277≤l'∧sh'.heap.get? l'=some (listO (refsA refs') n')∧RowsAt sh' refs' rows'∧Ext none_ sh sh'
theorem selR_all {f:Row→Bool} : ∀ {refs:List Nat} {rows:List Row},refs.length=rows.length→(selR f refs rows).length=refs.length→selR f refs rows=refs∧rows.filter f=rows
 | [],[],_,_=>⟨rfl,rfl⟩
 | [],_::_,h,_=>by cases h
 | _::_,[],h,_=>by cases h
 | a::l,r::rs,h,e=>by
  have h:l.length=rs.length:=by simpa using h
  have le:(selR f l rs).length≤l.length:=selR_sub.length_le
  unfold selR at e ⊢
  cases q:f r with
  | true=>
   rw [q] at e
   have e:(selR f l rs).length+1=l.length+1:=e
   refine x2 (selR_all (f:=f) h (by lia)) fun h1 h2=>?_
   exact ⟨by show a::selR f l rs=_; rw [h1],by rw [List.filter_cons_of_pos q,h2]⟩
  | false=>
   rw [q] at e
   have e:(selR f l rs).length=l.length+1:=e
   lia
theorem selR_len {f:Row→Bool} : ∀ {refs:List Nat} {rows:List Row},refs.length=rows.length→(selR f refs rows).length=(rows.filter f).length
 | [],[],_=>rfl
 | [],_::_,h=>by cases h
 | _::_,[],h=>by cases h
 | a::l,r::rs,h=>by
  have h:l.length=rs.length:=by simpa using h
  unfold selR
  cases q:f r with
  | true=>rw [List.filter_cons_of_pos q]; show _+1=_+1; rw [selR_len h]
  | false=>rw [List.filter_cons_of_neg (by simp [q])]; exact selR_len h
section
variable {w:World} {A:Around}
theorem eqAt_self (B:Around) (s:Shared) (a:Nat):PySem.SeqAt.EqAt B s (.ref a) (.ref a) true:=fun prog w E Q hq=>by
 unfold eqBool
 refine wpAny_holding ?_
 have e:(Value.ref a==Value.ref a)=true:=by simp
 rw [if_pos e]
 exact wpAny_bind (wpAny_rule (wpAny_pure hq))
theorem wp_eq_sub {prog:Program} {sh:Shared} {k:Nat} (Rm:Room k A) {a b:Nat} {refs:List Nat} {rows:List Row} {f:Row→Bool} {e e':Nat} (hlen:refs.length=rows.length) (ha:sh.heap.get? a=some (listO (refsA (selR f refs rows)) e)) (hb:sh.heap.get? b=some (listO (refsA refs) e')) {Q:Value→Shared→Prop} {E:Value→Shared→Prop}
  (h:Q (.bool ((rows.filter f).length==rows.length)) sh):wpAny (model prog w) A (compareOp .Eq (.ref a) (.ref b)) Q E sh:=by
 have hu:A.units<cLine:=by have:=Rm.units; lia
 have hl:=selR_len (f:=f) hlen
 by_cases q:(selR f refs rows).length=refs.length
 ·refine x2 (selR_all hlen q) fun h1 h2=>?_
  rw [h1] at ha
  refine PySem.SeqAt.eq_listAt (e:=fun zz=>true) (isList ha) (isList hb) rfl hu (fun j h1 h2=>?_) ?_
  ·have:((refs.map Value.ref).toArray)[j]= .ref (refs[j]'(by simpa using h1)):=by simp
   rw [this]
   exact eqAt_self _ _ _
  ·rw [h2] at h
   have e: ∀ l:List Nat,l.all (fun zz=>true)=true:=fun l=>by induction l<;>simp [*]
   rw [e]
   simpa using h
 ·refine PySem.SeqAt.eq_list_lengthsAt (isList ha) (isList hb) ?_ hu ?_
  ·simp; lia
  ·have:((rows.filter f).length==rows.length)=false:=by
    rw [←hl,←hlen]
    simpa using q
   rw [this] at h
   exact h
structure QOk (w:World) (sh:Shared) (p:QP) (refs:List Nat) (rows:List Row) (k j:Nat):Prop where
 hk:k<4
 hj:j<6
 hP:p.P=w.params
 z1:p.z.fmod (Int.ofNat (Nat.succ 3))=Int.ofNat k
 z2:(p.z.fdiv (Int.ofNat (Nat.succ 3))).fmod (Int.ofNat (Nat.succ 5))=Int.ofNat j
 l:sh.heap.get? p.l=some (listO p.xs p.n)
 lL:277≤p.l
 xs:p.xs=refsA refs
 rowsA:RowsAt sh refs rows
 ok: ∀ r∈rows,OkRow r
 len:refs.length≤20
theorem QOk.facts {sh:Shared} {p:QP} {refs:List Nat} {rows:List Row} {k j:Nat} (H:QOk w sh p refs rows k j):Facts 277 sh (qD p):=.of ⟨⟨H.l,H.lL⟩,trivial⟩ (by kernel_rfl)
theorem QOk.nt {sh:Shared} {p:QP} {refs:List Nat} {rows:List Row} {k j:Nat} (H:QOk w sh p refs rows k j):NoTup sh (inD (qD p)):=by
 rintro b (rfl | hb) xs h
 ·exact ne_of (o':=tupO xs) H.l h (by kernel_rfl) rfl
 ·exact hb
variable {Q:Result→Shared→Prop}
theorem qA_ok {sh:Shared} (Rm:Room 3 A) (T:Top w sh) {p:QP} {refs:List Nat} {rows:List Row} {k j:Nat} (H:QOk w sh p refs rows k j) {hs:List Nat} {b1:Bool} {P:PX→Nat→QX→Rs→Prop} {R:Rs} (q:qA p b1 k j hs P R)
  (h: ∀ px acc x R',x.xs=refsA (selR (leftF j k) refs rows)→IsStrs px.zs (takenL j)→277≤px.tl→P px acc x R'→Ok (sv p.prog w A Q sh.heap (inD (qD p)) sh.os sh.toks) R'):Ok (sv p.prog w A Q sh.heap (inD (qD p)) sh.os sh.toks) R:=by
 have hz:277≤sh.heap.objs.size:=T.l7
 refine CTok.ok q Rm T.size (fun c sh1 B T1 RB=>?_) fun x1 b1 t1 R' zz zz q=>?_
 ·refine codeAny_mono (mod_spec T1 RB p.z p.tz 3 _) fun r' sh' hq=>x0 hq fun t' h1 h2=>⟨t',?_,h2⟩
  rw [h1,H.z1]
 refine CSw.ok (fun x=>x.xs[j]? =some (.ref x.a)∧IsStrs x.zs (takenL j)∧277≤x.tl) q Rm T.size (fun s sh1 B zz S T1 RB=>?_) fun px R' hpx q=>?_
 ·refine codeAny_mono (pat_spec T1 RB H.hj) fun r' sh' hq=>x56 hq fun x h1 h2 h3 h4 h5 n1 n2 n3=>?_
  have l7:277≤sh1.heap.objs.size:=T1.l7
  refine x7 h5 fun o1 l1 o2 l2 o3 l3 zz=>?_; clear h5
  refine ⟨x,h1,⟨h2,h3,Nat.le_trans l7 l3⟩,h4.weak fun b hb=>hb.elim,.cons o1 (Nat.le_trans l7 l1) (ne_cons n1 (ne_cons n2 ne_nil)) (.cons o2 (Nat.le_trans l7 l2) (ne_cons n3 ne_nil) (.cons o3 (Nat.le_trans l7 l3) ne_nil .nil)),fun y hy=>.inl ?_⟩
  rcases List.mem_cons.mp hy with rfl | hy
  ·exact l1
  ·rcases List.mem_cons.mp hy with rfl | hy
   ·exact l2
   ·rcases List.mem_cons.mp hy with rfl | hy
    ·exact l3
    ·cases hy
 refine x4 hpx fun hp1 hp2 hp3=>?_; clear hpx
 refine CTok.ok q Rm T.size (fun c sh1 B T1 RB=>?_) fun x2 b3 t4 R' zz zz q=>?_
 ·exact codeAny_mono (div_spec T1 RB p.z p.tz 3 _ (.inl rfl)) fun r' sh' hq=>x0 hq fun t' h1 h2=>⟨t',h1,h2⟩
 refine CTok.ok q Rm T.size (fun c sh1 B T1 RB=>?_) fun x3 b4 t5 R' zz zz q=>?_
 ·refine codeAny_mono (mod_spec T1 RB (p.z.fdiv 4) x2 5 _) fun r' sh' hq=>x0 hq fun t' h1 h2=>⟨t',?_,h2⟩
  rw [h1]
  have:=H.z2
  show Except.ok (Flow.ret (Value.int ((p.z.fdiv (Int.ofNat (Nat.succ 3))).fmod (Int.ofNat (Nat.succ 5))) t'))=_
  rw [this]
 refine CRd.ok q Rm T.size (fun sh1 B O T1 RB=>getitem_spec x3 T1.gens T1.toks O.1.1 (by have:=H.hj; lia) hp1) fun R' q=>?_
 refine CSw.ok (fun x=>x.xs=refsA (selR (leftF j k) refs rows)) q Rm T.size (fun s sh1 B pre S T1 RB=>?_) fun x R'' hx q=>h px _ x R'' hx hp2 hp3 q
 refine x33 pre fun p1 p2 g13 g0 g12 g14 g4 g3 g7 zz e0 e7=>?_; clear pre
 have X:=S.ext (sh₀:=sh) rfl rfl
 have O:=S.all rfl rfl hz H.facts p1
 have O2:=S.all rfl rfl hz H.facts p2
 obtain ⟨⟨otl,ltl⟩,_⟩:=O2
 let tp:=tp1 p k x1 px s
 have n1:tp.l≠tp.acc:=by
  show p.l≠aOf s 13
  rw [←e0]; exact apart_of S g0 g13 rfl
 have nc:tp.ct≠tp.ck:=apart_of S g4 g3 rfl
 have tl:TlAt sh1 tp j:=⟨hp2,otl,ltl,by
  show px.tl≠p.l
  rw [←e0,←e7]; exact apart_of S g7 g0 rfl,by
  show px.tl≠aOf s 13
  rw [←e7]; exact apart_of S g7 g13 rfl⟩
 have ch: ∀ i,[12,13,14].contains i=true→i<15→(getD s.D i).isSome=true→chA (csN [12,13,14] 15) s.D (aOf s i):=fun i h1 h2 h3=>chA_at h3 (csN_at h2 h1)
 refine codeAny_mono (to1_loop (prog:=p.prog) (RB.mono (by decide)) refs rows T1 tp H.hP rfl H.hk none O n1 nc tl ?_ (H.rowsA.ext X H.nt) H.ok (by have:=H.len; show 0+_≤100; lia)) fun r' sh' hq=>?_
 ·intro i
  show p.xs[0+i]? =_
  rw [H.xs]
  simp [refsA]
 ·refine x57 hq fun h1 h2 m' e' hs' ts' ep' h3 h3' h4 h4' zz=>?_; clear hq
  refine ⟨⟨_,m',e',hs',ts',ep'⟩,h1,Array.empty_append,h2.weak fun b hb=>?_,.of ⟨⟨h3,h3'⟩,⟨h4,h4'⟩,trivial⟩ (by kernel_rfl),fun y hy=>.inr ?_⟩
  ·rcases hb with rfl | rfl | rfl
   ·exact ch 13 (by simp) (by lia) g13
   ·exact ch 12 (by simp) (by lia) g12
   ·exact ch 14 (by simp) (by lia) g14
  ·rcases List.mem_cons.mp hy with rfl | hy
   ·exact ch 13 (by simp) (by lia) g13
   ·rcases List.mem_cons.mp hy with rfl | hy
    ·exact ch 14 (by simp) (by lia) g14
    ·cases hy
end
section
variable {prog:Program} {w:World} {A:Around}
theorem add_spec {sh:Shared} {l b n n2:Nat} {xs ys:Array Value} (hg:sh.gens= #[]) (ht:849≤sh.toks) (hl:sh.heap.get? l=some (listO xs n)) (hb:sh.heap.get? b=some (listO ys n2)) (hs:xs.size+ys.size≤1000):
  codeAny (model prog w) A (.call (.builtin "list.__add__") ⟨[.ref l,.ref b],[]⟩) (fun r sh'=>r= .ok (.ret (.ref sh.heap.objs.size))∧Ext none_ sh sh'∧sh'.heap.get? sh.heap.objs.size=some (listO (xs++ys) 0)) sh:=by
 refine code_slot F.slot_list_add ⟨_,hl,rfl⟩ F.entry_list_add (F.args_list_add_2 _ _) (PyProof.Rows.list_addW l b xs ys n n2 none none #[] #[] (by rw [sizeLine_eq]; lia) prog w A (fun r sh'=>r= .ok (.ret (.ref sh.heap.objs.size))∧Ext none_ sh sh'∧sh'.heap.get? sh.heap.objs.size=some (listO (xs++ys) 0)) sh ⟨hl,hb,rfl,?_,?_⟩)
 ·exact push_ext hg ht
 ·exact Heap.get?_push_size _ rfl
end
section
variable {w:World} {A:Around}
theorem told01 {sh:Shared} (Rm:Room 3 A) (T:Top w sh) {p:QP} {refs:List Nat} {rows:List Row} {k j:Nat} (H:QOk w sh p refs rows k j) (hk:k<2):
  codeAny (model p.prog w) A (qC p) (QPost sh (rows.filter (leftF j k))) sh:=by
 have hz:277≤sh.heap.objs.size:=T.l7
 refine walk_code T Rm rfl H.facts 400 hQ1 fun K t hK=>?_
 have q:=q01_all p hk j K t
 rw [H.hP] at q
 revert q
 show q01 p (itw w.params) k j (runC p.prog w.params 400 (qC p) hQ1 (qD p) K t)→_
 generalize runC p.prog w.params 400 (qC p) hQ1 (qD p) K t=R
 intro q
 refine qA_ok Rm T H q fun px acc x R' hx zz zz q=>?_
 refine CEnd.ok q fun sh' q S=>?_
 refine x2 q fun q1 q2=>?_; clear q
 refine x3 (S.all rfl rfl hz H.facts q2) fun o1 l1 zz=>?_
 have X:Ext none_ sh sh':=(S.only (sh:=sh) (cs:= [false]) rfl rfl rfl H.facts q1).weak fun b h=>h
 rw [hx] at o1
 exact ⟨acc,_,_,rfl,l1,o1,selR_rows (H.rowsA.ext0 X),X⟩
theorem told3f {sh:Shared} (Rm:Room 3 A) (T:Top w sh) {p:QP} {refs:List Nat} {rows:List Row} {j:Nat} (H:QOk w sh p refs rows 3 j) (hl: ¬ ((rows.filter (leftF j 3)).length=rows.length)):
  codeAny (model p.prog w) A (qC p) (QPost sh (rows)) sh:=by
 have hz:277≤sh.heap.objs.size:=T.l7
 have lenr:=H.rowsA.length
 refine walk_code T Rm rfl H.facts 400 hQ1 fun K t hK=>?_
 have q:=q3f_0 p j K t
 rw [H.hP] at q
 revert q
 show q3f p (itw w.params) j (runC p.prog w.params 400 (qC p) hQ1 (qD p) K t)→_
 generalize runC p.prog w.params 400 (qC p) hQ1 (qD p) K t=R
 intro q
 refine qA_ok Rm T H q fun px acc x R' hx zz zz q=>?_
 refine CCut.ok (fun zz=>True) q Rm T.size (fun s sh1 B pre S T1 RB=>?_) fun zz R' zz q=>?_
 ·refine x6 (S.all0 pre) fun o1 zz o2 zz zz=>?_
  rw [hx] at o1
  rw [H.xs] at o2
  refine wp_eq_sub RB lenr o1 o2 ⟨(),?_,trivial,S.lg []⟩
  have:((rows.filter (leftF j 3)).length==rows.length)=false:=by simpa using hl
  rw [this]
 refine CEnd.ok q fun sh' q S=>?_
 have X:Ext none_ sh sh':=(S.only (sh:=sh) (cs:= [false]) rfl rfl rfl H.facts q).weak fun b h=>h
 have o:=X.keep _ _ H.l id
 rw [H.xs] at o
 exact ⟨p.l,refs,_,rfl,H.lL,o,H.rowsA.ext0 X,X⟩
theorem told3t {sh:Shared} (Rm:Room 3 A) (T:Top w sh) {p:QP} {refs:List Nat} {rows:List Row} {j:Nat} (H:QOk w sh p refs rows 3 j) (hl:(rows.filter (leftF j 3)).length=rows.length):
  codeAny (model p.prog w) A (qC p) (QPost sh (rows++ [(sXAB,swq)])) sh:=by
 have hz:277≤sh.heap.objs.size:=T.l7
 have lenr:=H.rowsA.length
 refine walk_code T Rm rfl H.facts 400 hQ1 fun K t hK=>?_
 have q:=q3t_0 p j K t
 rw [H.hP] at q
 revert q
 show q3t p (itw w.params) j (runC p.prog w.params 400 (qC p) hQ1 (qD p) K t)→_
 generalize runC p.prog w.params 400 (qC p) hQ1 (qD p) K t=R
 intro q
 refine qA_ok Rm T H q fun px acc x R' hx zz zz q=>?_
 refine CCut.ok (fun zz=>True) q Rm T.size (fun s sh1 B pre S T1 RB=>?_) fun zz R' zz q=>?_
 ·refine x6 (S.all0 pre) fun o1 zz o2 zz zz=>?_
  rw [hx] at o1
  rw [H.xs] at o2
  refine wp_eq_sub RB lenr o1 o2 ⟨(),?_,trivial,S.lg []⟩
  rw [hl]
  simp
 refine CSw.ok (fun x=>277≤x) q Rm T.size (fun s sh1 B pre S T1 RB=>?_) fun a R'' ha q=>?_
 ·refine x6 (S.all0 pre) fun o1 zz o2 zz zz=>?_
  have hlen:p.xs.size=refs.length:=by rw [H.xs]; simp [refsA]
  refine codeAny_mono (add_spec S.gens T1.toks o1 o2 (by have:=H.len; rw [hlen]; simp; lia)) fun r' sh' hq=>x4 hq fun h1 h2 h3=>?_
  have l7:277≤sh1.heap.objs.size:=T1.l7
  refine ⟨_,h1,l7,h2.weak fun b hb=>hb.elim,.of ⟨⟨?_,l7⟩,trivial⟩ (by kernel_rfl),fun y hy=>.inl ?_⟩
  ·refine h3.trans ?_
   simp
  ·rcases List.mem_cons.mp hy with rfl | hy
   ·exact Nat.le_refl _
   ·cases hy
 refine CEnd.ok q fun sh' q S=>?_
 refine x2 q fun q1 q2=>?_; clear q
 refine x6 (S.all rfl rfl hz H.facts q2) fun o1 l1 o2 l2 zz=>?_
 have X:Ext none_ sh sh':=(S.only (sh:=sh) (cs:= [false]) rfl rfl rfl H.facts q1).weak fun b h=>h
 have o2':sh'.heap.get? a=some (listO (refsA (refs++ [aOf (stOf R'') 14])) 0):=by
  refine o2.trans ?_
  rw [H.xs]
  simp [refsA]
 have rw1:RowAt sh' (aOf (stOf R'') 14) (sXAB,swq):=⟨l1,_,_,o1⟩
 have rw2:RowsAt sh' (refs++ [aOf (stOf R'') 14]) (rows++ [(sXAB,swq)]):=(H.rowsA.ext0 X).app (.cons rw1 .nil)
 exact ⟨a,refs++ [aOf (stOf R'') 14],0,rfl,l2,o2',rw2,X⟩
theorem told2 {sh:Shared} (Rm:Room 3 A) (T:Top w sh) {p:QP} {refs:List Nat} {rows:List Row} {j:Nat} (H:QOk w sh p refs rows 2 j) (hn:rows.length≤15):
  codeAny (model p.prog w) A (qC p) (QPost sh (rows.filter (leftF j 2)++(firstsL j rows rows.length).map (newRow rows))) sh:=by
 have hz:277≤sh.heap.objs.size:=T.l7
 have lenr:=H.rowsA.length
 have xsz:p.xs.size=rows.length:=by rw [H.xs]; simp [refsA,lenr]
 refine walk_code T Rm rfl H.facts 400 hQ1 fun K t hK=>?_
 have q:=q2_0 p j rows.length K t
 rw [H.hP] at q
 revert q
 show q2 p (itw w.params) j rows.length (runC p.prog w.params 400 (qC p) hQ1 (qD p) K t)→_
 generalize runC p.prog w.params 400 (qC p) hQ1 (qD p) K t=R
 intro q
 refine qA_ok Rm T H q fun px acc x1 R' hx1 hzs htl q=>?_
 refine CSw.ok (fun zz=>True) q Rm T.size (fun s sh1 B pre S T1 RB=>?_) fun tk R' zz q=>?_
 ·refine x3 (S.all rfl rfl hz H.facts pre) fun o1 l1 zz=>?_
  have z:=len_spec (prog:=p.prog) T1 RB o1 l1 (by lia)
  rw [xsz] at z
  exact codeAny_mono z fun r' sh' hq=>x0 hq fun t h1 h2=>⟨t,h1,trivial,h2,.nil,fun y hy=>by cases hy⟩
 refine CSw.ok (fun x=>277≤x) q Rm T.size (fun s sh1 B pre S T1 RB=>?_) fun ri R' zz q=>?_
 ·refine x3 (S.all0 pre) fun o1 zz zz=>?_
  have l7:277≤sh1.heap.objs.size:=T1.l7
  refine codeAny_mono (riter_spec T1.gens T1.toks o1 (by lia)) fun r' sh' hq=>x4 hq fun h1 h2 h3=>?_
  refine ⟨_,h1,l7,h2.weak fun b hb=>hb.elim,.cons h3 l7 ne_nil .nil,fun y hy=>.inl ?_⟩
  rcases List.mem_cons.mp hy with rfl | hy
  ·exact Nat.le_refl _
  ·cases hy
 refine CSw.ok (fun x=>IsInts x.xs (firstsL j rows rows.length)) q Rm T.size (fun s sh1 B pre S T1 RB=>?_) fun x2 R' hx2 q=>?_
 ·refine x33 pre fun p1 p2 g16 g0 g15 g17 g4 g2 g7 zz e0 e7=>?_; clear pre
  have X:=S.ext (sh₀:=sh) rfl rfl
  have O:=S.all rfl rfl hz H.facts p1
  refine x3 (S.all rfl rfl hz H.facts p2) fun otl ltl zz=>?_
  have ch: ∀ i,[15,16,17].contains i=true→i<18→(getD s.D i).isSome=true→chA (csN [15,16,17] 18) s.D (aOf s i):=fun i h1 h2 h3=>chA_at h3 (csN_at h2 h1)
  have n1:p.l≠aOf s 16:=by rw [←e0]; exact apart_of S g0 g16 rfl
  have nc:aOf s 2≠aOf s 4:=apart_of S g2 g4 rfl
  have n2:px.tl≠p.l:=by rw [←e0,←e7]; exact apart_of S g7 g0 rfl
  have n3:px.tl≠aOf s 16:=by rw [←e7]; exact apart_of S g7 g16 rfl
  refine codeAny_mono (to2_loop (prog:=p.prog) RB (refs:=refs) (rows:=rows) (p:=tq2 p rows.length px s) (j:=j) H.hP rfl H.xs (H.rowsA.ext X H.nt) H.ok (by lia) T1 rfl rfl rfl O n1 nc otl ltl n2 n3 hzs) fun r' sh' hq=>?_
  refine x31 hq fun h1 h2 ys m e hs ts ep h3 h4 h5=>?_; clear hq
  refine ⟨⟨ys,m,e,hs,ts,ep⟩,h1,h3,h2.weak fun b hb=>?_,.of ⟨⟨h4,O.1.2⟩,⟨h5,O.2.2.2.1.2⟩,trivial⟩ (by kernel_rfl),fun y hy=>.inr ?_⟩
  ·rcases hb with rfl | rfl | rfl
   ·exact ch 16 (by simp) (by lia) g16
   ·exact ch 15 (by simp) (by lia) g15
   ·exact ch 17 (by simp) (by lia) g17
  ·rcases List.mem_cons.mp hy with rfl | hy
   ·exact ch 16 (by simp) (by lia) g16
   ·rcases List.mem_cons.mp hy with rfl | hy
    ·exact ch 17 (by simp) (by lia) g17
    ·cases hy
 refine CSw.ok (fun x=>∃ news:List Nat,x.xs=refsA news∧RowsIn sh x.rows news ((firstsL j rows rows.length).map (newRow rows))) q Rm T.size (fun s sh1 B pre S T1 RB=>?_) fun y R' hy q=>?_
 ·refine x58 pre fun p1 g18 g15 g17 g19 g2 g0 zz e0=>?_; clear pre
  have X:=S.ext (sh₀:=sh) rfl rfl
  have O:=S.all rfl rfl hz H.facts p1
  have ch: ∀ i,[17,18,19].contains i=true→i<20→(getD s.D i).isSome=true→chA (csN [17,18,19] 20) s.D (aOf s i):=fun i h1 h2 h3=>chA_at h3 (csN_at h2 h1)
  have n1:aOf s 15≠aOf s 18:=apart_of S g15 g18 rfl
  have n2:p.l≠aOf s 15:=by rw [←e0]; exact apart_of S g0 g15 rfl
  have n3:p.l≠aOf s 18:=by rw [←e0]; exact apart_of S g0 g18 rfl
  refine codeAny_mono (to4_loop (prog:=p.prog) (RB.mono (by decide)) (refs:=refs) (rows:=rows) (p:=tq4 p x2 s) H.hP rfl H.xs (H.rowsA.ext X H.nt) hx2 (firstsL_lt j rows rows.length) (by lia) (by have:=firstsL_len j rows rows.length; lia) T1 rfl rfl O n1 n2 n3) fun r' sh' hq=>?_
  refine x30 hq fun h1 h2 news m e hs ts ep h3 hnd hnew h4 h5=>?_; clear hq
  refine x5 (tps_of h3) fun tt er ew ot=>?_
  have F2:Facts 277 sh' (apL [(aOf s 18,listO (refsA news) m),(aOf s 19,dicO (kE e) hs ts ep)] (tupL tt)):=
   facts_ahead (facts_tupL ot (by rw [←er]; exact hnd)) (.of ⟨⟨h4,O.1.2⟩,⟨h5,O.2.2.2.1.2⟩,trivial⟩ (by kernel_rfl)) (by kernel_rfl)
  refine ⟨⟨refsA news,m,e,hs,ts,ep,tupL tt⟩,h1,⟨news,rfl,?_⟩,h2.weak fun b hb=>?_,F2,fun y hy=>?_⟩
  ·rw [er,ew]
   have: ∀ (l:List Tp) (new:List (Nat×Obj)),(∀ x∈tupL l,x∈new)→OwnAll 277 sh' (tupL l)→RowsIn sh new (l.map (·.a)) (l.map fun t=>(t.k,t.v)):=by
    intro l
    induction l with
    | nil=>intro _ _ _; exact .nil
    | cons t l ih=>
     intro new hs O
     exact .new O.1.2 (hs _ List.mem_cons_self) (ih new (fun x hx=>hs x (List.mem_cons_of_mem _ hx)) O.2)
   exact this tt _ (fun x h=>h) ot
  ·rcases hb with rfl | rfl | rfl
   ·exact ch 18 (by simp) (by lia) g18
   ·exact ch 17 (by simp) (by lia) g17
   ·exact ch 19 (by simp) (by lia) g19
  ·rcases List.mem_cons.mp hy with rfl | hy
   ·exact .inr (ch 18 (by simp) (by lia) g18)
   ·rcases List.mem_cons.mp hy with rfl | hy
    ·exact .inr (ch 19 (by simp) (by lia) g19)
    ·refine x0 (tupL_mem hy) fun t ht hr1=>?_; subst hr1
     exact .inl (hnew t.a (by rw [er]; exact List.mem_map_of_mem ht))
 refine x0 hy fun news hny hrin=>?_; clear hy
 refine CSw.ok (fun x=>277≤x) q Rm T.size (fun s sh1 B pre S T1 RB=>?_) fun a R'' ha q=>?_
 ·refine x6 (S.all0 pre) fun o1 zz o2 zz zz=>?_
  have l7:277≤sh1.heap.objs.size:=T1.l7
  have e1:x1.xs.size≤100:=by
   rw [hx1]
   have:(selR (leftF j 2) refs rows).length≤refs.length:=selR_sub.length_le
   simp [refsA]; lia
  have e2:y.xs.size≤100:=by
   rw [hny]
   have: ∀ {a:List (Nat×Obj)} {l:List Nat} {b:List Row},RowsIn sh a l b→l.length=b.length:=by
    intro a l b h
    induction h with
    | nil=>rfl
    | old _ _ ih=>simp [ih]
    | new _ _ _ ih=>simp [ih]
   have e:=this hrin
   rw [List.length_map] at e
   have:=firstsL_len j rows rows.length
   simp [refsA]; lia
  refine codeAny_mono (add_spec S.gens T1.toks o1 o2 (by lia)) fun r' sh' hq=>x4 hq fun h1 h2 h3=>?_
  refine ⟨_,h1,l7,h2.weak fun b hb=>hb.elim,.of ⟨⟨h3,l7⟩,trivial⟩ (by kernel_rfl),fun y hy=>.inl ?_⟩
  rcases List.mem_cons.mp hy with rfl | hy
  ·exact Nat.le_refl _
  ·cases hy
 refine CEnd.ok q fun sh' q S=>?_
 obtain ⟨q1,q2⟩:=q
 have X:Ext none_ sh sh':=(S.only (sh:=sh) (cs:= [false]) rfl rfl rfl H.facts q1).weak fun b h=>h
 have own: ∀ x∈apL y.rows [(a,listO (x1.xs++y.xs) 0)],sh'.heap.get? x.1=some x.2:=fun x hx=>by
  rw [←q2] at hx
  obtain ⟨i,hi⟩:=dropN_sub hx
  exact S.own i x hi
 rw [apL_eq] at own
 have oa:=own (a,listO (x1.xs++y.xs) 0) (by simp)
 have hall:RowsAt sh' (selR (leftF j 2) refs rows++news) (rows.filter (leftF j 2)++(firstsL j rows rows.length).map (newRow rows)):=
  (selR_rows (H.rowsA.ext0 X)).app (hrin.at X (fun b h=>h.elim) fun x hx=>own x (List.mem_append_left _ hx))
 refine ⟨a,selR (leftF j 2) refs rows++news,0,rfl,ha,?_,hall,X⟩
 refine oa.trans ?_
 rw [hx1,hny]
 simp [refsA]
noncomputable def toldR (j k:Nat) (rows:List Row):List Row:=
 if k<2 then rows.filter (leftF j k) else if k=3 then (if (rows.filter (leftF j 3)).length=rows.length then rows++ [(sXAB,swq)] else rows)
 else rows.filter (leftF j 2)++(firstsL j rows rows.length).map (newRow rows)
theorem told_spec {prog:Program} {sh:Shared} (Rm:Room 3 A) (T:Top w sh) {l n:Nat} {refs:List Nat} {rows:List Row} (hl:sh.heap.get? l=some (listO (refsA refs) n)) (hL:277≤l) (hr:RowsAt sh refs rows) (ok: ∀ r∈rows,OkRow r) (len:rows.length≤15)
  {k j:Nat} (hk:k<4) (hj:j<6) {z:Int} (z1:z.fmod (Int.ofNat (Nat.succ 3))=Int.ofNat k) (z2:(z.fdiv (Int.ofNat (Nat.succ 3))).fmod (Int.ofNat (Nat.succ 5))=Int.ofNat j) (tz:Nat):
  codeAny (model prog w) A (.call (.ref 257) ⟨[.ref l,.int z tz],[]⟩) (QPost sh (toldR j k rows)) sh:=by
 let p:QP:=⟨prog,w.params,l,n,refsA refs,z,tz⟩
 have O:QOk w sh p refs rows k j:=⟨hk,hj,rfl,z1,z2,hl,hL,rfl,hr,ok,by have:=hr.length; lia⟩
 unfold toldR
 by_cases k2:k<2
 ·rw [if_pos k2]
  exact told01 Rm T O k2
 ·rw [if_neg k2]
  by_cases k3:k=3
  ·rw [if_pos k3]
   subst k3
   by_cases h:(rows.filter (leftF j 3)).length=rows.length
   ·rw [if_pos h]; exact told3t Rm T O h
   ·rw [if_neg h]; exact told3f Rm T O h
  ·rw [if_neg k3]
   have:k=2:=by lia
   subst this
   exact told2 Rm T O len
end
end Mine
namespace Mine
open PySem PySem.W PySem.W.X PyProof.Rows PySem.Calls
section
variable {prog:Program} {w:World} {A:Around} {sh:Shared} {E:Value→Shared→Prop}
theorem isInts_of {n:Nat} {acc:Array Value} (h:ItemsOf (fun i v=>∃ t,v= .int (0+(i:Int) * 1) t) acc n):IsInts acc (List.range n):=by
 let tk:Value→Nat:=fun v=>match v with
  | .int _ t=>t
  | _=>0
 refine ⟨(List.range n).map fun i=>(i,tk (acc.getD i .none)),?_,?_⟩
 ·refine Array.ext' (List.ext_getElem? fun i=>?_)
  rw [List.map_map]
  by_cases hi:i<n
  ·have hs:i<acc.size:=by rw [h.1]; exact hi
   refine x1 (h.2 i acc[i] (by simp [hs])) fun t ht=>?_
   have e1:acc.toList[i]? =some acc[i]:=by simp [hs]
   have e2:acc.getD i Value.none=acc[i]:=by simp [Array.getD,hs]
   rw [e1]
   simp only [List.getElem?_map,List.getElem?_range hi,Option.map_some,Function.comp]
   rw [e2,ht]
   simp [tk]
  ·have e1:acc.toList[i]? =none:=by simp [h.1]; lia
   have e2:(List.range n)[i]? =none:=by rw [List.getElem?_eq_none]; simp; lia
   rw [e1]
   simp only [List.getElem?_map,e2,Option.map_none]
 ·rw [List.map_map]
  exact List.map_id _
noncomputable def ColRel (sh:Shared) (n:Nat) (r:Result) (s':Shared):Prop:=∃ acc c h' tk,r= .ok (.ret (.ref sh.heap.objs.size))∧s'= {sh with heap:=h',toks:=tk} ∧(∀ b o,sh.heap.get? b=some o→h'.get? b=some o)∧h'.get? sh.heap.objs.size=some (seqObj "list" acc c)∧IsInts acc (List.range n)
theorem col_range {r n t u v:Nat} {Q:List Value→Shared→Prop} (hg:sh.gens= #[]) (ht:849≤sh.toks) (hh:A.handled=none) (hr:sh.heap.get? r=some (rangeO n t u v)) (hn:n≤100) (h: ∀ vs s',IsInts vs.toArray (List.range n)→Ext none_ sh s'→Q vs s'):
  wpAny (model prog w) A (collect (.ref r)) Q E sh:=by
 unfold collect
 refine wpAny_bind (wpAny_runValue (codeAny_mono (codeAny_grow (R:=ColRel sh n) ?_) fun r s' hq=>?_))
 ·refine codeAny_builtin F.entry_proto_collect ?_
  rw [Around.under_plainId F.plain_proto_collect _]
  show wpAny _ A.in1 (newList []>>=fun l=>again (.builtin "list.__iadd__" ⟨[l,.ref r],[]⟩)) _ _ sh
  refine wpAny_bind (wpAny_newList ?_)
  refine wpAny_pure ⟨plainId_quiet F.plain_list_iadd _,codeAny_builtin F.entry_list_iadd ?_⟩
  rw [Around.under_plainId F.plain_list_iadd _]
  have hr':IsRange (sh.heap.push (seqObj "list" ([]:List Value).toArray 0)) r (Int.ofNat 0) (Int.ofNat n) 1 t u v:=Heap.get?_push_of_some _ hr
  show wpAny _ A.in1 (Builtin.List.listExtendWith (.ref sh.heap.objs.size) (.ref r) (.ref sh.heap.objs.size)) _ _ {sh with heap:=sh.heap.push (seqObj "list" ([]:List Value).toArray 0)}
  have hS0:(sh.heap.push (seqObj "list" ([]:List Value).toArray 0)).get? sh.heap.objs.size=some (seqObj "list" #[] 0):=Heap.get?_push_size _ rfl
  refine wpAny_extend_range (prog:=prog) (w:=w) (R:=ColRel sh n) (A:=A) (s:= {sh with heap:=sh.heap.push (seqObj "list" ([]:List Value).toArray 0)}) (n:=n) hh hr' (range_small n hn) (range_size n hn) (by lia) sh.heap.objs.size _ 0 hS0 fun h' tk acc c' hk hS' hacc=>?_
  exact ⟨acc,c',h',tk,rfl,rfl,fun b o ho=>hk b o (fun e=>Nat.lt_irrefl _ (e▸Heap.lt_size ho)) (Heap.get?_push_of_some _ ho),hS',isInts_of hacc⟩
 ·refine x59 hq fun acc c h' tk hr1 hr2 hk hS hI g1 g2=>?_; clear hq; subst hr1; subst hr2
  show wpAny _ A (load sh.heap.objs.size>>=_) _ _ {sh with heap:=h',toks:=tk}
  refine wpAny_bind (wpAny_load hS ?_)
  exact wpAny_pure (h acc.toList _ (by simpa using hI) ⟨fun b o ho zz=>hk b o ho,hg,rfl,g2,Nat.le_trans ht g1,g1⟩)
end
end Mine
namespace Mine
open PySem PySem.W PySem.W.X
theorem neS_eq (a b:Str):neS a b= !(a==b):=by
 unfold neS
 rw [Bool.eq_iff_iff]
 simp only [bne_iff_ne,ne_eq,Bool.not_eq_true',beq_eq_false_iff_ne]
 constructor
 ·intro h e; exact h (by rw [e])
 ·intro h e
  refine h ?_
  obtain ⟨⟨x⟩⟩:=a
  obtain ⟨⟨y⟩⟩:=b
  have:x=y:=e
  rw [this]
noncomputable def hasN (l:List Str) (s:Str):Bool:=l.any fun y=>lowS y==lowS s
noncomputable def stepN (f:Str→Bool) (acc:List Str) (x:Str):List Str:=match f x with
 | true=>(match hasN acc x with
  | true=>acc
  | false=>acc++ [x])
 | false=>acc
theorem namesS_fold (f:Str→Bool): ∀ (l acc:List Str),namesS f l acc=l.foldl (stepN f) acc
 | [],acc=>rfl
 | x::l,acc=>by
  show namesS f (x::l) acc=l.foldl (stepN f) (stepN f acc x)
  unfold namesS stepN hasN
  cases f x with
  | false=>exact namesS_fold f l acc
  | true=>
   cases (acc.any fun y=>lowS y==lowS x) with
   | true=>exact namesS_fold f l acc
   | false=>exact namesS_fold f l _
theorem namesS_snoc (f:Str→Bool) (l:List Str) (x:Str):namesS f (l++ [x]) []=stepN f (namesS f l []) x:=by
 rw [namesS_fold,namesS_fold,List.foldl_append]; rfl
theorem names_has (g:Str→Bool) (l:List Str): ∀ s,g (lowS s)=true→hasN (namesS (fun x=>g (lowS x)) l []) s=hasN l s:=by
 suffices h: ∀ (l acc:List Str) s,g (lowS s)=true→hasN (l.foldl (stepN fun x=>g (lowS x)) acc) s=(hasN acc s || hasN l s) by
  intro s hs
  rw [namesS_fold,h l [] s hs]
  rfl
 intro l
 induction l with
 | nil=>intro acc s _; exact (Bool.or_false _).symm
 | cons x l ih=>
  intro acc s hs
  show hasN (l.foldl _ (stepN _ acc x)) s=(hasN acc s || (lowS x==lowS s || hasN l s))
  rw [ih _ s hs]
  rw [←Bool.or_assoc]
  congr 1
  show hasN (match g (lowS x) with
   | true=>(match hasN acc x with
    | true=>acc
    | false=>acc++ [x])
   | false=>acc) s=_
  cases q:g (lowS x) with
  | false=>
   have:(lowS x==lowS s)=false:=by
    rw [beq_eq_false_iff_ne]
    intro e
    rw [e,hs] at q
    cases q
   show hasN acc s=_
   rw [this,Bool.or_false]
  | true=>
   cases q2:hasN acc x with
   | false=>
    show (acc++ [x]).any _=_
    rw [List.any_append]
    show (hasN acc s || (lowS x==lowS s || false))=_
    rw [Bool.or_false]
   | true=>
    show hasN acc s=_
    cases q3:(lowS x==lowS s) with
    | false=>rw [Bool.or_false]
    | true=>
     have e:lowS x=lowS s:=by simpa using q3
     have:hasN acc s=true:=by
      unfold hasN at q2 ⊢
      rw [←e]; exact q2
     rw [this]; rfl
theorem names_f (f:Str→Bool) (l:List Str): ∀ x∈namesS f l [],f x=true:=by
 suffices h: ∀ (l acc:List Str),(∀ x∈acc,f x=true)→∀ x∈l.foldl (stepN f) acc,f x=true by
  rw [namesS_fold]; exact h l [] (fun x hx=>absurd hx List.not_mem_nil)
 intro l
 induction l with
 | nil=>intro acc h; exact h
 | cons y l ih=>
  intro acc h
  refine ih _ ?_
  unfold stepN
  cases q:f y with
  | false=>exact h
  | true=>
   cases hasN acc y with
   | true=>exact h
   | false=>
    intro x hx
    rcases List.mem_append.mp hx with hx | hx
    ·exact h x hx
    ·have:x=y:=by simpa using hx
     rw [this]; exact q
theorem names_apart (f:Str→Bool) (l:List Str):(namesS f l []).Pairwise (fun a b=>lowS a≠lowS b):=by
 suffices h: ∀ (l acc:List Str),acc.Pairwise (fun a b=>lowS a≠lowS b)→(l.foldl (stepN f) acc).Pairwise (fun a b=>lowS a≠lowS b) by
  rw [namesS_fold]; exact h l [] .nil
 intro l
 induction l with
 | nil=>intro acc h; exact h
 | cons y l ih=>
  intro acc h
  refine ih _ ?_
  unfold stepN
  cases q:f y with
  | false=>exact h
  | true=>
   cases q2:hasN acc y with
   | true=>exact h
   | false=>
    refine List.pairwise_append.mpr ⟨h,List.pairwise_singleton _ _,fun a ha b hb e=>?_⟩
    have hb:b=y:=by simpa using hb
    rw [hb] at e
    have:hasN acc y=true:=List.any_eq_true.mpr ⟨a,ha,by simpa using e⟩
    rw [q2] at this
    cases this
theorem rowDel_eq (nm:Str) (rows:List Row):rowDel nm rows=rows.filter fun r=> !(lowS r.1==lowS nm):=by
 unfold rowDel
 congr 1
 funext r
 exact neS_eq _ _
theorem del_fold: ∀ (names:List Str) (rows:List Row),names.foldl (fun rows x=>rowDel x rows) rows=rows.filter fun r=> !hasN names r.1
 | [],rows=>by
  exact (List.filter_eq_self.mpr fun zz zz=>rfl).symm
 | x::l,rows=>by
  show l.foldl _ (rowDel x rows)=_
  rw [del_fold l,rowDel_eq,List.filter_filter]
  congr 1
  funext r
  show (!hasN l r.1&& !(lowS r.1==lowS x))= !(lowS x==lowS r.1 || hasN l r.1)
  have:(lowS r.1==lowS x)=(lowS x==lowS r.1):=by rw [Bool.eq_iff_iff,beq_iff_eq,beq_iff_eq]; exact eq_comm
  rw [this]
  cases hasN l r.1<;>cases (lowS x==lowS r.1)<;>rfl
theorem set_fold: ∀ (names:List Str) (rows:List Row),names.Pairwise (fun a b=>lowS a≠lowS b)→names.foldl (fun rows x=>rowDel x rows++ [(x,sn)]) rows=(rows.filter fun r=> !hasN names r.1)++names.map fun x=>(x,sn)
 | [],rows,_=>by
  show rows=(rows.filter fun zz=>true)++ []
  rw [List.append_nil]
  exact (List.filter_eq_self.mpr fun zz zz=>rfl).symm
 | x::l,rows,h=>by
  refine x2 (List.pairwise_cons.mp h) fun h1 h2=>?_
  show l.foldl _ (rowDel x rows++ [(x,sn)])=_
  rw [set_fold l _ h2,List.filter_append,rowDel_eq,List.filter_filter]
  have e1:([(x,sn)]:List Row).filter (fun r=> !hasN l r.1)= [(x,sn)]:=by
   have:hasN l x=false:=by
    unfold hasN
    rw [List.any_eq_false]
    intro y hy e
    exact h1 y hy (by simpa using (beq_iff_eq.mp e).symm)
   rw [List.filter_cons_of_pos (by show (!hasN l x)=true; rw [this]; rfl)]
   rfl
  rw [e1,List.append_assoc]
  have e2:(fun r:Row=> !hasN l r.1&& !(lowS r.1==lowS x))=fun r=> !hasN (x::l) r.1:=by
   funext r
   show (!hasN l r.1&& !(lowS r.1==lowS x))= !(lowS x==lowS r.1 || hasN l r.1)
   have:(lowS r.1==lowS x)=(lowS x==lowS r.1):=by rw [Bool.eq_iff_iff,beq_iff_eq,beq_iff_eq]; exact eq_comm
   rw [this]
   cases hasN l r.1<;>cases (lowS x==lowS r.1)<;>rfl
  rw [e2]
  rfl
theorem hasN_map (rows:List Row) (s:Str):hasN (rows.map (·.1)) s=rows.any fun x=>lowS x.1==lowS s:=by
 unfold hasN; rw [List.any_map]; rfl
theorem firsts_names (j:Nat) (rows:List Row): ∀ i,i≤rows.length→((firstsL j rows i).map (newRow rows)).map (·.1)=namesS (takeF j 2) ((rows.take i).map (·.1)) []
 | 0,_=>rfl
 | i+1,h=>by
  have ih:=firsts_names j rows i (by lia)
  obtain ⟨r,hr⟩: ∃ r,rows[i]? =some r:=⟨rows[i]'(by lia),by simp⟩
  have e1:rows.take (i+1)=rows.take i++ [r]:=by rw [List.take_add_one,hr]; rfl
  rw [e1,List.map_append]
  show _=namesS (takeF j 2) ((rows.take i).map (·.1)++ [r.1]) []
  rw [namesS_snoc,←ih]
  show ((firstsL j rows i++(if firstB j rows i=true then [i] else [])).map (newRow rows)).map (·.1)=_
  have hf:takeF j 2 r.1=takesB j (lowS r.1):=by
   show (takesB j (lowS r.1) != false)=_
   cases takesB j (lowS r.1)<;>rfl
  have hb:firstB j rows i=(takesB j (lowS r.1)&& !((rows.take i).any fun x=>lowS x.1==lowS r.1)):=by unfold firstB; rw [hr]
  unfold stepN
  rw [hf]
  cases q:takesB j (lowS r.1) with
  | false=>
   rw [hb,q]
   simp
  | true=>
   have hh:hasN (((firstsL j rows i).map (newRow rows)).map (·.1)) r.1=(rows.take i).any fun x=>lowS x.1==lowS r.1:=by
    rw [ih]
    have:(takeF j 2)=fun x=>(fun s=>takesB j s != false) (lowS x):=rfl
    rw [this,names_has (fun s=>takesB j s != false) _ r.1 (by show (takesB j (lowS r.1) != false)=true; rw [q]; rfl),hasN_map]
   rw [hh,hb,q]
   cases (rows.take i).any fun x=>lowS x.1==lowS r.1 with
   | true=>simp
   | false=>
    have hn:(newRow rows i).1=r.1:=by unfold newRow; rw [hr]
    simp [hn]
theorem newRow_sn (rows:List Row) (k:Nat):(newRow rows k).2=sn:=by unfold newRow; split<;>rfl
theorem ruled_told (j k:Nat) (hk:k<4) (rows:List Row):ruledR j k rows=toldR j k rows:=by
 have tk:takeF j k=fun x=>(fun s=>takesB j s != (k==1)) (lowS x):=rfl
 have hh: ∀ r∈rows,hasN (namesS (takeF j k) (rows.map (·.1)) []) r.1=takeF j k r.1:=by
  intro r hr
  cases q:takeF j k r.1 with
  | true=>
   rw [tk,names_has (fun s=>takesB j s != (k==1)) _ _ q,hasN_map]
   exact List.any_eq_true.mpr ⟨r,hr,by simp⟩
  | false=>
   unfold hasN
   rw [List.any_eq_false]
   intro y hy e
   have e:lowS y=lowS r.1:=by simpa using e
   have:=names_f _ _ y hy
   rw [tk] at this q
   simp only [e] at this
   exact absurd (q.symm.trans this) (by decide)
 have hl: ∀ r:Row,leftF j k r= !takeF j k r.1:=by
  intro r
  show (takesB j (lowS r.1)==(k==1))= !(takesB j (lowS r.1) != (k==1))
  cases takesB j (lowS r.1)<;>cases (k==1)<;>rfl
 have hfil:(rows.filter fun r=> !hasN (namesS (takeF j k) (rows.map (·.1)) []) r.1)=rows.filter (leftF j k):=by
  refine List.filter_congr fun r hr=>?_
  rw [hh r hr,hl r]
 unfold ruledR toldR
 by_cases k3:k<3
 ·rw [if_pos k3]
  by_cases k2:k<2
  ·rw [if_pos k2]
   have:(rowOp k)=fun rows x=>rowDel x rows:=by funext a b; unfold rowOp; rw [if_pos k2]
   rw [this,del_fold,hfil]
  ·rw [if_neg k2,if_neg (show ¬ (k=3) by lia)]
   have:k=2:=by lia
   subst this
   have:(rowOp 2)=fun rows x=>rowDel x rows++ [(x,sn)]:=by funext a b; rfl
   rw [this,set_fold _ _ (names_apart _ _),hfil]
   congr 1
   have e:=firsts_names j rows rows.length (Nat.le_refl _)
   rw [List.take_length] at e
   rw [←e,List.map_map]
   have:((fun x=>(x,sn)) ∘ fun x:Row=>x.1) ∘ newRow rows=newRow rows:=by
    funext i
    show ((newRow rows i).1,sn)=newRow rows i
    rw [←newRow_sn rows i]
   rw [List.map_map,this]
 ·have:k=3:=by lia
  subst this
  rw [if_neg k3,if_neg (show ¬ (3<2) by lia),if_pos (show (3=3) from rfl)]
  have hlen:(rows.filter (leftF j 3)).length=rows.length ↔ ¬ (rows.any (fun r=>takeF j 3 r.1)=true):=by
   rw [List.length_filter_eq_length_iff]
   constructor
   ·intro h h2
    refine x0 (List.any_eq_true.mp h2) fun r hr e=>?_
    have:=h r hr
    rw [hl r,e] at this
    cases this
   ·intro h r hr
    rw [hl r]
    cases q:takeF j 3 r.1 with
    | false=>rfl
    | true=>exact absurd (List.any_eq_true.mpr ⟨r,hr,q⟩) h
  by_cases h:rows.any (fun r=>takeF j 3 r.1)=true
  ·rw [if_pos h,if_neg (fun e=>hlen.mp e h)]
  ·rw [if_neg h,if_pos (hlen.mpr h)]
theorem Sat.rebase {V:Sv} {s:St} {sh:Shared} (S:Sat V s sh):Sat (V.re sh.heap (inD s.D) sh.os sh.toks) s sh:=
 ⟨S.size,S.toks,S.gens,rfl,S.kt,S.own,S.apart,S.ktno,fun zz zz e zz=>e,fun i x e=>.inl (inD_of e),by show sh.heap.objs.size≤s.b+s.m; rw [S.size]; exact Nat.le_refl _,S.t849,by show sh.toks≤s.tb+s.ti; rw [S.toks]; exact Nat.le_refl _⟩
theorem Ext.across {V:Sv} {s:St} {sh₀ sh sh':Shared} (S:Sat V s sh) (h0:V.h₀=sh₀.heap) (ho:V.os=sh₀.os) (X:Ext (inD s.D) sh sh') (ht:V.t₀=sh₀.toks:=by rfl):Ext V.mu sh₀ sh':=by
 have Y:=S.ext (sh₀:=sh₀) h0 ho ht
 refine ⟨fun b o hb hm=>X.keep b o (Y.keep b o hb hm) fun q=>?_,X.gens,X.os.trans Y.os,Nat.le_trans Y.size X.size,X.t849,Nat.le_trans Y.tk X.tk⟩
 refine x12 (inD_idx q) fun i x h1 h2=>?_
 rcases S.muD i x h1 with r | r
 ·exact hm (h2▸r)
 ·have:=Heap.lt_size hb
  rw [h0,h2] at r
  exact absurd this (Nat.not_lt.mpr r)
theorem apart1_at {o:Obj} : ∀ {D:List (Nat×Obj)},apart1 o D=true→∀ (i:Nat) (x:Nat×Obj),D[i]? =some x→kne o.cls x.2.cls=true
 | [],_,i,x,e=>by simp at e
 | y::l,h,i,x,e=>by
  unfold apart1 at h
  cases q:kne o.cls y.2.cls with
  | false=>rw [q] at h; cases h
  | true=>
   rw [q] at h
   cases i with
   | zero=>simp at e; subst e; exact q
   | succ i=>simp at e; exact apart1_at h i x e
section
variable {prog:Program} {w:World} {A:Around} {Q:Result→Shared→Prop} {h₀:Heap} {mu:Nat→Prop} {os:OsState} {t₀:Nat} {R:Rs} {k:Nat}
theorem CSw.okR {X:Type} {c:St→Code} {pre:St→Prop} {r:X→Result} {cs:List Bool} {D':St→X→List (Nat×Obj)} {hs:X→List Nat} {P:X→Rs→Prop} (T:St→Shared→X→Shared→Prop) (H:CSw c pre r cs D' hs P R) (Rm:Room (k+1) A) (h0:278≤h₀.objs.size)
  (spec: ∀ s sh B,pre s→Sat (sv prog w A Q h₀ mu os t₀) s sh→Top w sh→Room k B→codeAny (model prog w) B (c s) (PoS r (T s sh) (chA cs s.D) (D' s) sh) sh)
  (h: ∀ x s sh s' sh' R',pre s→Sat (sv prog w A Q h₀ mu os t₀) s sh→T s sh x sh'→Ext (chA cs s.D) sh sh'→Sat (sv prog w A Q h₀ mu os t₀) s' sh'→s'.D=apL (keepA cs s.D) (D' s x)→Top w sh'→P x R'→Ok (sv prog w A Q sh'.heap (inD s'.D) sh'.os sh'.toks) R'):Ok (sv prog w A Q h₀ mu os t₀) R:=by
 refine ok_stopR H.1 fun sh S B h1 h2 h3=>?_
 have T0:=topW w S rfl h0
 refine codeAny_mono (spec _ sh B H.2.1 S T0 (Rm.down h1 h2 h3)) fun r' sh' hq=>x16 hq fun x hr ht X N N2=>?_
 have hz:278≤sh'.heap.objs.size:=Nat.le_trans T0.size X.size
 have S':=Sat.swap0 (V:=sv prog w A Q h₀ mu os t₀) (fun zz zz e=>kt_low e) h0 S X N N2 (b:=sh'.heap.objs.size - 278+278) (t:=sh'.toks - 849+849) (Nat.sub_add_cancel hz).symm (Nat.sub_add_cancel X.t849).symm
 have q:=h x _ sh _ sh' _ H.2.1 S ht X S' rfl (topW w S' rfl h0) (H.2.2 x (sh'.heap.objs.size - 278) (sh'.toks - 849))
 subst hr
 exact ⟨_,_,_,_,hs x,_,S'.rebase,q⟩
end
noncomputable def kz (z:Int):Nat:=(z.fmod 4).toNat
noncomputable def jz (z:Int):Nat:=((z.fdiv 4).fmod 6).toNat
theorem kz_lt (z:Int):kz z<4:=by
 have h1:=Int.fmod_nonneg_of_pos z (b:=4) (by decide)
 have h2:=Int.fmod_lt_of_pos z (b:=4) (by decide)
 unfold kz; lia
theorem jz_lt (z:Int):jz z<6:=by
 have h1:=Int.fmod_nonneg_of_pos (z.fdiv 4) (b:=6) (by decide)
 have h2:=Int.fmod_lt_of_pos (z.fdiv 4) (b:=6) (by decide)
 unfold jz; lia
theorem kz_eq (z:Int):z.fmod (Int.ofNat (Nat.succ 3))=Int.ofNat (kz z):=by
 have h1:=Int.fmod_nonneg_of_pos z (b:=4) (by decide)
 show z.fmod 4=((z.fmod 4).toNat:Int)
 lia
theorem jz_eq (z:Int):(z.fdiv (Int.ofNat (Nat.succ 3))).fmod (Int.ofNat (Nat.succ 5))=Int.ofNat (jz z):=by
 have h1:=Int.fmod_nonneg_of_pos (z.fdiv 4) (b:=6) (by decide)
 show (z.fdiv 4).fmod 6=(((z.fdiv 4).fmod 6).toNat:Int)
 lia
noncomputable def stepZ (rows:List Row) (z:Int):List Row:=toldR (jz z) (kz z) rows
theorem stepZ_ruled (rows:List Row) (z:Int):ruledR (jz z) (kz z) rows=stepZ rows z:=ruled_told _ _ (kz_lt z) rows
theorem firsts_left (j:Nat) (rows:List Row): ∀ i,i≤rows.length→(firstsL j rows i).length+((rows.take i).filter (leftF j 2)).length≤i
 | 0,_=>by simp [firstsL]
 | i+1,h=>by
  have ih:=firsts_left j rows i (by lia)
  obtain ⟨r,hr⟩: ∃ r,rows[i]? =some r:=⟨rows[i]'(by lia),by simp⟩
  have e:rows.take (i+1)=rows.take i++ [r]:=by rw [List.take_add_one,hr]; rfl
  show (firstsL j rows i++_).length+_≤i+1
  rw [e,List.filter_append,List.length_append,List.length_append]
  have hb:firstB j rows i=true→leftF j 2 r=false:=by
   unfold firstB
   rw [hr]
   intro h
   simp only [Bool.and_eq_true] at h
   unfold leftF
   rw [h.1]
   rfl
  cases q:firstB j rows i with
  | true=>simp [hb q]; lia
  | false=>
   have:([r].filter (leftF j 2)).length≤1:=List.length_filter_le _ _
   simp only [Bool.false_eq_true,if_false,List.length_nil]
   lia
noncomputable def k3 (z:Int):Nat:=if kz z=3 then 1 else 0
theorem stepZ_len (rows:List Row) (z:Int):(stepZ rows z).length≤rows.length+k3 z:=by
 unfold stepZ toldR k3
 have hk:=kz_lt z
 split
 ·exact Nat.le_trans (List.length_filter_le _ _) (Nat.le_add_right _ _)
 ·split
  ·split
   ·simp
   ·lia
  ·have:=firsts_left (jz z) rows rows.length (Nat.le_refl _)
   rw [List.take_length] at this
   rw [List.length_append,List.length_map]
   lia
theorem stepZ_ok {rows:List Row} (z:Int) (ok: ∀ r∈rows,OkRow r): ∀ r∈stepZ rows z,OkRow r:=by
 intro r hr
 unfold stepZ toldR at hr
 split at hr
 ·exact ok r (List.mem_filter.mp hr).1
 ·split at hr
  ·split at hr
   ·rcases List.mem_append.mp hr with hr | hr
    ·exact ok r hr
    ·rw [List.mem_singleton.mp hr]
     exact ⟨by simp [names7],by simp [vals6]⟩
   ·exact ok r hr
  ·rcases List.mem_append.mp hr with hr | hr
   ·exact ok r (List.mem_filter.mp hr).1
   ·refine x0 (List.mem_map.mp hr) fun k hk hr1=>?_; subst hr1
    have hk:=firstsL_lt _ _ _ k hk
    refine ⟨?_,by rw [newRow_sn]; simp [vals6]⟩
    have e:rows[k]? =some (rows[k]'hk):=by simp
    unfold newRow
    rw [e]
    exact (ok _ (List.getElem_mem hk)).1
noncomputable def c3 (zs:List Int):Nat:=(zs.map k3).sum
noncomputable def stepsZ (rows:List Row) (zs:List Int):List Row:=zs.foldl stepZ rows
theorem stepsZ_ok {rows:List Row} (ok: ∀ r∈rows,OkRow r): ∀ zs:List Int,∀ r∈stepsZ rows zs,OkRow r:=by
 intro zs
 unfold stepsZ
 induction zs generalizing rows with
 | nil=>exact ok
 | cons z l ih=>exact ih (stepZ_ok z ok)
theorem stepsZ_len (rows:List Row): ∀ zs:List Int,(stepsZ rows zs).length≤rows.length+c3 zs:=by
 intro zs
 unfold stepsZ c3
 induction zs generalizing rows with
 | nil=>simp
 | cons z l ih=>
  have:=ih (stepZ rows z)
  have:=stepZ_len rows z
  simp only [List.foldl_cons,List.map_cons,List.sum_cons]
  lia
theorem stepsZ_snoc (rows:List Row) (zs:List Int) (z:Int):stepsZ rows (zs++ [z])=stepZ (stepsZ rows zs) z:=by
 unfold stepsZ; rw [List.foldl_append]; rfl
theorem c3_take (zs:List Int) (i:Nat):c3 (zs.take i)≤c3 zs:=by
 unfold c3
 induction zs generalizing i with
 | nil=>simp
 | cons z l ih=>
  cases i with
  | zero=>simp
  | succ i=>simp only [List.take_succ_cons,List.map_cons,List.sum_cons]; have:=ih i; lia
noncomputable def IsZs (vs:Array Value) (zs:List Int):Prop:=∃ ps:List (Int×Nat),vs=(ps.map fun x=>Value.int x.1 x.2).toArray∧ps.map (·.1)=zs
theorem IsZs.size {vs:Array Value} {zs:List Int} (h:IsZs vs zs):vs.size=zs.length:=by
 refine x0 h fun ps hr2 hr3=>?_; clear h; subst hr2; subst hr3
 simp
theorem IsZs.get {vs:Array Value} {zs:List Int} (h:IsZs vs zs) {i:Nat} {z:Int} (hz:zs[i]? =some z): ∃ t,vs[i]? =some (.int z t):=by
 refine x0 h fun ps hr4 hr5=>?_; clear h; subst hr4; subst hr5
 rw [List.getElem?_map] at hz
 cases q:ps[i]? with
 | none=>rw [q] at hz; cases hz
 | some x=>rw [q] at hz; cases hz; exact ⟨x.2,by simp [q]⟩
theorem IsZs.app {vs us:Array Value} {zs ws:List Int} (h:IsZs vs zs) (h':IsZs us ws):IsZs (vs++us) (zs++ws):=by
 refine x0 h fun ps hr6 hr7=>?_; clear h; subst hr6; subst hr7
 refine x0 h' fun qs hr8 hr9=>?_; clear h'; subst hr8; subst hr9
 exact ⟨ps++qs,by simp,by simp⟩
theorem IsZs.slice {vs:Array Value} {zs:List Int} (h:IsZs vs zs) (a b:Nat):IsZs ((vs.toList.drop a).take b).toArray ((zs.drop a).take b):=by
 refine x0 h fun ps hr10 hr11=>?_; clear h; subst hr10; subst hr11
 exact ⟨(ps.drop a).take b,by simp [List.map_take,List.map_drop],by simp [List.map_take,List.map_drop]⟩
theorem IsZs.take {vs:Array Value} {zs:List Int} (h:IsZs vs zs) (b:Nat):IsZs (vs.toList.take b).toArray (zs.take b):=h.slice 0 b
structure CkP where
 prog:Program
 P:Params
 K:Nat
 t:Nat
structure CkX where
 x:Nat
 e:Nat
 K:Nat
 t:Nat
noncomputable def xsO (o:Obj):Array Value:=match o.data with
 | .seq xs _=>xs
 | _=> #[]
noncomputable def nO (o:Obj):Nat:=match o.data with
 | .seq _ n=>n
 | _=>0
noncomputable def hCk0:List Nat:= [0,0,3,3,0,0,0,0,0,0,0,0,0,0,5,5,0,6,0,1,1,1,1,0,0,0,0,6,6,0,6,6,6,6,6,6,6,6,6,0,6,6,6,6,6,6,9,8,8,8,8,0,0,0,6,6,6,9,8,8,8,8,0,0,0,6,6,6,9,8,8,8,8,0,0,0,6,6,6,9,8,8,8,8,0,0,0,6,6,6,9,8,8,8,8,0,0,0,6,6,6,9,8,8,8,8,0,0,0,6,6,6,6,6,6,6,6,6,0,0,0,0,4,6,4,6,6,11,1]
noncomputable def hCk1:List Nat:= [60,61,61,61,62,62,62,61,61,61,61,61,61,61,62,62,62,62,62,62,62,61,61,61,61,61,62,62,62,62,61,61,61,61,61,61,61,11,18,26,34,42,50,58,59,63,0,0,62,0,0,64,64,0,64,0,62,62,62,62,62,62,62,64,64,64,64,64,64,64,0,64,0,64,64,64,0,62,62,62,62,62,62,62,62,62,0,0,62,62,0,65,65,62,62,62,62,0,62,62,0,62,0,2,2,2]
noncomputable def ckC:Code:=.call (.ref 45) ⟨[.ref 271],[]⟩
noncomputable def ckA (p:CkP):Rs:=runC p.prog p.P 900 ckC hCk0 [(40,tabO #[])] p.K p.t
noncomputable def ckB (p:CkP) (x:CkX):Rs:=contOf (ckA p) hCk1 (.ok (.ret (.ref x.x))) ⟨apL (keepA [] (stOf (ckA p)).D) [(x.x,listO (xsO (dOf (stOf (ckA p)) 10)) x.e)],x.K+278,0,x.t+849,0,[]⟩
noncomputable def ckF (p:CkP):Prop:=obsS (ckA p)=(2,dup (lgOf (ckA p)),none,true,.builtin "proto.collect" ⟨[.ref (aOf (stOf (ckA p)) 10)],[]⟩)∧
 getD (stOf (ckA p)).D 10=some (aOf (stOf (ckA p)) 10,listO (xsO (dOf (stOf (ckA p)) 10)) (nO (dOf (stOf (ckA p)) 10)))∧Nat.ble (xsO (dOf (stOf (ckA p)) 10)).size 10=true∧
 ∀ x,obsD (ckB p x)=(0,dup (lgOf (ckB p x)),.ok (.ret (.ref (x.K+279))))
theorem ckF_0 (p:CkP):ckF p:=by
 delta ckF; exact Rf.prove _ (by kernel_rfl)
noncomputable def kK (p:CkP) (x:CkX):List (Nat×Obj):=pick [16,24,2,17,25,60,61,62] (stOf (ckB p x)).D
noncomputable def insO (c d v:Nat):Obj:= {cls:=.ref c,dict:=some d,data:=.plain,slots:= #[some (.ref v)]}
noncomputable def hKi:List Nat:= [7,7,7,0,7,0,7,7,7,0,7,7,7,7,7,7,7,0,7,7,7,7,7,7,7,7,7,7,6,7,7,10,7,7,7,7,7,10,7,7,6,4,0,4,1,11,11,11,11,0,0,11,11,10,7,7,6,0,10,7,0,10,7,10,7,7,6,8,8,0,8,0,8,8,10,7,7,7,7,7,8,8,0,8,8,10,7,10]
noncomputable def kiR (p:CkP) (x:CkX) (v:Nat) (K t:Nat):Rs:=runC p.prog p.P 300 (.call (.ref (x.K+279)) ⟨[.ref v],[]⟩) hKi (kK p x) K t
theorem kiF (p:CkP) (x:CkX) (v:Nat) (K t:Nat):obsD (kiR p x v K t)=(0,dup (lgOf (kiR p x v K t)),.ok (.ret (.ref (K+279))))∧pick [9] (stOf (kiR p x v K t)).D= [(K+279,insO (x.K+279) (K+278) v)]∧pick [0,1,2,3,4,5,6,7] (stOf (kiR p x v K t)).D=kK p x:=by
 exact Rf.prove _ (by kernel_rfl)
noncomputable def ltQ (a b:Nat):Sem (Option Value):=Fast.tw5748314443788414978 (.ref a) (Str.ofString "__lt__") [.ref b]
noncomputable def fl1 (r:Option Value):Flow:=match r with
 | some v=>.ret v
 | none=>.next
noncomputable def runQ (p:CkP) (n:Nat) (a b:Nat) (hs:List Nat) (D:List (Nat×Obj)) (K t:Nat):Rs:=
 sim ⟨p.prog,p.P,Mine.kt p.P,none⟩ n (.top none) (PySem.W.R.bindR (ltQ a b) fun r=>.pure (.done (fl1 r))) hs ⟨D,K+278,0,t+849,0,[]⟩
structure CkI where
 i:Nat
 d:Nat
 v:Nat
noncomputable def kD2 (p:CkP) (x:CkX) (a b:CkI):List (Nat×Obj):=apL (kK p x) [(a.i,insO (x.K+279) a.d a.v),(b.i,insO (x.K+279) b.d b.v)]
noncomputable def kD1 (p:CkP) (x:CkX) (a:CkI):List (Nat×Obj):=apL (kK p x) [(a.i,insO (x.K+279) a.d a.v)]
noncomputable def hKl0:List Nat:= [9,7,7,6,5,0,5,2,11,11,11,11,0,0,3,11,9,7,7,6,0,9,7,7,6,8,8,7,7,6,0,8,0,8,8,9,7,7,7,7,7,8,8,0,8,8,9,7,9,11,10,7,7,6,0,10,7,7,6,8,8,7,7,6,0,8,0,8,8,10,7,7,7,7,7,8,8,0,8,8,10,7,10,0,1]
noncomputable def hKl1:List Nat:= [0,0]
noncomputable def hKs0:List Nat:= [9,7,7,6,5,0,5,2,10,10,10,10,0,0,3,10,9,7,7,6,0,9,7,7,6,8,8,7,7,6,0,8,0,8,8,9,7,7,7,7,7,8,8,0,8,8,9,7,9,10,9,7,7,6,0,9,7,7,6,8,8,7,7,6,0,8,0,8,8,9,7,7,7,7,7,8,8,0,8,8,9,7,9,0,1]
noncomputable def klR (p:CkP) (x:CkX) (a b:CkI) (K t:Nat):Rs:=runQ p 300 a.i b.i hKl0 (kD2 p x a b) K t
noncomputable def ksR (p:CkP) (x:CkX) (a:CkI) (K t:Nat):Rs:=runQ p 300 a.i a.i hKs0 (kD1 p x a) K t
noncomputable def ansI (o:Ordering):Int:=match o with
 | .lt=>Int.negSucc 2
 | .eq=>Int.ofNat 0
 | .gt=>Int.ofNat 5
noncomputable def ansB (o:Ordering):Bool:=match o with
 | .lt=>true
 | .eq=>false
 | .gt=>false
noncomputable def klC (R:Rs) (o:Ordering) (tz K t:Nat):Rs:=contOf R hKl1 (.ok (.ret (.int (ansI o) tz))) ⟨(stOf R).D,K+278,0,t+849,0,[]⟩
noncomputable def klT (D:List (Nat×Obj)) (js:List Nat) (R:Rs) (v u:Nat):Prop:=obsS R=(2,dup (lgOf R),none,true,.call (.ref 271) ⟨[.ref v,.ref u],[]⟩)∧pick js (stOf R).D=D∧
 ∀ (o:Ordering) (tz K t:Nat),obsD (klC R o tz K t)=(0,dup (lgOf (klC R o tz K t)),.ok (.ret (.bool (ansB o))))∧pick js (stOf (klC R o tz K t)).D=D
noncomputable instance Rx.ord:Rx Ordering:=⟨fun k=>.and (k .lt) (.and (k .eq) (k .gt)),fun h x=>match x with
 | .lt=>h.1
 | .eq=>h.2.1
 | .gt=>h.2.2⟩
noncomputable instance klT.rf {D:List (Nat×Obj)} {js:List Nat} {R:Rs} {v u:Nat} :Rf (klT D js R v u):=by
 delta klT; infer_instance
noncomputable def js10:List Nat:= [0,1,2,3,4,5,6,7,8,9]
noncomputable def js9:List Nat:= [0,1,2,3,4,5,6,7,8]
theorem klF (p:CkP) (x:CkX) (a b:CkI) (K t:Nat):klT (kD2 p x a b) js10 (klR p x a b K t) a.v b.v:=by
 obtain ⟨prog,P,K0,t0⟩:=p
 refine pset_all (X:=fun P=>klT (kD2 ⟨prog,P,K0,t0⟩ x a b) js10 (klR ⟨prog,P,K0,t0⟩ x a b K t) a.v b.v) fun b1=>Rf.prove _ (by kernel_rfl)
theorem ksF (p:CkP) (x:CkX) (a:CkI) (K t:Nat):klT (kD1 p x a) js9 (ksR p x a K t) a.v a.v:=by
 obtain ⟨prog,P,K0,t0⟩:=p
 refine pset_all (X:=fun P=>klT (kD1 ⟨prog,P,K0,t0⟩ x a) js9 (ksR ⟨prog,P,K0,t0⟩ x a K t) a.v a.v) fun b1=>Rf.prove _ (by kernel_rfl)
noncomputable def kC0 (p:CkP) (x:CkX):List (Nat×Obj):=pick [0,7,8] (stOf (ckB p x)).D
noncomputable def kC1 (p:CkP) (x:CkX):List (Nat×Obj):=pick [16,24] (stOf (ckB p x)).D
noncomputable def hDk0:List Nat:= [0,0,5,5,0,0,0,0,0,0,0,0,0,0,7,7,0,8,0,1,0,0,0,0,8,8,0,8,8,8,8,8,8,8,8,8,0,8,8,8,8,8,8,3,2,0,0,0,8,8,8,3,2,0,0,0,8,8,8,3,2,0,0,0,8,8,8,3,2,0,0,0,8,8,8,3,2,0,0,0,8,8,8,3,2,0,0,0,8,8,8,8,8,8,8,8,8,0,0,0,0,6,8,6,8,8,10,1]
noncomputable def hDk1:List Nat:= [23,24,24,24,25,25,25,24,24,24,24,24,24,24,25,25,25,25,25,25,25,24,24,24,24,24,25,25,25,25,24,24,24,24,24,24,24,10,11,13,15,17,19,21,22,26,0,0,25,0,0,27,27,0,27,0,25,25,25,25,25,25,25,27,27,27,27,27,27,27,0,27,0,27,27,27,0,25,25,25,25,25,25,25,25,25,0,0,25,25,0,28,28,25,25,25,25,0,25,25,0,25,0,4,4,4]
structure DkP where
 p:CkP
 x:CkX
 K:Nat
 t:Nat
noncomputable def dkA (p:DkP):Rs:=runC p.p.prog p.p.P 900 ckC hDk0 (kC0 p.p p.x) p.K p.t
noncomputable def dkB (p:DkP) (x:CkX):Rs:=contOf (dkA p) hDk1 (.ok (.ret (.ref x.x))) ⟨apL (keepA [] (stOf (dkA p)).D) [(x.x,listO (xsO (dOf (stOf (dkA p)) 9)) x.e)],x.K+278,0,x.t+849,0,[]⟩
noncomputable def dkF (p:DkP):Prop:=obsS (dkA p)=(2,dup (lgOf (dkA p)),none,true,.builtin "proto.collect" ⟨[.ref (aOf (stOf (dkA p)) 9)],[]⟩)∧
 getD (stOf (dkA p)).D 9=some (aOf (stOf (dkA p)) 9,listO (xsO (dOf (stOf (dkA p)) 9)) (nO (dOf (stOf (dkA p)) 9)))∧Nat.ble (xsO (dOf (stOf (dkA p)) 9)).size 10=true∧
 ∀ x,obsD (dkB p x)=(0,dup (lgOf (dkB p x)),.ok (.ret (.ref (x.K+279))))∧pick [0,1,2] (stOf (dkB p x)).D=kC0 p.p p.x
theorem dkF_0 (p:DkP):dkF p:=by
 delta dkF; exact Rf.prove _ (by kernel_rfl)
noncomputable def dK (p:DkP) (x:CkX):List (Nat×Obj):=apL (kC1 p.p p.x) (pick [4,10,12,23,24,25] (stOf (dkB p x)).D)
noncomputable def diR (p:DkP) (x:CkX) (v:Nat) (K t:Nat):Rs:=runC p.p.prog p.p.P 300 (.call (.ref (x.K+279)) ⟨[.ref v],[]⟩) hKi (dK p x) K t
theorem diF (p:DkP) (x:CkX) (v:Nat) (K t:Nat):obsD (diR p x v K t)=(0,dup (lgOf (diR p x v K t)),.ok (.ret (.ref (K+279))))∧pick [9] (stOf (diR p x v K t)).D= [(K+279,insO (x.K+279) (K+278) v)]∧pick [0,1,2,3,4,5,6,7] (stOf (diR p x v K t)).D=dK p x:=by
 exact Rf.prove _ (by kernel_rfl)
noncomputable def dD2 (p:DkP) (x:CkX) (a b:CkI):List (Nat×Obj):=apL (dK p x) [(a.i,insO (x.K+279) a.d a.v),(b.i,insO (x.K+279) b.d b.v)]
noncomputable def dD1 (p:DkP) (x:CkX) (a:CkI):List (Nat×Obj):=apL (dK p x) [(a.i,insO (x.K+279) a.d a.v)]
noncomputable def dlR (p:DkP) (x:CkX) (a b:CkI) (K t:Nat):Rs:=runQ p.p 300 a.i b.i hKl0 (dD2 p x a b) K t
noncomputable def dtR (p:DkP) (x:CkX) (a:CkI) (K t:Nat):Rs:=runQ p.p 300 a.i a.i hKs0 (dD1 p x a) K t
theorem dlF (p:DkP) (x:CkX) (a b:CkI) (K t:Nat):klT (dD2 p x a b) js10 (dlR p x a b K t) a.v b.v:=by
 obtain ⟨⟨prog,P,K0,t0⟩,x0,K1,t1⟩:=p
 refine pset_all (X:=fun P=>klT (dD2 ⟨⟨prog,P,K0,t0⟩,x0,K1,t1⟩ x a b) js10 (dlR ⟨⟨prog,P,K0,t0⟩,x0,K1,t1⟩ x a b K t) a.v b.v) fun b1 b2=>?_
 cases b2<;>(refine ⟨?_,?_,fun o tz K t=>?_⟩; kernel_rfl; kernel_rfl; cases o<;>(refine ⟨?_,?_⟩<;>kernel_rfl))
theorem dtF (p:DkP) (x:CkX) (a:CkI) (K t:Nat):klT (dD1 p x a) js9 (dtR p x a K t) a.v a.v:=by
 obtain ⟨⟨prog,P,K0,t0⟩,x0,K1,t1⟩:=p
 refine pset_all (X:=fun P=>klT (dD1 ⟨⟨prog,P,K0,t0⟩,x0,K1,t1⟩ x a) js9 (dtR ⟨⟨prog,P,K0,t0⟩,x0,K1,t1⟩ x a K t) a.v a.v) fun b1 b2=>?_
 cases b2<;>(refine ⟨?_,?_,fun o tz K t=>?_⟩; kernel_rfl; kernel_rfl; cases o<;>(refine ⟨?_,?_⟩<;>kernel_rfl))
end Mine
namespace Mine
open PySem PySem.W PySem.W.X PyProof.Rows
noncomputable def nodupB:List Nat→Bool
 | []=>true
 | j::js=> !js.contains j&&nodupB js
theorem pick_at: ∀ {js:List Nat} {D:List (Nat×Obj)} {i:Nat} {y:Nat×Obj},(pick js D)[i]? =some y→∃ j∈js,D[j]? =some y
 | [],_,_,_,h=>by simp [pick] at h
 | j::js,D,i,y,h=>by
  unfold pick at h
  cases q:getD D j with
  | none=>
   rw [q] at h
   refine x0 (pick_at (js:=js) h) fun k h1 h2=>?_
   exact ⟨k,List.mem_cons_of_mem _ h1,h2⟩
  | some x=>
   rw [q] at h
   cases i with
   | zero=>
    simp at h
    subst h
    exact ⟨j,List.mem_cons_self,by rw [←getD_eq]; exact q⟩
   | succ i=>
    simp at h
    refine x0 (pick_at (js:=js) h) fun k h1 h2=>?_
    exact ⟨k,List.mem_cons_of_mem _ h1,h2⟩
theorem Sat.pickF {V:Sv} {s:St} {sh:Shared} (S:Sat V s sh): ∀ {js:List Nat},nodupB js=true→Facts 0 sh (pick js s.D)
 | [],_=>.nil
 | j::js,h=>by
  simp only [nodupB,Bool.and_eq_true,Bool.not_eq_true'] at h
  unfold pick
  cases q:getD s.D j with
  | none=>exact Sat.pickF S h.2
  | some x=>
   have hx:s.D[j]? =some x:=by rw [←getD_eq]; exact q
   refine .cons (S.own j x hx) (Nat.zero_le _) (fun i y hy e=>?_) (Sat.pickF S h.2)
   refine x0 (pick_at hy) fun k h1 h2=>?_
   have:=S.apart k j y x h2 hx e
   subst this
   have:=h.1
   rw [List.contains_iff_mem.mpr h1] at this
   cases this
theorem Facts.at0 {lo:Nat} {sh:Shared} {D:List (Nat×Obj)} (F:Facts lo sh D) {y:Nat×Obj} (h:y∈D):sh.heap.get? y.1=some y.2∧lo≤y.1:=by
 refine x1 (List.getElem?_of_mem h) fun i hi=>?_
 exact F.own i y hi
theorem Facts.ext {lo:Nat} {mu:Nat→Prop} {sh sh':Shared} (X:Ext mu sh sh'): ∀ {D:List (Nat×Obj)},Facts lo sh D→(∀ y∈D,¬ mu y.1)→Facts lo sh' D
 | _,.nil,_=>.nil
 | _,.cons h hlo hne r,hm=>.cons (X.keep _ _ h (hm _ List.mem_cons_self)) hlo hne (r.ext X fun y hy=>hm y (List.mem_cons_of_mem _ hy))
theorem Facts.raise {lo lo':Nat} {sh:Shared} : ∀ {D:List (Nat×Obj)},Facts lo sh D→(∀ y∈D,lo'≤y.1)→Facts lo' sh D
 | _,.nil,_=>.nil
 | _,.cons h hlo hne r,hm=>.cons h (hm _ List.mem_cons_self) hne (r.raise fun y hy=>hm y (List.mem_cons_of_mem _ hy))
theorem Facts.append {lo:Nat} {sh:Shared} {E:List (Nat×Obj)} (G:Facts lo sh E): ∀ {D:List (Nat×Obj)},Facts lo sh D→(∀ y∈D,∀ z∈E,z.1≠y.1)→Facts lo sh (apL D E)
 | _,.nil,_=>G
 | _,.cons (a:=a) (o:=o) (l:=l) h hlo hne r,hm=>by
  refine .cons h hlo (fun i x hx=>?_) (G.append r fun y hy=>hm y (List.mem_cons_of_mem _ hy))
  rw [apL_eq] at hx
  rcases Nat.lt_or_ge i l.length with q | q
  ·rw [List.getElem?_append_left q] at hx
   exact hne i x hx
  ·rw [List.getElem?_append_right q] at hx
   exact hm _ List.mem_cons_self x (List.mem_of_getElem? hx)
noncomputable def kinds2:List (Nat×Obj)→List (Nat×Obj)→Bool
 | [],_=>true
 | x::l,E=>apart1 x.2 E&&kinds2 l E
theorem kinds2_ne {lo:Nat} {sh:Shared} {D E:List (Nat×Obj)} (F:Facts lo sh D) (G:Facts lo sh E) (h:kinds2 D E=true): ∀ y∈D,∀ z∈E,z.1≠y.1:=by
 have key: ∀ {D:List (Nat×Obj)},kinds2 D E=true→∀ y∈D,apart1 y.2 E=true:=fun {D} =>by
  induction D with
  | nil=>intro _ y hy; cases hy
  | cons x l ih=>
   intro h y hy
   simp only [kinds2,Bool.and_eq_true] at h
   rcases List.mem_cons.mp hy with rfl | hy
   ·exact h.1
   ·exact ih h.2 y hy
 intro y hy z hz e
 have a:=(F.at0 hy).1
 have b:=(G.at0 hz).1
 rw [e,a] at b
 refine x1 (List.getElem?_of_mem hz) fun i hi=>?_
 have:=apart1_at (key h y hy) i z hi
 rw [←Option.some.inj b,kne_self] at this
 cases this
noncomputable def ge277:List (Nat×Obj)→Bool
 | []=>true
 | x::l=>Nat.ble 277 x.1&&ge277 l
theorem ge277_at: ∀ {D:List (Nat×Obj)},ge277 D=true→∀ y∈D,277≤y.1
 | [],_,y,hy=>by cases hy
 | x::l,h,y,hy=>by
  simp only [ge277,Bool.and_eq_true] at h
  rcases List.mem_cons.mp hy with rfl | hy
  ·exact Nat.le_of_ble_eq_true h.1
  ·exact ge277_at h.2 y hy
inductive KAt (prog:Program) (w:World) (sh:Shared) (c:Nat):Prop
 | one (p:CkP) (x:CkX) (e1:p.prog=prog) (e2:p.P=w.params) (e3:c=x.K+279) (F:Facts 277 sh (kK p x))
 | two (p:DkP) (x:CkX) (e1:p.p.prog=prog) (e2:p.p.P=w.params) (e3:c=x.K+279) (F:Facts 277 sh (dK p x))
inductive Tab40 (prog:Program) (w:World) (sh:Shared):Prop
 | none (h:sh.heap.get? 40=some (tabO #[]))
 | some (p:CkP) (x:CkX) (e1:p.prog=prog) (e2:p.P=w.params) (F:Facts 0 sh (kC0 p x)) (G:Facts 277 sh (kC1 p x))
theorem kK_ge (p:CkP) (x:CkX):ge277 (kK p x)=true:=by kernel_rfl
theorem dK_ge (p:DkP) (x:CkX):ge277 (dK p x)=true:=by kernel_rfl
theorem kC1_ge (p:CkP) (x:CkX):ge277 (kC1 p x)=true:=by kernel_rfl
theorem dK_kinds (p:DkP) (x:CkX):kinds2 (kC1 p.p p.x) (pick [4,10,12,23,24,25] (stOf (dkB p x)).D)=true:=by kernel_rfl
end Mine
namespace Mine
open PySem PySem.W PySem.W.X PyProof.Rows PySem.Calls
section
variable {prog:Program} {w:World} {A:Around} {sh:Shared}
theorem col_code {l n:Nat} {xs:Array Value} (hg:sh.gens= #[]) (ht:849≤sh.toks) (hl:sh.heap.get? l=some (listO xs n)) (hsz:xs.size≤1000):
  codeAny (model prog w) A (.builtin "proto.collect" ⟨[.ref l],[]⟩) (fun r s'=>∃ D c,r= .ok (.ret (.ref D))∧sh.heap.objs.size≤D∧s'.heap.get? D=some (listO xs c)∧Ext none_ sh s') sh:=by
 refine codeAny_builtin entry_proto_collect' ?_
 show wpAny _ _ (do again (.builtin "list.__iadd__" ⟨[←newList [],.ref l],[]⟩)) _ _ sh
 refine wpAny_bind (wpAny_newList (wpAny_pure ⟨Code.quiet_builtin _ (by decide+kernel),codeAny_builtin entry_list_iadd' ?_⟩))
 show wpAny _ _ (Builtin.List.listExtendWith (.ref sh.heap.objs.size) (.ref l) (.ref sh.heap.objs.size)) _ _ {sh with heap:=sh.heap.push (seqObj "list" #[] 0)}
 unfold Builtin.List.listExtendWith
 have ho':(sh.heap.push (seqObj "list" #[] 0)).get? l=some (listO xs n):=Heap.get?_push_of_some _ hl
 refine wpAny_bind (wpAny_typeOf (T:= "list") ⟨_,ho',rfl⟩ ?_)
 have hT:(Value.type "list" ==Value.type "list")=true:=by rfl
 rw [if_pos (by rw [hT]; simp)]
 refine wpAny_bind (listItems_at ho' rfl ?_)
 refine wpAny_bind (listItems_at (xs:= #[]) (n:=0) (Heap.get?_push_size _ rfl) rfl ?_)
 rw [if_neg (by simp)]
 refine wpAny_bind (listUpdate_at (xs:= #[]) (n:=0) (Heap.get?_push_size _ rfl) rfl ?_ (Nat.zero_le _) (by show (#[]++xs).size≤sizeLine+1; rw [Array.size_append,sizeLine_eq]; simp; lia))
 have X1:Ext none_ sh {sh with heap:=sh.heap.push (seqObj "list" #[] 0)} :=push_ext hg ht
 have X2:Ext (fun b=>b=sh.heap.objs.size) {sh with heap:=sh.heap.push (seqObj "list" #[] 0)} {sh with heap:=(sh.heap.push (seqObj "list" #[] 0)).update sh.heap.objs.size (Obj.mapSeq (· ++xs))} :=
  upd_ext (sh:= {sh with heap:=sh.heap.push (seqObj "list" #[] 0)}) (Heap.get?_push_size _ rfl) hg ht
 have hc:=get?_update_seq (h:=sh.heap.push (seqObj "list" #[] 0)) (a:=sh.heap.objs.size) (Heap.get?_push_size _ rfl) (· ++xs)
 simp only [Array.empty_append] at hc
 exact wpAny_pure ⟨_,_,rfl,Nat.le_refl _,hc,((X1.weak fun zz q=>q.elim).trans X2).mono fun i o hi q=>absurd (Heap.lt_size hi) (by subst q; exact Nat.lt_irrefl _)⟩
theorem inD_mem: ∀ {D:List (Nat×Obj)} {b:Nat},inD D b→∃ y∈D,y.1=b
 | [],_,h=>h.elim
 | x::l,b,h=>h.elim (fun e=>⟨x,List.mem_cons_self,e.symm⟩) fun h=>by
  refine x0 (inD_mem h) fun y h1 h2=>?_
  exact ⟨y,List.mem_cons_of_mem _ h1,h2⟩
theorem ktno_high {a:Nat} (h:277≤a):KtNo a:=fun P=>by
 cases q:(Mine.kt P).get a with
 | none=>rfl
 | some o=>exact absurd (kt_low q) (Nat.not_lt.mpr h)
theorem kC0_eq (p:CkP) (x:CkX):kC0 p x= [(40,dOf ⟨kC0 p x,0,0,0,0,[]⟩ 0),(p.K+284,dOf ⟨kC0 p x,0,0,0,0,[]⟩ 1),(p.K+285,dOf ⟨kC0 p x,0,0,0,0,[]⟩ 2)]:=by kernel_rfl
noncomputable def CkEnd (prog:Program) (w:World) (sh:Shared) (r:Result) (sh':Shared):Prop:=
 ∃ c,r= .ok (.ret (.ref c))∧277≤c∧KAt prog w sh' c∧Tab40 prog w sh'∧Ext (fun b=>b=40) sh sh'
theorem ck_run {D0:List (Nat×Obj)} {R:Rs} {Bf:CkX→Rs} {hs:List Nat} {j:Nat} (Rm:Room 2 A) (h0:278≤sh.heap.objs.size) (f1:obsS R=(2,dup (lgOf R),none,true,.builtin "proto.collect" ⟨[.ref (aOf (stOf R) j)],[]⟩))
  (f2:getD (stOf R).D j=some (aOf (stOf R) j,listO (xsO (dOf (stOf R) j)) (nO (dOf (stOf R) j)))) (f3:Nat.ble (xsO (dOf (stOf R) j)).size 10=true) (f4: ∀ x,obsD (Bf x)=(0,dup (lgOf (Bf x)),.ok (.ret (.ref (x.K+279)))))
  (hB: ∀ x,Bf x=contOf R hs (.ok (.ret (.ref x.x))) ⟨apL (keepA [] (stOf R).D) [(x.x,listO (xsO (dOf (stOf R) j)) x.e)],x.K+278,0,x.t+849,0,[]⟩) {Q:Result→Shared→Prop}
  (hQ: ∀ x sh2,Sat (sv prog w A Q sh.heap (inD D0) sh.os sh.toks) (stOf (Bf x)) sh2→Q (.ok (.ret (.ref (x.K+279)))) sh2):Ok (sv prog w A Q sh.heap (inD D0) sh.os sh.toks) R:=by
 refine ok_stop f1 fun sh1 S B h1 h2 h3=>?_
 have T1:=topW w S rfl h0
 refine codeAny_mono (col_code T1.gens T1.toks (S.own j _ (by rw [←getD_eq]; exact f2)) (Nat.le_trans (Nat.le_of_ble_eq_true f3) (by decide))) fun r sh' hq=>x15 hq fun D c hr hD hl X=>?_
 have hz:278≤sh'.heap.objs.size:=Nat.le_trans T1.size X.size
 have hD':277≤D:=Nat.le_trans (Nat.le_trans (by decide) T1.size) hD
 have N:Facts 277 sh' [(D,listO (xsO (dOf (stOf R) j)) c)]:=.cons hl hD' (fun i x h=>by simp at h) .nil
 have S':=Sat.swap (V:=sv prog w A Q sh.heap (inD D0) sh.os sh.toks) (cs:= []) (fun zz zz e=>kt_low e) h0 S X N (fun y hy=>.inl (by rw [List.mem_singleton.mp hy]; exact hD)) (b:=sh'.heap.objs.size - 278+278) (t:=sh'.toks - 849+849) (by lia) (by have:=X.t849; lia)
 subst hr
 refine ⟨hs,_,S',?_⟩
 have z:=ok_end (V:=sv prog w A Q sh.heap (inD D0) sh.os sh.toks) (f4 ⟨D,c,sh'.heap.objs.size - 278,sh'.toks - 849⟩) fun sh2 S2=>hQ _ sh2 S2
 rw [hB] at z
 exact z
theorem ck_spec (Rm:Room 2 A) (T:Top w sh) (H:Tab40 prog w sh):codeAny (model prog w) A ckC (CkEnd prog w sh) sh:=by
 cases H with
 | none h=>
  refine walk_codeG T Rm rfl (D:= [(40,tabO #[])]) (.of ⟨⟨h,Nat.zero_le _⟩,trivial⟩ (by kernel_rfl)) ⟨ktno_40,trivial⟩ 900 hCk0 fun K t hK ht=>?_
  refine x13 (ckF_0 ⟨prog,w.params,K,t⟩) fun f1 f2 f3 f4=>?_
  have e:runC prog w.params 900 ckC hCk0 [(40,tabO #[])] K t=ckA ⟨prog,w.params,K,t⟩:=by unfold ckA; exact rfl
  rw [e]
  have hB: ∀ x,ckB ⟨prog,w.params,K,t⟩ x=contOf (ckA ⟨prog,w.params,K,t⟩) hCk1 (.ok (.ret (.ref x.x))) ⟨apL (keepA [] (stOf (ckA ⟨prog,w.params,K,t⟩)).D) [(x.x,listO (xsO (dOf (stOf (ckA ⟨prog,w.params,K,t⟩)) 10)) x.e)],x.K+278,0,x.t+849,0,[]⟩:=fun x=>by unfold ckB; exact rfl
  have hQ: ∀ x sh2,Sat (sv prog w A (CkEnd prog w sh) sh.heap (inD [(40,tabO #[])]) sh.os sh.toks) (stOf (ckB ⟨prog,w.params,K,t⟩ x)) sh2→CkEnd prog w sh (.ok (.ret (.ref (x.K+279)))) sh2:=?hQ
  ·revert f1 f2 f3 f4 hB hQ
   generalize ckB ⟨prog,w.params,K,t⟩=Bf
   generalize ckA ⟨prog,w.params,K,t⟩=R
   intro f1 f2 f3 f4 hB hQ
   exact ck_run (D0:= [(40,tabO #[])]) (R:=R) (Bf:=Bf) (hs:=hCk1) (j:=10) Rm T.size f1 f2 f3 f4 hB hQ
  intro x sh2 S2
  refine ⟨_,rfl,Nat.le_trans (by decide) (Nat.le_add_left 279 _),.one ⟨prog,w.params,K,t⟩ x rfl rfl rfl (Facts.raise (Sat.pickF S2 (js:= [16,24,2,17,25,60,61,62]) rfl) (ge277_at (kK_ge _ _))),.some ⟨prog,w.params,K,t⟩ x rfl rfl (Sat.pickF S2 (js:= [0,7,8]) rfl) (Facts.raise (Sat.pickF S2 (js:= [16,24]) rfl) (ge277_at (kC1_ge _ _))),?_⟩
  exact (S2.ext (sh₀:=sh) rfl rfl).weak fun b hb=>hb.elim id fun q=>q.elim
 | some p x e1 e2 F G=>
  subst e1
  refine walk_codeG T Rm rfl (D:=kC0 p x) F (by rw [kC0_eq]; exact ⟨ktno_40,ktno_high (Nat.le_trans (by decide) (Nat.le_add_left 284 _)),ktno_high (Nat.le_trans (by decide) (Nat.le_add_left 285 _)),trivial⟩) 900 hDk0 fun K t hK ht=>?_
  have f:=dkF_0 ⟨p,x,K,t⟩
  unfold dkF at f
  have e:runC p.prog w.params 900 ckC hDk0 (kC0 p x) K t=dkA ⟨p,x,K,t⟩:=by unfold dkA; rw [e2]
  rw [e]
  have hB: ∀ y,dkB ⟨p,x,K,t⟩ y=contOf (dkA ⟨p,x,K,t⟩) hDk1 (.ok (.ret (.ref y.x))) ⟨apL (keepA [] (stOf (dkA ⟨p,x,K,t⟩)).D) [(y.x,listO (xsO (dOf (stOf (dkA ⟨p,x,K,t⟩)) 9)) y.e)],y.K+278,0,y.t+849,0,[]⟩:=fun y=>by unfold dkB; exact rfl
  have f4:=f.2.2.2
  have hQ: ∀ y sh2,Sat (sv p.prog w A (CkEnd p.prog w sh) sh.heap (inD (kC0 p x)) sh.os sh.toks) (stOf (dkB ⟨p,x,K,t⟩ y)) sh2→CkEnd p.prog w sh (.ok (.ret (.ref (y.K+279)))) sh2:=?hQ2
  ·revert f hB hQ
   clear f4
   generalize dkB ⟨p,x,K,t⟩=Bf
   generalize dkA ⟨p,x,K,t⟩=R
   intro f hB hQ
   exact ck_run (D0:=kC0 p x) (R:=R) (Bf:=Bf) (hs:=hDk1) (j:=9) Rm T.size f.1 f.2.1 f.2.2.1 (fun y=>(f.2.2.2 y).1) hB hQ
  intro y sh2 S2
  have F2:Facts 0 sh2 (kC0 p x):=(f4 y).2▸Sat.pickF S2 (js:= [0,1,2]) rfl
  have X:=S2.ext (sh₀:=sh) rfl rfl
  have X0:Ext none_ sh sh2:=X.mono fun i o hi q=>.inr (by
   refine x0 (inD_mem q) fun z hz hr1=>?_; subst hr1
   rw [(F.at0 hz).1] at hi
   cases hi
   exact (F2.at0 hz).1)
  have G2:Facts 277 sh2 (kC1 p x):=G.ext X0 fun zz zz=>id
  have G3:=Sat.pickF S2 (js:= [4,10,12,23,24,25]) rfl
  have G0:Facts 0 sh2 (kC1 p x):=G2.raise fun zz zz=>Nat.zero_le _
  exact ⟨_,rfl,Nat.le_trans (by decide) (Nat.le_add_left 279 _),.two ⟨p,x,K,t⟩ y rfl e2 rfl (Facts.raise (G3.append G0 (kinds2_ne G0 G3 (dK_kinds ⟨p,x,K,t⟩ y))) (ge277_at (dK_ge ⟨p,x,K,t⟩ y))),.some p x rfl e2 F2 G2,X0.weak fun zz q=>q.elim⟩
end
section
variable {prog:Program} {w:World} {A:Around} {sh:Shared}
noncomputable def KiEnd (sh:Shared) (c v:Nat) (r:Result) (sh':Shared):Prop:=∃ x d,r= .ok (.ret (.ref x))∧277≤x∧sh.heap.objs.size≤x∧sh'.heap.get? x=some (insO c d v)∧Ext none_ sh sh'
theorem ki_end {D:List (Nat×Obj)} {R:Rs} {c v K:Nat} {js:List Nat} (F:Facts 277 sh D) (hK:sh.heap.objs.size=K+278) (f1:obsD R=(0,dup (lgOf R),.ok (.ret (.ref (K+279)))))
  (f2:pick [9] (stOf R).D= [(K+279,insO c (K+278) v)]) (f3:pick js (stOf R).D=D):Ok (sv prog w A (KiEnd sh c v) sh.heap (inD D) sh.os sh.toks) R:=by
 refine ok_end f1 fun sh2 S2=>?_
 have O:=S2.all0 f2
 have O2:OwnAll 0 sh2 D:=S2.all0 f3
 have own: ∀ {D:List (Nat×Obj)},OwnAll 0 sh2 D→∀ y∈D,sh2.heap.get? y.1=some y.2:=fun {D} =>by
  induction D with
  | nil=>intro _ y hy; cases hy
  | cons x l ih=>
   intro h y hy
   rcases List.mem_cons.mp hy with rfl | hy
   ·exact h.1.1
   ·exact ih h.2 y hy
 refine ⟨K+279,K+278,rfl,Nat.le_trans (by decide) (Nat.le_add_left 279 K),by rw [hK]; exact Nat.le_succ _,O.1.1,?_⟩
 exact (S2.ext (sh₀:=sh) rfl rfl).mono fun i o hi q=>.inr (by
  refine x0 (inD_mem q) fun z hz hr1=>?_; subst hr1
  rw [(F.at0 hz).1] at hi
  cases hi
  exact own O2 z hz)
theorem ki_spec {c:Nat} (Rm:Room 1 A) (T:Top w sh) (H:KAt prog w sh c) (v:Nat):codeAny (model prog w) A (.call (.ref c) ⟨[.ref v],[]⟩) (KiEnd sh c v) sh:=by
 cases H with
 | one p x e1 e2 e3 F=>
  subst e1 e3
  refine walk_code T Rm rfl F 300 hKi fun K t hK=>?_
  have f:=kiF p x v K t
  have e:runC p.prog w.params 300 (.call (.ref (x.K+279)) ⟨[.ref v],[]⟩) hKi (kK p x) K t=kiR p x v K t:=by unfold kiR; rw [e2]
  rw [e]
  revert f
  generalize kiR p x v K t=R
  intro f
  exact ki_end F hK f.1 f.2.1 f.2.2
 | two p x e1 e2 e3 F=>
  subst e1 e3
  refine walk_code T Rm rfl F 300 hKi fun K t hK=>?_
  have f:=diF p x v K t
  have e:runC p.p.prog w.params 300 (.call (.ref (x.K+279)) ⟨[.ref v],[]⟩) hKi (dK p x) K t=diR p x v K t:=by unfold diR; rw [e2]
  rw [e]
  revert f
  generalize diR p x v K t=R
  intro f
  exact ki_end F hK f.1 f.2.1 f.2.2
end
section
variable {prog:Program} {w:World} {A:Around} {sh:Shared}
noncomputable def Cmp (prog:Program) (w:World) (sh:Shared) (u v:Nat) (o:Ordering) (k:Nat):Prop:=∀ (B:Around) (sh1:Shared),Room k B→Top w sh1→Ext none_ sh sh1→
 codeAny (model prog w) B (.call (.ref 271) ⟨[.ref u,.ref v],[]⟩) (fun r sh'=>(∃ tz,r= .ok (.ret (.int (ansI o) tz)))∧Ext none_ sh1 sh') sh1
noncomputable def KlR (sh:Shared) (o:Ordering) (r:Result) (s':Shared):Prop:=r= .ok (.ret (.bool (ansB o)))∧Ext none_ sh s'
theorem own_at {sh2:Shared} : ∀ {D:List (Nat×Obj)},OwnAll 0 sh2 D→∀ y∈D,sh2.heap.get? y.1=some y.2
 | [],_,y,hy=>by cases hy
 | x::l,h,y,hy=>by
  rcases List.mem_cons.mp hy with rfl | hy
  ·exact h.1.1
  ·exact own_at h.2 y hy
theorem kept {D:List (Nat×Obj)} {Q:Result→Shared→Prop} {s:St} {sh2:Shared} {js:List Nat} (F:Facts 277 sh D) (S2:Sat (sv prog w A Q sh.heap (inD D) sh.os sh.toks) s sh2) (f3:pick js s.D=D):Ext none_ sh sh2:=by
 have O2:OwnAll 0 sh2 D:=S2.all0 f3
 exact (S2.ext (sh₀:=sh) rfl rfl).mono fun i o hi q=>.inr (by
  refine x0 (inD_mem q) fun z hz hr1=>?_; subst hr1
  rw [(F.at0 hz).1] at hi
  cases hi
  exact own_at O2 z hz)
theorem kl_end {D:List (Nat×Obj)} {R:Rs} {js:List Nat} {u v k:Nat} {o:Ordering} (Rm:Room (k+1) A) (T:Top w sh) (F:Facts 277 sh D) (f:klT D js R u v) (C:Cmp prog w sh u v o k):
  Ok (sv prog w A (KlR sh o) sh.heap (inD D) sh.os sh.toks) R:=by
 refine ok_stop f.1 fun sh1 S B h1 h2 h3=>?_
 have T1:=topW w S rfl T.size
 have X1:=kept F S f.2.1
 refine codeAny_mono (C B sh1 (Rm.down h1 h2 h3) T1 X1) fun r sh' hq=>x60 hq fun tz hr X=>?_
 have hz:278≤sh'.heap.objs.size:=Nat.le_trans T1.size X.size
 subst hr
 refine ⟨hKl1,_,S.same X (b:=sh'.heap.objs.size - 278+278) (t:=sh'.toks - 849+849) (by lia) (by have:=X.t849; lia),?_⟩
 exact ok_end (f.2.2 o tz _ _).1 fun sh2 S2=>⟨rfl,kept F S2 (f.2.2 o tz _ _).2⟩
end
section
variable {prog:Program} {w:World} {A:Around} {sh:Shared}
theorem lt_tree {D:List (Nat×Obj)} {a b:Nat} {hs:List Nat} {o:Ordering} {Q:Bool→Shared→Prop} {E:Value→Shared→Prop} (Rm:Room 1 A) (T:Top w sh) (F:Facts 277 sh D)
  (h: ∀ K t,sh.heap.objs.size=K+278→Ok (sv prog w A (KlR sh o) sh.heap (inD D) sh.os sh.toks) (sim ⟨prog,w.params,Mine.kt w.params,none⟩ 300 (.top none) (PySem.W.R.bindR (ltQ a b) fun r=>.pure (.done (fl1 r))) hs ⟨D,K+278,0,t+849,0,[]⟩))
  (hQ: ∀ s',Ext none_ sh s'→Q (ansB o) s'):wpAny (model prog w) A (keyLt' oneType' (.ref a) (.ref b)) Q E sh:=by
 rw [keyLt'_oneType,oneLt'_eq]
 simp only [if_true]
 refine wpAny_bind (wpAny_cRoomFor (by have:=Rm.units; lia) ?_)
 refine x1 T.K fun K hK=>?_
 have ht:sh.toks=(sh.toks - 849)+849:=by have:=T.toks; lia
 have z:=tree_in (prog:=prog) (w:=w) (A:=A) (sh:=sh) (k:=Mine.kt w.params) (h₀:=sh.heap) (mu:=inD D) (os:=sh.os) (t₀:=sh.toks) (t:=ltQ a b) (g:=fl1) (Q:=fun r s'=>r=some (.bool (ansB o))∧Ext none_ sh s') (E:=fun zz zz=>False) (R:=KlR sh o) 300 hs ⟨D,K+278,0,(sh.toks - 849)+849,0,[]⟩ (Rm.mono (Nat.zero_le _)).depth Rm.handled
  (fun r s' hr=>⟨by
   have e:=hr.1
   cases r with
   | none=>cases e
   | some v=>simp only [fl1,Except.ok.injEq,Flow.ret.injEq] at e; rw [e],hr.2⟩) (fun e s' hr=>by cases hr.1) (Sat.start T F hK ht) (h K _ hK)
 have e:callSpecialIfBound? (.ref a) (Str.ofString "__lt__") [.ref b]=ltQ a b:=by unfold ltQ; rw [Fast.te5748314443788414978]
 show wpAny _ _ (callSpecialIfBound? (.ref a) (Str.ofString "__lt__") [.ref b]>>=_) _ _ _
 rw [e]
 refine wpAny_bind (wpAny_mono z (fun r s' hr=>?_) fun zz zz q=>q.elim)
 refine x2 hr fun hr X=>?_
 subst hr
 exact wpAny_truthy_bool (hQ s' X)
end
theorem apart1_mem {o:Obj} {D:List (Nat×Obj)} (h:apart1 o D=true) {y:Nat×Obj} (hy:y∈D):kne o.cls y.2.cls=true:=by
 refine x1 (List.getElem?_of_mem hy) fun i hi=>?_
 exact apart1_at h i y hi
theorem kK_noL (p:CkP) (x:CkX):apart1 (listO #[] 0) (kK p x)=true:=by kernel_rfl
theorem dK_noL (p:DkP) (x:CkX):apart1 (listO #[] 0) (dK p x)=true:=by kernel_rfl
theorem noL_ext {lo:Nat} {mu:Nat→Prop} {sh sh':Shared} {D:List (Nat×Obj)} (F:Facts lo sh D) (h:apart1 (listO #[] 0) D=true) (X:Ext mu sh sh') (hm: ∀ b o,mu b→sh.heap.get? b=some o→o.cls= .type "list"):Facts lo sh' D:=
 F.ext X fun y hy q=>by
  have e:=hm _ _ q (F.at0 hy).1
  have:=apart1_mem h hy
  rw [e] at this
  have e2:kne (listO #[] 0).cls (Value.type "list")=false:=kne_self _
  rw [e2] at this
  cases this
theorem KAt.ext {prog:Program} {w:World} {sh sh':Shared} {c:Nat} {mu:Nat→Prop} (H:KAt prog w sh c) (X:Ext mu sh sh') (hm: ∀ b o,mu b→sh.heap.get? b=some o→o.cls= .type "list"):KAt prog w sh' c:=by
 cases H with
 | one p x e1 e2 e3 F=>exact .one p x e1 e2 e3 (noL_ext F (kK_noL p x) X hm)
 | two p x e1 e2 e3 F=>exact .two p x e1 e2 e3 (noL_ext F (dK_noL p x) X hm)
noncomputable def KIns (prog:Program) (w:World) (c:Nat) (rf:Nat→Nat) (s:Shared) (i:Nat) (k:Value):Prop:=∃ x d,k= .ref x∧277≤x∧s.heap.get? x=some (insO c d (rf i))∧KAt prog w s c
theorem KIns.stable {prog:Program} {w:World} {c:Nat} {rf:Nat→Nat} (s s':Shared) (mu:Nat→Prop) (i:Nat) (k:Value) (H:KIns prog w c rf s i k) (X:Ext mu s s') (hm: ∀ b o,mu b→s.heap.get? b=some o→o.cls= .type "list"):KIns prog w c rf s' i k:=by
 refine x15 H fun x d e h1 h2 h3=>?_; clear H
 exact ⟨x,d,e,h1,X.keep _ _ h2 fun q=>(by have z:=hm _ _ q h2; cases z),h3.ext X hm⟩
section
variable {prog:Program} {w:World} {A:Around} {sh:Shared} {c:Nat} {rf:Nat→Nat} {vs:List Value}
theorem kins_kind {s:Shared} {keys:Array Value} {Q:SortKind→Shared→Prop} {E:Value→Shared→Prop} (h2:2≤keys.size) (hk: ∀ i k,keys[i]? =some k→KIns prog w c rf s i k) (hq:Q oneType' s):wpAny (model prog w) A (keyKind' keys) Q E s:=by
 have e:keys=keys.toList.toArray:=by rw [Array.toArray_toList]
 rw [e]
 refine kas_kind (T:=.ref c) (by rw [Array.length_toList]; exact h2) (fun v hv=>?_) (by rfl) (by simp) hq
 refine x1 (List.getElem?_of_mem hv) fun i hi=>?_
 refine x15 (hk i v (by simpa using hi)) fun x d hr1 zz ho zz=>?_; subst hr1
 exact (Looks.ld ho).andThen .now
end
theorem kK_k2 (p:CkP) (x:CkX) (a b:CkI):kinds2 (kK p x) [(a.i,insO (x.K+279) a.d a.v),(b.i,insO (x.K+279) b.d b.v)]=true:=by kernel_rfl
theorem kK_k1 (p:CkP) (x:CkX) (a:CkI):kinds2 (kK p x) [(a.i,insO (x.K+279) a.d a.v)]=true:=by kernel_rfl
theorem dK_k2 (p:DkP) (x:CkX) (a b:CkI):kinds2 (dK p x) [(a.i,insO (x.K+279) a.d a.v),(b.i,insO (x.K+279) b.d b.v)]=true:=by kernel_rfl
theorem dK_k1 (p:DkP) (x:CkX) (a:CkI):kinds2 (dK p x) [(a.i,insO (x.K+279) a.d a.v)]=true:=by kernel_rfl
section
variable {prog:Program} {w:World} {A:Around} {sh:Shared}
theorem kins_lt {c x y d e u v:Nat} {o:Ordering} {Q:Bool→Shared→Prop} {E:Value→Shared→Prop} (Rm:Room 2 A) (T:Top w sh) (H:KAt prog w sh c) (hx:sh.heap.get? x=some (insO c d u)) (lx:277≤x) (hy:sh.heap.get? y=some (insO c e v)) (ly:277≤y)
  (C:Cmp prog w sh u v o 1) (hQ: ∀ s',Ext none_ sh s'→Q (ansB o) s'):wpAny (model prog w) A (keyLt' oneType' (.ref x) (.ref y)) Q E sh:=by
 by_cases q:x=y
 ·subst q
  rw [hx] at hy
  have:u=v:=by
   have:=Option.some.inj hy
   simp only [insO,Obj.mk.injEq] at this
   have z:=this.2.2.2
   simp at z
   exact z
  subst this
  cases H with
  | one p z e1 e2 e3 F=>
   subst e1 e3
   have G:Facts 277 sh [(x,insO (z.K+279) d u)]:=.cons hx lx (fun i x h=>by simp at h) .nil
   refine lt_tree (hs:=hKs0) (o:=o) (Rm.mono (by decide)) T (G.append F (kinds2_ne F G (kK_k1 p z ⟨x,d,u⟩))) (fun K t hK=>?_) hQ
   have f:=ksF p z ⟨x,d,u⟩ K t
   have e:sim ⟨p.prog,w.params,Mine.kt w.params,none⟩ 300 (.top none) (PySem.W.R.bindR (ltQ x x) fun r=>.pure (.done (fl1 r))) hKs0 ⟨kD1 p z ⟨x,d,u⟩,K+278,0,t+849,0,[]⟩=ksR p z ⟨x,d,u⟩ K t:=by unfold ksR runQ; rw [e2]
   have f':klT (kD1 p z ⟨x,d,u⟩) js9 (ksR p z ⟨x,d,u⟩ K t) u u:=f
   rw [←e] at f'
   exact kl_end Rm T (G.append F (kinds2_ne F G (kK_k1 p z ⟨x,d,u⟩))) f' C
  | two p z e1 e2 e3 F=>
   subst e1 e3
   have G:Facts 277 sh [(x,insO (z.K+279) d u)]:=.cons hx lx (fun i x h=>by simp at h) .nil
   refine lt_tree (hs:=hKs0) (o:=o) (Rm.mono (by decide)) T (G.append F (kinds2_ne F G (dK_k1 p z ⟨x,d,u⟩))) (fun K t hK=>?_) hQ
   have f:=dtF p z ⟨x,d,u⟩ K t
   have e:sim ⟨p.p.prog,w.params,Mine.kt w.params,none⟩ 300 (.top none) (PySem.W.R.bindR (ltQ x x) fun r=>.pure (.done (fl1 r))) hKs0 ⟨dD1 p z ⟨x,d,u⟩,K+278,0,t+849,0,[]⟩=dtR p z ⟨x,d,u⟩ K t:=by unfold dtR runQ; rw [e2]
   have f':klT (dD1 p z ⟨x,d,u⟩) js9 (dtR p z ⟨x,d,u⟩ K t) u u:=f
   rw [←e] at f'
   exact kl_end Rm T (G.append F (kinds2_ne F G (dK_k1 p z ⟨x,d,u⟩))) f' C
 ·cases H with
  | one p z e1 e2 e3 Fk=>
   subst e1 e3
   have G:Facts 277 sh [(x,insO (z.K+279) d u),(y,insO (z.K+279) e v)]:=.cons hx lx (fun i k h=>by
    have:=List.mem_of_getElem? h
    rw [List.mem_singleton.mp this]; exact Ne.symm q) (.cons hy ly (fun i x h=>by simp at h) .nil)
   refine lt_tree (hs:=hKl0) (o:=o) (Rm.mono (by decide)) T (G.append Fk (kinds2_ne Fk G (kK_k2 p z ⟨x,d,u⟩ ⟨y,e,v⟩))) (fun K t hK=>?_) hQ
   have f:=klF p z ⟨x,d,u⟩ ⟨y,e,v⟩ K t
   have e:sim ⟨p.prog,w.params,Mine.kt w.params,none⟩ 300 (.top none) (PySem.W.R.bindR (ltQ x y) fun r=>.pure (.done (fl1 r))) hKl0 ⟨kD2 p z ⟨x,d,u⟩ ⟨y,e,v⟩,K+278,0,t+849,0,[]⟩=klR p z ⟨x,d,u⟩ ⟨y,e,v⟩ K t:=by unfold klR runQ; rw [e2]
   have f':klT (kD2 p z ⟨x,d,u⟩ ⟨y,_,v⟩) js10 (klR p z ⟨x,d,u⟩ ⟨y,_,v⟩ K t) u v:=f
   rw [←e] at f'
   exact kl_end Rm T (G.append Fk (kinds2_ne Fk G (kK_k2 p z ⟨x,d,u⟩ ⟨y,_,v⟩))) f' C
  | two p z e1 e2 e3 Fk=>
   subst e1 e3
   have G:Facts 277 sh [(x,insO (z.K+279) d u),(y,insO (z.K+279) e v)]:=.cons hx lx (fun i k h=>by
    have:=List.mem_of_getElem? h
    rw [List.mem_singleton.mp this]; exact Ne.symm q) (.cons hy ly (fun i x h=>by simp at h) .nil)
   refine lt_tree (hs:=hKl0) (o:=o) (Rm.mono (by decide)) T (G.append Fk (kinds2_ne Fk G (dK_k2 p z ⟨x,d,u⟩ ⟨y,e,v⟩))) (fun K t hK=>?_) hQ
   have f:=dlF p z ⟨x,d,u⟩ ⟨y,e,v⟩ K t
   have e:sim ⟨p.p.prog,w.params,Mine.kt w.params,none⟩ 300 (.top none) (PySem.W.R.bindR (ltQ x y) fun r=>.pure (.done (fl1 r))) hKl0 ⟨dD2 p z ⟨x,d,u⟩ ⟨y,e,v⟩,K+278,0,t+849,0,[]⟩=dlR p z ⟨x,d,u⟩ ⟨y,e,v⟩ K t:=by unfold dlR runQ; rw [e2]
   have f':klT (dD2 p z ⟨x,d,u⟩ ⟨y,_,v⟩) js10 (dlR p z ⟨x,d,u⟩ ⟨y,_,v⟩ K t) u v:=f
   rw [←e] at f'
   exact kl_end Rm T (G.append Fk (kinds2_ne Fk G (dK_k2 p z ⟨x,d,u⟩ ⟨y,_,v⟩))) f' C
end
section
variable {prog:Program} {w:World} {A:Around} {sh:Shared} {c:Nat} {rf:Nat→Nat} {vs:List Value}
theorem kcmp_ok {lt:Nat→Nat→Bool} (Rm:Room 3 A) (T:Top w sh) (H:KAt prog w sh c) (hv: ∀ i v,vs[i]? =some v→v=Value.ref (rf i))
  (C: ∀ i j,i<vs.length→j<vs.length→∃ o,ansB o=lt i j∧∀ s,Ext none_ sh s→Cmp prog w s (rf i) (rf j) o 1):
  SortOk (model prog w) A (.ref c) vs lt oneType' sh (KIns prog w c rf):=by
 refine ⟨fun s s' mu i k h X hm=>KIns.stable s s' mu i k h X hm,?_,?_,?_⟩
 ·intro i v s hi X
  have Ts:Top w s:=T.ext X fun zz q=>q.elim
  have Hs:KAt prog w s c:=H.ext X fun zz zz q=>q.elim
  rw [hv i v hi]
  refine wpAny_call (codeAny_mono (ki_spec (Rm.mono (by decide)) Ts Hs (rf i)) fun r s' hr=>?_)
  refine x29 hr fun x d hr1 h1 zz h2 X2=>?_; clear hr; subst hr1
  exact ⟨X2,x,d,rfl,h1,h2,Hs.ext X2 fun zz zz q=>q.elim⟩
 ·intro s keys Q E h2 X hs hk hq
  exact kins_kind (by lia) hk hq
 ·rintro i j ki kj s hi hj ⟨x,d,rfl,lx,hx,Hs⟩ ⟨y,e,rfl,ly,hy,_⟩ X
  refine x0 (C i j hi hj) fun o ho hC=>?_
  have Ts:Top w s:=T.ext X fun zz q=>q.elim
  exact kins_lt (Rm.mono (by decide)) Ts Hs hx lx hy ly (hC s X) fun s' X'=>⟨ho,X'⟩
end
end Mine
namespace Mine
open PySem PySem.W PySem.W.X
noncomputable def cmpS (a b:Str):Ordering:=if a.cps.toList<b.cps.toList then .lt else if b.cps.toList<a.cps.toList then .gt else .eq
structure CmP where
 prog:Program
 P:Params
 u:Nat
 v:Nat
 k1:Str
 t1:Nat
 v1:Str
 s1:Nat
 k2:Str
 t2:Nat
 v2:Str
 s2:Nat
noncomputable def cmC (u v:Nat):Code:=.call (.ref 271) ⟨[.ref u,.ref v],[]⟩
noncomputable def cmD (p:CmP):List (Nat×Obj):= [(p.u,tupO [.str p.k1 p.t1,.str p.v1 p.s1]),(p.v,tupO [.str p.k2 p.t2,.str p.v2 p.s2])]
noncomputable def cmD1 (p:CmP):List (Nat×Obj):= [(p.u,tupO [.str p.k1 p.t1,.str p.v1 p.s1])]
noncomputable def hM1 (f:Nat):List Nat:= [0,0,f,f,f,f,0,0,f,1,1,1,0,1,0,1,1]
noncomputable def hM2 (f g:Nat):List Nat:= [f,g,g,g,0,g,0,g,1]
noncomputable def hM3 (f:Nat):List Nat:= [0,0,0,0,f,1,1,1,0,1,0,1,1]
noncomputable def hM5:List Nat:= [0,0,0,0,0,0]
noncomputable def tokJ:Result→Nat
 | .ok (.ret (.int _ t))=>t
 | _=>0
noncomputable def cmLow (k:Str) (t:Nat) (a:Str) (hs:List Nat) (P:Nat→Rs→Prop):Rs→Prop:=
 CCall (X:=Nat) (fun zz=>lowerC k t) (fun zz=>True) (fun t=>.ok (.ret (.str a t))) [] (fun zz=> []) hs P
noncomputable instance cmLow.rf {k:Str} {t:Nat} {a:Str} {hs:List Nat} {P:Nat→Rs→Prop} {R:Rs} [∀ y1 y2,Rf (P y1 y2)]:Rf (cmLow k t a hs P R):=by
 delta cmLow; infer_instance
noncomputable def cmT (D:List (Nat×Obj)) (k1:Str) (t1:Nat) (k2:Str) (t2:Nat) (f g:Nat) (cs:List Bool) (a b:Str):Rs→Prop:=
 cmLow k1 t1 a (hM2 f g) fun zz=>cmLow k2 t2 b (hM3 f) fun zz=>cmLow k1 t1 a (hM2 f g) fun zz=>cmLow k2 t2 b hM5 fun zz R=>
  CEnd (.ok (.ret (.int (ansI (cmpS a b)) (tokJ (resOf R))))) (fun s=>keepD cs s.D=D) R
noncomputable instance cmT.rf {D:List (Nat×Obj)} {k1:Str} {t1:Nat} {k2:Str} {t2:Nat} {f g:Nat} {cs:List Bool} {a b:Str} {R:Rs} :Rf (cmT D k1 t1 k2 t2 f g cs a b R):=by
 delta cmT; infer_instance
noncomputable abbrev cmR (p:CmP) (P:Params) (K t:Nat):Rs:=runC p.prog P 200 (cmC p.u p.v) (hM1 3) (cmD p) K t
noncomputable abbrev cmR1 (p:CmP) (P:Params) (K t:Nat):Rs:=runC p.prog P 200 (cmC p.u p.u) (hM1 2) (cmD1 p) K t
theorem cmT_0 (p:CmP) {a b:Str} (ha:a∈lows5) (hb:b∈lows5) (K t:Nat):cmT (cmD p) p.k1 p.t1 p.k2 p.t2 3 2 [false,false] a b (cmR p p.P K t):=
 pset1 (X:=fun P=>cmT (cmD p) p.k1 p.t1 p.k2 p.t2 3 2 [false,false] a b (cmR p P K t)) (by intro b1; revert b; revert a; exact @Rf.prove _ _ (by kernel_rfl))
theorem cmT_1 (p:CmP) {a:Str} (ha:a∈lows5) (K t:Nat):cmT (cmD1 p) p.k1 p.t1 p.k1 p.t1 2 1 [false] a a (cmR1 p p.P K t):=
 pset1 (X:=fun P=>cmT (cmD1 p) p.k1 p.t1 p.k1 p.t1 2 1 [false] a a (cmR1 p P K t)) (by intro b1; revert a; exact @Rf.prove _ _ (by kernel_rfl))
section
variable {prog:Program} {w:World} {A:Around} {sh:Shared}
theorem cm_end {D:List (Nat×Obj)} {k1 k2:Str} {t1 t2 f g:Nat} {cs:List Bool} {R:Rs} (Rm:Room 1 A) (T:Top w sh) (F:Facts 277 sh D) (n1:k1∈names9) (n2:k2∈names9) (hc:keepD cs D=D) (hn: ∀ b,¬ chD cs D b) (q:cmT D k1 t1 k2 t2 f g cs (lowS k1) (lowS k2) R):
  Ok (sv prog w A (fun r sh'=>(∃ tz,r= .ok (.ret (.int (ansI (cmpS (lowS k1) (lowS k2))) tz)))∧Ext none_ sh sh') sh.heap (inD D) sh.os sh.toks) R:=by
 unfold cmT cmLow at q
 have low: ∀ {k:Str} {t:Nat} (sh1:Shared) (B:Around) (s:St),k∈names9→Top w sh1→Room 0 B→codeAny (model prog w) B (lowerC k t) (fun r' sh'=>∃ x:Nat,r'= .ok (.ret (.str (lowS k) x))∧True∧Ext (chA [] s.D) sh1 sh'∧Facts sh1.heap.objs.size sh' []) sh1:=by
  intro k t sh1 B s h T1 RB
  refine codeAny_mono (lower_spec h T1 RB t) fun r' sh' hq=>x0 hq fun t' h1 h2=>⟨t',h1,trivial,h2.weak fun b hb=>hb.elim,.nil⟩
 refine CCall.ok (fun zz=>True) q Rm T.size (fun s sh1 B zz S T1 RB=>low sh1 B s n1 T1 RB) fun x1 R' zz q=>?_
 refine CCall.ok (fun zz=>True) q Rm T.size (fun s sh1 B zz S T1 RB=>low sh1 B s n2 T1 RB) fun x2 R' zz q=>?_
 refine CCall.ok (fun zz=>True) q Rm T.size (fun s sh1 B zz S T1 RB=>low sh1 B s n1 T1 RB) fun x3 R' zz q=>?_
 refine CCall.ok (fun zz=>True) q Rm T.size (fun s sh1 B zz S T1 RB=>low sh1 B s n2 T1 RB) fun x4 R' zz q=>?_
 refine CEnd.ok q fun sh' q S=>?_
 refine ⟨⟨_,rfl⟩,?_⟩
 refine (S.only (sh:=sh) rfl rfl rfl F (cs:=cs) (q.trans hc.symm)).weak fun b h=>hn b h
theorem compared_spec (Rm:Room 1 A) (T:Top w sh) {u v:Nat} {r1 r2:Row} (h1:RowAt sh u r1) (h2:RowAt sh v r2) (o1:OkRow r1) (o2:OkRow r2):
  codeAny (model prog w) A (cmC u v) (fun r sh'=>(∃ tz,r= .ok (.ret (.int (ansI (cmpS (lowS r1.1) (lowS r2.1))) tz)))∧Ext none_ sh sh') sh:=by
 refine x11 h1 fun l1 t1 s1 g1=>?_; clear h1
 refine x11 h2 fun l2 t2 s2 g2=>?_; clear h2
 let p:CmP:=⟨prog,w.params,u,v,r1.1,t1,r1.2,s1,r2.1,t2,r2.2,s2⟩
 have m1:=names7_9 o1.1
 have m2:=names7_9 o2.1
 by_cases e:u=v
 ·subst e
  have er:r2.1=r1.1:=by
   rw [g1] at g2
   have:=congrArg (fun o=>seqOf o) (Option.some.inj g2)
   have: [Value.str r1.1 t1,.str r1.2 s1]= [Value.str r2.1 t2,.str r2.2 s2]:=this
   injection this with a _
   injection a with a _
   exact a.symm
  rw [er]
  have F:Facts 277 sh (cmD1 p):=.cons g1 l1 ne_nil .nil
  refine walk_code T Rm rfl F 200 (hM1 2) fun K t hK=>?_
  have q:=cmT_1 p (low_names9 m1) K t
  revert q
  show cmT (cmD1 p) r1.1 t1 r1.1 t1 2 1 [false] _ _ (runC prog w.params 200 (cmC u u) (hM1 2) (cmD1 p) K t)→_
  generalize runC prog w.params 200 (cmC u u) (hM1 2) (cmD1 p) K t=R
  intro q
  exact cm_end (D:=cmD1 p) (cs:= [false]) Rm T F m1 m1 rfl (fun b h=>h) q
 ·have F:Facts 277 sh (cmD p):=.cons g1 l1 (ne_cons (Ne.symm e) ne_nil) (.cons g2 l2 ne_nil .nil)
  refine walk_code T Rm rfl F 200 (hM1 3) fun K t hK=>?_
  have q:=cmT_0 p (low_names9 m1) (low_names9 m2) K t
  revert q
  show cmT (cmD p) r1.1 t1 r2.1 t2 3 2 [false,false] _ _ (runC prog w.params 200 (cmC u v) (hM1 3) (cmD p) K t)→_
  generalize runC prog w.params 200 (cmC u v) (hM1 3) (cmD p) K t=R
  intro q
  exact cm_end (D:=cmD p) (cs:= [false,false]) Rm T F m1 m2 rfl (fun b h=>h) q
theorem ansB_cmp (a b:Str):ansB (cmpS a b)=decide (a.cps.toList<b.cps.toList):=by
 unfold cmpS
 split
 ·simp [ansB, *]
 ·split<;>simp [ansB, *]
end
end Mine
namespace Mine
open PySem PySem.W PySem.W.X PyProof.Rows PySem.Calls
noncomputable section
noncomputable def lawFor:ForP:=forP (nthS (fn 26).body 3)
structure LamF where
 args:Arguments
 body:Expr
 scope:Scope
noncomputable def kwV:Expr→Expr
 | .Call _ _ ks _=>match ks with
  | []=>.Constant .none 0 ⟨0,0,0,0⟩
  | k::_=>k.value
 | _=>.Constant .none 0 ⟨0,0,0,0⟩
noncomputable def lamOf:Expr→LamF
 | .Lambda a b s _=>⟨a,b,s⟩
 | _=>⟨⟨[],[],none,[],[],none,[]⟩,.Constant .none 0 ⟨0,0,0,0⟩,⟨.function,[],false,false,[]⟩⟩
noncomputable def lawLam:LamF:=lamOf (kwV (asgV (nthS lawFor.body 2)))
noncomputable abbrev qLam:Str:=Str.ofString "law.<locals>.<lambda>"
noncomputable def lamO (ct cd clo:Nat):Obj:= {cls:=.type "function",data:=.func ⟨Str.ofString "<lambda>",qLam,lawLam.args,.expr lawLam.body,lawLam.scope,3,[(Str.ofString "told",ct)],.none,.none,.none,.str (Str.ofString "law_ik0055_01") 792,none,.ref cd,.ref clo,0⟩}
end
noncomputable def lcO (v0:Value) (t:Nat) (vs:List Value):Obj:= {cls:=.type "code",data:=.fields (List.toArray (v0:: .str qLam t::vs))}
structure LmP where
 prog:Program
 P:Params
 lf:Nat
 i:Nat
 ti:Nat
 ct:Nat
 cd:Nat
 clo:Nat
 v0:Value
 t1:Nat
 vs:List Value
 tl:Nat
 n:Nat
 xs:Array Value
 a:Nat
 k:Str
 tk:Nat
 v:Str
 tv:Nat
noncomputable def lmD (p:LmP):List (Nat×Obj):= [(p.lf,lamO p.ct p.cd p.clo),(p.cd,lcO p.v0 p.t1 p.vs),(p.ct,cellO (.ref p.tl)),(p.tl,listO p.xs p.n),(p.a,tupO [.str p.k p.tk,.str p.v p.tv])]
noncomputable def lmC (lf i ti:Nat):Code:=.call (.ref lf) ⟨[.int (Int.ofNat i) ti],[]⟩
noncomputable def lmT (p:LmP):Rs→Prop:=
 CRd (getC p.tl p.i p.ti) [3] [(p.tl,listO p.xs p.n)] (.ok (.ret (.ref p.a))) [5,5,5,0,5,0,5,0,1]<|
 CCall (X:=Nat) (fun zz=>lowerC p.k p.tk) (fun zz=>True) (fun t=>.ok (.ret (.str (lowS p.k) t))) [] (fun zz=> []) [6] fun t R=>
  CEnd (.ok (.ret (.ref (aOf (stOf R) 6)))) (fun s=>pick [6] s.D= [(aOf s 6,tupO [.str (lowS p.k) t,.int (Int.ofNat p.i) p.ti])]∧keepD [false,false,false,false,false] s.D=lmD p) R
noncomputable instance lmT.rf {p:LmP} {R:Rs} :Rf (lmT p R):=by
 delta lmT; infer_instance
noncomputable abbrev lmRun (p:LmP) (P:Params) (K t:Nat):Rs:=runC p.prog P 100 (lmC p.lf p.i p.ti) [1,2,6,6,0,0,3,6,4,4,4,1] (lmD p) K t
theorem lmT_0 (p:LmP) (K t:Nat):lmT p (lmRun p p.P K t):=pset1 (X:=fun P=>lmT p (lmRun p P K t)) (by intro b1; exact Rf.prove _ (by kernel_rfl))
structure LamAt (sh:Shared) (lf ct cd clo:Nat) (v0:Value) (t1:Nat) (vs:List Value) (tl n:Nat) (refs:List Nat):Prop where
 f:sh.heap.get? lf=some (lamO ct cd clo)
 c:sh.heap.get? cd=some (lcO v0 t1 vs)
 ce:sh.heap.get? ct=some (cellO (.ref tl))
 l:sh.heap.get? tl=some (listO (refsA refs) n)
 fL:277≤lf
 cL:277≤cd
 ceL:277≤ct
 lL:277≤tl
theorem LamAt.ext {sh sh':Shared} {lf ct cd clo:Nat} {v0:Value} {t1:Nat} {vs:List Value} {tl n:Nat} {refs:List Nat} (H:LamAt sh lf ct cd clo v0 t1 vs tl n refs) (X:Ext none_ sh sh'):LamAt sh' lf ct cd clo v0 t1 vs tl n refs:=
 ⟨X.keep _ _ H.f id,X.keep _ _ H.c id,X.keep _ _ H.ce id,X.keep _ _ H.l id,H.fL,H.cL,H.ceL,H.lL⟩
noncomputable def nmL (rows:List Row) (i:Nat):Str:=match rows[i]? with
 | some r=>lowS r.1
 | none=>⟨#[]⟩
section
variable {prog:Program} {w:World} {A:Around} {sh:Shared}
theorem lam_spec {lf ct cd clo:Nat} {v0:Value} {t1:Nat} {vs:List Value} {tl n:Nat} {refs:List Nat} {rows:List Row} (Rm:Room 1 A) (T:Top w sh) (H:LamAt sh lf ct cd clo v0 t1 vs tl n refs) (hr:RowsAt sh refs rows) (ok: ∀ r∈rows,OkRow r) (len:rows.length≤100) {i:Nat} (hi:i<rows.length) (ti:Nat):
  codeAny (model prog w) A (lmC lf i ti) (fun r sh'=>∃ x,r= .ok (.ret (.ref x))∧Ext none_ sh sh'∧KTup (nmL rows) sh' i (.ref x)) sh:=by
 obtain ⟨a,ha⟩: ∃ a,refs[i]? =some a:=⟨refs[i]'(by rw [hr.length]; exact hi),by simp⟩
 refine x0 (hr.get ha) fun r hri hra=>?_
 refine x11 hra fun g1 tk tv g2=>?_; clear hra
 let p:LmP:=⟨prog,w.params,lf,i,ti,ct,cd,clo,v0,t1,vs,tl,n,refsA refs,a,r.1,tk,r.2,tv⟩
 have F:Facts 277 sh (lmD p):=.of ⟨⟨H.f,H.fL⟩,⟨H.c,H.cL⟩,⟨H.ce,H.ceL⟩,⟨H.l,H.lL⟩,⟨g2,g1⟩,trivial⟩ (by kernel_rfl)
 refine walk_code T Rm rfl F 100 [1,2,6,6,0,0,3,6,4,4,4,1] fun K t hK=>?_
 have q:=lmT_0 p K t
 revert q
 show lmT p (runC prog w.params 100 (lmC lf i ti) [1,2,6,6,0,0,3,6,4,4,4,1] (lmD p) K t)→_
 generalize runC prog w.params 100 (lmC lf i ti) [1,2,6,6,0,0,3,6,4,4,4,1] (lmD p) K t=R
 intro q
 have hx:(refsA refs)[i]? =some (.ref a):=refsA_get ha
 refine CRd.ok q Rm T.size (fun sh1 B O T2 RB=>getitem_spec ti T2.gens T2.toks O.1.1 (by show i≤1000; lia) hx) fun R' q=>?_
 have ho:=ok r (List.mem_of_getElem? hri)
 refine CCall.ok (fun zz=>True) q Rm T.size (fun s sh1 B zz S T1 RB=>?_) fun x1 R' zz q=>?_
 ·exact codeAny_mono (lower_spec (names7_9 ho.1) T1 RB tk) fun r' sh' hq=>x0 hq fun t' h1 h2=>⟨t',h1,trivial,h2.weak fun b hb=>hb.elim,.nil⟩
 refine CEnd.ok q fun sh' q S=>?_
 refine x2 q fun q1 q2=>?_; clear q
 refine x3 (S.all0 q1) fun o1 zz zz=>?_
 refine ⟨_,rfl,(S.only (sh:=sh) (cs:= [false,false,false,false,false]) rfl rfl rfl F (q2.trans rfl)).weak fun b h=>h,_,x1,ti,rfl,?_⟩
 have:nmL rows i=lowS r.1:=by unfold nmL; rw [hri]
 rw [this]
 exact o1
theorem sort_lam {lf ct cd clo:Nat} {v0:Value} {t1:Nat} {cvs:List Value} {tl n:Nat} {refs:List Nat} {rows:List Row} {r t u v:Nat} (Rm:Room 3 A) (T:Top w sh) (H:LamAt sh lf ct cd clo v0 t1 cvs tl n refs) (hr:RowsAt sh refs rows) (ok: ∀ r∈rows,OkRow r) (len:rows.length<64)
  (hrg:sh.heap.get? r=some (rangeO rows.length t u v)):
  codeAny (model prog w) A (.call (.builtin "sorted") ⟨[.ref r],[(Str.ofString "key",.ref lf)]⟩) (fun r s'=>∃ D ys c,r= .ok (.ret (.ref D))∧sh.heap.objs.size≤D∧Ext none_ sh s'∧s'.heap.get? D=some (listO ys c)∧IsInts ys (orderOf (ltI (nmL rows)) rows.length)) sh:=by
 have R2:Room 2 A.in1.in1:=Rm.down Rm.handled (by show A.depth≤A.depth+50; lia) (by show A.units+1+1≤A.units+100; lia)
 refine codeAny_mono (R:=fun r s'=>∃ vs,IsInts vs.toArray (List.range rows.length)∧SortedTo_ sh vs (ltI (nmL rows)) r s') (sorted_specP (Pv:=fun vs=>IsInts vs.toArray (List.range rows.length)) (κ:=tuples' true) (KP:=KTup (nmL rows)) (ltI_weak _) (fun vs hv=>?_) (fun vs hv=>?_) fun Q E h=>?_) fun r' s' hq=>?_
 ·refine tup_ok fun i v s hi X=>?_
  have hi':i<rows.length:=by
   have e:=hv.size
   simp only [List.size_toArray,List.length_range] at e
   rw [←e]
   rcases Nat.lt_or_ge i vs.length with q | q
   ·exact q
   ·rw [List.getElem?_eq_none q] at hi; cases hi
  refine x1 (hv.get (i:=i) (k:=i) (by simp [hi'])) fun ti hti=>?_
  have:v= .int (Int.ofNat i) ti:=by
   simp only [List.getElem?_toArray] at hti
   rw [hi] at hti
   exact Option.some.inj hti
  subst this
  refine wpAny_call (codeAny_mono (lam_spec (R2.mono (by decide)) (T.ext X fun zz q=>q.elim) (H.ext X) (hr.ext0 X) ok (by lia) hi' ti) fun r' s' hq=>?_)
  refine x5 hq fun x hr1 h1 h2=>?_; clear hq; subst hr1
  exact ⟨h1,h2⟩
 ·have e:=hv.size
  simp only [List.size_toArray,List.length_range] at e
  lia
 ·exact col_range T.gens T.toks (Rm.handled) hrg (by lia) fun vs s' h1 h2=>h vs s' h1 h2
 ·refine x61 hq fun vs hv D c h1 h2 h3 h4=>?_; clear hq
  have e:=hv.size
  simp only [List.size_toArray,List.length_range] at e
  rw [e] at h4
  refine ⟨D,_,c,h1,h2,h3,h4,?_⟩
  have key: ∀ l:List Nat,(∀ i∈l,i<rows.length)→IsInts ((l.map fun i=>vs.getD i Value.none).toArray) l:=by
   intro l
   induction l with
   | nil=>intro _; exact ⟨[],rfl,rfl⟩
   | cons i l ih=>
    intro hl
    refine x0 (ih fun j hj=>hl j (List.mem_cons_of_mem _ hj)) fun ps h5 h6=>?_
    have hi:=hl i List.mem_cons_self
    refine x1 (hv.get (i:=i) (k:=i) (by simp [hi])) fun ti hti=>?_
    refine ⟨(i,ti)::ps,?_,by rw [List.map_cons,h6]⟩
    have:vs.getD i Value.none= .int (Int.ofNat i) ti:=by
     simp only [List.getElem?_toArray] at hti
     simp [List.getD,hti]
    rw [List.map_cons,this]
    have h5':=congrArg Array.toList h5
    simp only [List.toList_toArray] at h5'
    rw [h5']
    rfl
  exact key _ fun i hi=>orderOf_lt (ltI_weak _) hi
end
section
variable {prog:Program} {w:World} {A:Around} {sh:Shared}
theorem sort_k {c l n:Nat} {refs:List Nat} {rows:List Row} (Rm:Room 4 A) (T:Top w sh) (H:KAt prog w sh c) (hl:sh.heap.get? l=some (listO (refsA refs) n)) (hr:RowsAt sh refs rows) (ok: ∀ r∈rows,OkRow r) (len:rows.length<64):
  codeAny (model prog w) A (.call (.builtin "sorted") ⟨[.ref l],[(Str.ofString "key",.ref c)]⟩) (fun r s'=>∃ D m,r= .ok (.ret (.ref D))∧sh.heap.objs.size≤D∧Ext none_ sh s'∧s'.heap.get? D=some (listO (refsA ((orderOf (ltN (nmL rows)) rows.length).map fun i=>refs.getD i 0)) m)) sh:=by
 have R3:Room 3 A.in1.in1:=Rm.down Rm.handled (by show A.depth≤A.depth+50; lia) (by show A.units+1+1≤A.units+100; lia)
 have lr:=hr.length
 refine codeAny_mono (sorted_spec (prog:=prog) (w:=w) (A:=A) (sh:=sh) (q:=c) (x:=.ref l) (vs:=refs.map Value.ref) (lt:=ltN (nmL rows)) (κ:=oneType') (KP:=KIns prog w c fun i=>refs.getD i 0) (ltN_weak _) (kcmp_ok R3 T H (fun i v hi=>?_) fun i j hi hj=>⟨cmpS (nmL rows i) (nmL rows j),ansB_cmp _ _,fun s X B sh1 RB T1 X1=>?_⟩) (by rw [List.length_map,lr]; exact len) fun Q E h=>col_list T.gens T.toks hl (by rw [List.length_map,lr]; exact len) h) fun r s' hq=>?_
 ·rw [List.getElem?_map] at hi
  cases q:refs[i]? with
  | none=>rw [q] at hi; cases hi
  | some a=>rw [q] at hi; simp [List.getD,q]; exact (Option.some.inj hi).symm
 ·rw [List.length_map] at hi hj
  have get: ∀ i,i<refs.length→∃ r,rows[i]? =some r∧nmL rows i=lowS r.1∧RowAt sh1 (refs.getD i 0) r:=fun i hi=>by
   have ha:refs[i]? =some (refs.getD i 0):=by simp [List.getD,hi]
   refine x0 (hr.get ha) fun r h1 h2=>?_
   exact ⟨r,h1,by unfold nmL; rw [h1],(h2.ext X id).ext X1 id⟩
  refine x5 (get i hi) fun r1 a1 a2 a3=>?_
  refine x5 (get j hj) fun r2 b1 b2 b3=>?_
  rw [a2,b2]
  exact compared_spec RB T1 a3 b3 (ok _ (List.mem_of_getElem? a1)) (ok _ (List.mem_of_getElem? b1))
 ·refine x15 hq fun D m h1 h2 h3 h4=>?_; clear hq
  refine ⟨D,m,h1,h2,h3,?_⟩
  rw [h4,List.length_map,lr]
  have: ∀ l:List Nat,(∀ i∈l,i<refs.length)→(l.map fun i=>(refs.map Value.ref).getD i Value.none)=(l.map fun i=>refs.getD i 0).map Value.ref:=by
   intro l
   induction l with
   | nil=>intro _; rfl
   | cons i l ih=>
    intro hl
    have hi:=hl i List.mem_cons_self
    rw [List.map_cons,List.map_cons,List.map_cons,ih fun j hj=>hl j (List.mem_cons_of_mem _ hj)]
    simp [List.getD,hi]
  rw [this _ fun i hi=>by rw [lr]; exact orderOf_lt (ltN_weak _) hi]
end
noncomputable def rowPD (r:Row):PyData:=.tuple [.str r.1,.str r.2]
theorem rows_reads {sh:Shared} : ∀ {refs:List Nat} {rows:List Row},RowsAt sh refs rows→∃ as,ReadsAll sh.heap (refs.map Value.ref) (rows.map rowPD) as
 | [],[],.nil=>⟨_,.nil⟩
 | a::l,r::rs,.cons h t=>by
  refine x1 (rows_reads t) fun as ih=>?_
  refine x11 h fun zz tk tv ho=>?_; clear h
  exact ⟨_,.cons (.tuple ho rfl rfl (.cons (.str _ _) (.cons (.str _ _) .nil))) ih⟩
theorem ok_str {r:Row} (h:OkRow r):PyData.strOk r.1=true∧PyData.strOk r.2=true:=by
 refine x2 h fun h1 h2=>?_; clear h
 simp only [names7,vals6,List.mem_cons,List.not_mem_nil,or_false] at h1 h2
 constructor
 ·rcases h1 with h | h | h | h | h | h | h<;>rw [h]<;>decide+kernel
 ·rcases h2 with h | h | h | h | h | h<;>rw [h]<;>decide+kernel
theorem rows_lay: ∀ rows:List Row,(∀ r∈rows,OkRow r)→PyData.canLayAll0 (rows.map rowPD)=true
 | [],_=>rfl
 | r::rs,h=>by simp [PyData.canLayAll0,PyData.canLay0,rows_lay rs fun x hx=>h x (List.mem_cons_of_mem _ hx),rowPD,ok_str (h r List.mem_cons_self)]
theorem rows_depth: ∀ rows:List Row,PyData.depthAll (rows.map rowPD)≤1
 | []=>by decide
 | r::rs=>by
  have:=rows_depth rs
  simp [PyData.depthAll,PyData.depth,rowPD]
  lia
theorem rows_shaped (rows:List Row) (ok: ∀ r∈rows,OkRow r):SeqAt.shaped (.list (rows.map rowPD))=true:=by
 have:=rows_depth rows
 simp [SeqAt.shaped,PyData.canLay0,PyData.depth,rows_lay rows ok]
 lia
theorem rows_same: ∀ rows:List Row,PySem.Spec.sameAll (rows.map rowPD) (rows.map rowPD)=true
 | []=>by simp [PySem.Spec.sameAll]
 | r::rs=>by simp [PySem.Spec.sameAll,PySem.Spec.same,rowPD,rows_same rs]
section
variable {prog:Program} {w:World} {A:Around} {sh:Shared} {Q:Value→Shared→Prop} {E:Value→Shared→Prop}
theorem wp_ne_rows {k a b m n:Nat} {refs refs':List Nat} {rows:List Row} (Rm:Room k A) (ha:sh.heap.get? a=some (listO (refsA refs) m)) (hb:sh.heap.get? b=some (listO (refsA refs') n)) (hr:RowsAt sh refs rows) (hr':RowsAt sh refs' rows) (ok: ∀ r∈rows,OkRow r) (h:Q (.bool false) sh):
  wpAny (model prog w) A (compareOp .NotEq (.ref a) (.ref b)) Q E sh:=by
 refine x1 (rows_reads hr) fun as h1=>?_
 refine x1 (rows_reads hr') fun bs h2=>?_
 have sh1:=rows_shaped rows ok
 have hs:(PySem.Spec.Shape.list (.tuple [.str,.str])).has (.list (rows.map rowPD))=true:=by
  show (rows.map rowPD).all _=true
  rw [List.all_eq_true]
  intro d hd
  refine x0 (List.mem_map.mp hd) fun r zz hr1=>?_; subst hr1
  rfl
 refine ne_dataH_same (da:=.list (rows.map rowPD)) (db:=.list (rows.map rowPD)) (.list ha rfl rfl (by simpa [refsA] using h1)) (.list hb rfl rfl (by simpa [refsA] using h2)) sh1 sh1 (by have:=Rm.units; lia) (SeqAt.noMix_of_shape (.list (.tuple [.str,.str])) rfl _ _ hs hs) ?_
 have e:PySem.Spec.same (.list (rows.map rowPD)) (.list (rows.map rowPD))=true:=by
  simp only [PySem.Spec.same]; exact rows_same rows
 rw [e]
 exact h
end
end Mine
namespace Mine
open PySem PySem.W PySem.W.X
noncomputable section
noncomputable def lwE:Expr:=cmpR (boolA 1 (ifT (nthS lawFor.body 3)))
noncomputable abbrev qLaw:Str:=Str.ofString "law.<locals>."
noncomputable def lcC (it acc fr cf ct:Nat):Code:=compC lwE it acc (compEnv (compScC lwE) qLaw 275 fr cf [("told",ct)])
end
structure LcP where
 prog:Program
 P:Params
 it:Nat
 ol:Nat
 i:Nat
 on:Nat
 zs:Array Value
 cf:Nat
 hs:Nat→Int
 ts:Nat→Nat
 ep:Nat
 acc:Nat
 ys:Array Value
 m:Nat
 ct:Nat
 tl:Nat
 n:Nat
 xs:Array Value
 fr:Nat
 a:Nat
 kk:Nat
 tkk:Nat
noncomputable def lcD (p:LcP) (e:Option Value):List (Nat×Obj):=
 [(p.acc,listO p.ys p.m),(p.ol,listO p.zs p.on),(p.it,iterO p.ol p.i),(p.cf,dicO (kE e) p.hs p.ts p.ep),(p.ct,cellO (.ref p.tl)),(p.tl,listO p.xs p.n)]
noncomputable abbrev lcK (p:LcP):Code:=lcC p.it p.acc p.fr p.cf p.ct
noncomputable def csL:List Bool:= [true,false,true,true,false,false]
noncomputable def lcT (p:LcP):Rs→Prop:=
 CNext p.it p.ol p.i p.on p.zs 2 1 (.int (Int.ofNat p.kk) p.tkk) [4,4,5,4,6,6,6,1]<|CRd (getC p.tl p.kk p.tkk) [5] [(p.tl,listO p.xs p.n)] (.ok (.ret (.ref p.a))) [1]<|CApp p.acc p.m p.ys (.ref p.a) 0 [1]<|
  CLoop (lcK p) fun s=>keepD csL s.D=keepD csL (lcD p none)∧
   pick [0,2,3] s.D= [(p.acc,listO (p.ys.push (.ref p.a)) (p.m+1)),(p.it,iterO p.ol (p.i+1)),(p.cf,dicO (kE (some (.int (Int.ofNat p.kk) p.tkk))) (hsOf (dOf s 3)) (tsOf (dOf s 3)) (epOf (dOf s 3)))]
noncomputable instance lcT.rf {p:LcP} {R:Rs} :Rf (lcT p R):=by
 delta lcT; infer_instance
noncomputable def lcX (p:LcP) (e:Option Value):Rs→Prop:=
 CLast p.it p.ol p.i p.on p.zs 2 1 [7] fun zz=>CEnd (.ok .next) fun s=>keepD [false,false,true,false,false,false] s.D=keepD [false,false,true,false,false,false] (lcD p e)
noncomputable instance lcX.rf {p:LcP} {e:Option Value} {R:Rs} :Rf (lcX p e R):=by
 delta lcX; infer_instance
noncomputable abbrev lcRun (p:LcP) (P:Params) (e:Option Value) (K t:Nat):Rs:=runC p.prog P 100 (lcK p) [3,1] (lcD p e) K t
theorem lcT_0 (p:LcP) (e:Option Value) (K t:Nat):lcT p (lcRun p p.P e K t):=pset1 (X:=fun P=>lcT p (lcRun p P e K t)) (by intro b1; revert e; exact Rf.prove _ (by kernel_rfl))
theorem lcX_0 (p:LcP) (e:Option Value) (K t:Nat):lcX p e (lcRun p p.P e K t):=pset1 (X:=fun P=>lcX p e (lcRun p P e K t)) (by intro b1; revert e; exact Rf.prove _ (by kernel_rfl))
theorem lc_facts {sh:Shared} {p:LcP} {e:Option Value} (H:OwnAll 277 sh (lcD p e)) (n0:p.ol≠p.acc) (n1:p.tl≠p.ol) (n2:p.tl≠p.acc):Facts 277 sh (lcD p e):=by
 refine x14 H fun o0 l0 o1 l1 o2 l2 o3 l3 o4 l4 o5 l5 zz=>?_; clear H
 exact .cons o0 l0 (ne_cons n0 (ne_cons (ne_of o0 o2 (by kernel_rfl)) (ne_cons (ne_of o0 o3 (by kernel_rfl)) (ne_cons (ne_of o0 o4 (by kernel_rfl)) (ne_cons n2 ne_nil))))) (.cons o1 l1 (ne_cons (ne_of o1 o2 (by kernel_rfl)) (ne_cons (ne_of o1 o3 (by kernel_rfl)) (ne_cons (ne_of o1 o4 (by kernel_rfl)) (ne_cons n1 ne_nil)))) (.cons o2 l2 (ne_cons (ne_of o2 o3 (by kernel_rfl)) (ne_cons (ne_of o2 o4 (by kernel_rfl)) (ne_cons (ne_of o2 o5 (by kernel_rfl)) ne_nil))) (.cons o3 l3 (ne_cons (ne_of o3 o4 (by kernel_rfl)) (ne_cons (ne_of o3 o5 (by kernel_rfl)) ne_nil)) (.cons o4 l4 (ne_cons (ne_of o4 o5 (by kernel_rfl)) ne_nil) (.cons o5 l5 ne_nil .nil)))))
section
variable {prog:Program} {w:World} {A:Around}
noncomputable def lcMu (p:LcP) (b:Nat):Prop:=b=p.acc∨b=p.it∨b=p.cf
noncomputable def lcSt (sh:Shared) (p:LcP) (refs ks:List Nat):Prop:=
 ∃ (m:Nat) (e:Option Value) (hs:Nat→Int) (ts:Nat→Nat) (ep:Nat),sh.heap.get? p.acc=some (listO (refsA (ks.map fun k=>refs.getD k 0)) m)∧sh.heap.get? p.cf=some (dicO (kE e) hs ts ep)
theorem lc_loop (Rm:Room 1 A) {sh₀:Shared} {refs ks:List Nat} {p:LcP} (hp:p.P=w.params) (hg:p.prog=prog) (hx:p.xs=refsA refs) (hz:IsInts p.zs ks) (hks: ∀ k∈ks,k<refs.length) (hsz:refs.length≤100) (hkl:ks.length≤100)
  (T:Top w sh₀) (hi:p.i=0) (hy:p.ys= #[]) (H:OwnAll 277 sh₀ (lcD p none)) (n0:p.ol≠p.acc) (n1:p.tl≠p.ol) (n2:p.tl≠p.acc):
  codeAny (model prog w) A (lcK p) (fun r sh'=>r= .ok .next∧Ext (lcMu p) sh₀ sh'∧lcSt sh' p refs ks) sh₀:=by
 subst hg
 refine x14 (id H) fun o0 l0 o1 l1 o2 l2 o3 l3 o4 l4 o5 l5 zz=>?_
 have kp: ∀ {b:Nat} {o:Obj} {sh:Shared},Ext (lcMu p) sh₀ sh→sh₀.heap.get? b=some o→b≠p.acc→kne (iterO p.ol p.i).cls o.cls=true→kne (dicO (kE none) p.hs p.ts p.ep).cls o.cls=true→sh.heap.get? b=some o:=fun X h hn h1 h2=>X.keep _ _ h (by
  rintro (q | q | q)
  ·exact hn q
  ·exact ne_of o2 h h1 q
  ·exact ne_of o3 h h2 q)
 have o0':sh₀.heap.get? p.acc=some (listO (refsA []) p.m):=by rw [o0,hy]; rfl
 refine loop_rule (Inv:=fun i sh=>Top w sh∧Ext (lcMu p) sh₀ sh∧lcSt sh p refs (ks.take i)∧sh.heap.get? p.it=some (iterO p.ol i)) (n:=ks.length) (fun i sh hin I K=>?_) (fun sh I=>?_) ks.length 0 sh₀ (by lia) ⟨T,.refl T.gens T.toks,⟨p.m,none,p.hs,p.ts,p.ep,o0',o3⟩,by rw [hi] at o2; exact o2⟩
 ·refine x34 I fun T1 X m e hs ts ep h2 h4 h3=>?_; clear I
  obtain ⟨kk,hkk⟩: ∃ kk,ks[i]? =some kk:=⟨ks[i]'(by lia),by simp⟩
  refine x1 (hz.get hkk) fun tkk hzk=>?_
  have kl:kk<refs.length:=hks kk (List.mem_of_getElem? hkk)
  have ha:refs[kk]? =some (refs.getD kk 0):=by simp [List.getD,kl]
  let q:LcP:= {p with i:=i,ys:=refsA ((ks.take i).map fun k=>refs.getD k 0),m:=m,hs:=hs,ts:=ts,ep:=ep,a:=refs.getD kk 0,kk:=kk,tkk:=tkk}
  have H':OwnAll 277 sh (lcD q e):=⟨⟨h2,l0⟩,⟨kp X o1 n0 (by kernel_rfl) (by kernel_rfl),l1⟩,⟨h3,l2⟩,⟨h4,l3⟩,⟨kp X o4 (ne_of o0 o4 (by kernel_rfl)) (by kernel_rfl) (by kernel_rfl),l4⟩,⟨kp X o5 n2 (by kernel_rfl) (by kernel_rfl),l5⟩,trivial⟩
  have F:=lc_facts H' n0 n1 n2
  have hz:277≤sh.heap.objs.size:=T1.l7
  have hxa:p.xs[kk]? =some (.ref (refs.getD kk 0)):=by rw [hx]; exact refsA_get ha
  refine walk_code T1 Rm rfl F 100 [3,1] fun K' t hK=>?_
  have z:=lcT_0 q e K' t
  rw [show q.P=w.params from hp] at z
  revert z
  show lcT q (runC p.prog w.params 100 (lcK p) [3,1] (lcD q e) K' t)→_
  generalize runC p.prog w.params 100 (lcK p) [3,1] (lcD q e) K' t=R
  intro z
  refine CNext.ok z Rm T1.size hzk fun R' z=>?_
  refine CRd.ok z Rm T1.size (fun sh1 B O T2 RB=>getitem_spec tkk T2.gens T2.toks O.1.1 (by show kk≤1000; lia) hxa) fun R' z=>?_
  refine CApp.ok z Rm T1.size (by show (refsA _).size≤1000; simp [refsA]; lia) fun R' z=>?_
  refine CLoop.ok z fun sh' z S=>?_
  refine x2 z fun z1 z2=>?_; clear z
  have Y:=(S.only (sh:=sh) rfl rfl rfl F (cs:=csL) (z1.trans rfl)).weak (mu':=lcMu p) fun b hb=>by
   rcases hb with hb | hb | hb | hb
   ·exact .inl hb
   ·exact .inr (.inl hb)
   ·exact .inr (.inr hb)
   ·exact hb.elim
  refine x7 (S.all rfl rfl hz F z2) fun a0 zz a2 zz a3 zz zz=>?_
  refine K sh' ⟨T1.ext Y (by rintro b (rfl | rfl | rfl)<;>assumption),X.trans Y,⟨m+1,_,_,_,_,?_,a3⟩,a2⟩
  have e1:ks.take (i+1)=ks.take i++ [kk]:=by rw [List.take_add_one,hkk]; rfl
  have:refsA ((ks.take (i+1)).map fun k=>refs.getD k 0)=(refsA ((ks.take i).map fun k=>refs.getD k 0)).push (.ref (refs.getD kk 0)):=by rw [e1]; simp [refsA]
  rw [this]
  exact a0
 ·refine x34 I fun T1 X m e hs ts ep h2 h4 h3=>?_; clear I
  let q:LcP:= {p with i:=ks.length,ys:=refsA ((ks.take ks.length).map fun k=>refs.getD k 0),m:=m,hs:=hs,ts:=ts,ep:=ep}
  have H':OwnAll 277 sh (lcD q e):=⟨⟨h2,l0⟩,⟨kp X o1 n0 (by kernel_rfl) (by kernel_rfl),l1⟩,⟨h3,l2⟩,⟨h4,l3⟩,⟨kp X o4 (ne_of o0 o4 (by kernel_rfl)) (by kernel_rfl) (by kernel_rfl),l4⟩,⟨kp X o5 n2 (by kernel_rfl) (by kernel_rfl),l5⟩,trivial⟩
  have F:=lc_facts H' n0 n1 n2
  refine walk_code T1 Rm rfl F 100 [3,1] fun K' t hK=>?_
  have z:=lcX_0 q e K' t
  rw [show q.P=w.params from hp] at z
  revert z
  show lcX q e (runC p.prog w.params 100 (lcK p) [3,1] (lcD q e) K' t)→_
  generalize runC p.prog w.params 100 (lcK p) [3,1] (lcD q e) K' t=R
  intro z
  refine CLast.ok z Rm T1.size (by show p.zs[ks.length]? =none; exact Array.getElem?_eq_none (by rw [hz.size]; lia)) fun ex R' z=>?_
  refine CEnd.ok z fun sh' z S=>?_
  have Y:=(S.only (sh:=sh) rfl rfl rfl F z).weak (mu':=fun b=>b=p.it) fun b h=>by
   rcases h with h | h
   ·exact h
   ·exact h.elim
  refine ⟨rfl,X.trans (Y.weak fun b h=>.inr (.inl h)),m,e,hs,ts,ep,?_,Y.keep _ _ h4 (ne_of h3 h4 (by kernel_rfl))⟩
  rw [List.take_length] at h2
  exact Y.keep _ _ h2 (ne_of h3 h2 (by kernel_rfl))
end
noncomputable section
noncomputable def plFor:ForP:=forP (nthS (fn 24).body 0)
noncomputable abbrev qPl:Str:=Str.ofString "_law_plain.<locals>."
noncomputable def plLC (it fr:Nat):Code:=forC plFor it (fenv (fn 24) qPl 264 263 fr [])
end
noncomputable def ruleE:Option Value→List (Str×Value)
 | none=> []
 | some v=> [("rule",v)]
noncomputable def plF (rows rl:Nat) (e:Option Value) (hs:Nat→Int) (ts:Nat→Nat) (ep:Nat):Obj:=frmO (("rows",.ref rows)::("rules",.ref rl)::ruleE e) hs ts ep
noncomputable def toldC (l:Nat) (z:Int) (tz:Nat):Code:=.call (.ref 257) ⟨[.ref l,.int z tz],[]⟩
structure PlP where
 prog:Program
 P:Params
 it:Nat
 i:Nat
 fr:Nat
 rows:Nat
 rl:Nat
 n:Nat
 z:Int
 tz:Nat
 zs:Array Value
 hs:Nat→Int
 ts:Nat→Nat
 ep:Nat
noncomputable def plD (p:PlP) (e:Option Value):List (Nat×Obj):= [(p.it,iterO p.rl p.i),(p.rl,listO p.zs p.n),(p.fr,plF p.rows p.rl e p.hs p.ts p.ep)]
noncomputable def plT (p:PlP):Rs→Prop:=
 CNext p.it p.rl p.i p.n p.zs 0 1 (.int p.z p.tz) [3,3,0,3,3,0,1]<|CSw (X:=Nat) (fun zz=>toldC p.rows p.z p.tz) (fun s=>s.D= [(p.it,iterO p.rl (p.i+1)),(p.rl,listO p.zs p.n),(p.fr,plF p.rows p.rl (some (.int p.z p.tz)) (hsOf (dOf s 2)) (tsOf (dOf s 2)) (epOf (dOf s 2)))]) (fun x=>.ok (.ret (.ref x))) [] (fun zz zz=> []) (fun zz=> [3,3,1]) fun x=>
  CLoop (plLC p.it p.fr) fun s=>s.D= [(p.it,iterO p.rl (p.i+1)),(p.rl,listO p.zs p.n),(p.fr,plF x p.rl (some (.int p.z p.tz)) (hsOf (dOf s 2)) (tsOf (dOf s 2)) (epOf (dOf s 2)))]
noncomputable instance plT.rf {p:PlP} {R:Rs} :Rf (plT p R):=by
 delta plT; infer_instance
noncomputable def plE (p:PlP) (e:Option Value):Rs→Prop:=
 CLast p.it p.rl p.i p.n p.zs 0 1 [4,0] fun zz=>CEnd (.ok .next) fun s=>keepD [true,false,false] s.D=keepD [true,false,false] (plD p e)
noncomputable instance plE.rf {p:PlP} {e:Option Value} {R:Rs} :Rf (plE p e R):=by
 delta plE; infer_instance
noncomputable abbrev plRun (p:PlP) (P:Params) (e:Option Value) (K t:Nat):Rs:=runC p.prog P 100 (plLC p.it p.fr) [1,1] (plD p e) K t
theorem plT_0 (p:PlP) (e:Option Value) (K t:Nat):plT p (plRun p p.P e K t):=pset1 (X:=fun P=>plT p (plRun p P e K t)) (by intro b1; revert e; exact Rf.prove _ (by kernel_rfl))
theorem plE_0 (p:PlP) (e:Option Value) (K t:Nat):plE p e (plRun p p.P e K t):=pset1 (X:=fun P=>plE p e (plRun p P e K t)) (by intro b1; revert e; exact Rf.prove _ (by kernel_rfl))
theorem apL_nil (l:List (Nat×Obj)):apL l []=l:=by rw [apL_eq,List.append_nil]
theorem keepA_nil (l:List (Nat×Obj)):keepA [] l=l:=rfl
theorem refs_ne {sh:Shared} {l rl m n i:Nat} {refs:List Nat} {zs:Array Value} {v:Value} (h1:sh.heap.get? l=some (listO (refsA refs) m)) (h2:sh.heap.get? rl=some (listO zs n)) (hz:zs[i]? =some v) (hv: ∀ a,v≠ .ref a):l≠rl:=by
 rintro rfl
 rw [h1] at h2
 have e:zs=refsA refs:=by
  have:=congrArg (fun o:Obj=>seqOf o) (Option.some.inj h2)
  have:(refsA refs).toList=zs.toList:=this
  exact (Array.toList_inj.mp this).symm
 rw [e] at hz
 have hz:refs[i]?.map Value.ref=some v:=by simpa [refsA] using hz
 cases q:refs[i]? with
 | none=>rw [q] at hz; cases hz
 | some a=>rw [q] at hz; exact hv a (Option.some.inj hz).symm
section
variable {prog:Program} {w:World} {A:Around}
noncomputable def plMu (p:PlP) (b:Nat):Prop:=b=p.it∨b=p.fr
noncomputable def PlSt (sh:Shared) (p:PlP) (rows:List Row):Prop:=
 ∃ (l:Nat) (refs:List Nat) (m:Nat) (e:Option Value) (hs:Nat→Int) (ts:Nat→Nat) (ep:Nat),277≤l∧sh.heap.get? l=some (listO (refsA refs) m)∧RowsAt sh refs rows∧sh.heap.get? p.fr=some (plF l p.rl e hs ts ep)∧l≠p.rl
noncomputable def PlInv (w:World) (sh₀:Shared) (p:PlP) (rows:List Row) (zs:List Int) (i:Nat) (sh:Shared):Prop:=
 Top w sh∧Ext (plMu p) sh₀ sh∧PlSt sh p (stepsZ rows (zs.take i))∧sh.heap.get? p.it=some (iterO p.rl i)
theorem pl_loop (Rm:Room 4 A) {sh₀:Shared} {rows:List Row} {refs:List Nat} {zs:List Int} {p:PlP} {m:Nat} (hp:p.P=w.params) (hg:p.prog=prog) (T:Top w sh₀) (hi:p.i=0) (H:OwnAll 277 sh₀ (plD p none)) (hz:IsZs p.zs zs)
  (hl:sh₀.heap.get? p.rows=some (listO (refsA refs) m)) (hL:277≤p.rows) (hne:p.rows≠p.rl) (hr:RowsAt sh₀ refs rows) (ok: ∀ r∈rows,OkRow r) (len:rows.length+c3 zs≤15):
  codeAny (model prog w) A (plLC p.it p.fr) (fun r sh'=>r= .ok .next∧Ext (plMu p) sh₀ sh'∧PlSt sh' p (stepsZ rows zs)) sh₀:=by
 subst hg
 refine x7 (id H) fun o0 l0 o1 l1 o2 l2 zz=>?_
 refine loop_rule (Inv:=PlInv w sh₀ p rows zs) (n:=zs.length) (fun i sh hin I K=>?_) (fun sh I=>?_) zs.length 0 sh₀ (by lia) ⟨T,.refl T.gens T.toks,⟨p.rows,refs,m,none,p.hs,p.ts,p.ep,hL,hl,hr,o2,hne⟩,by rw [hi] at o0; exact o0⟩
 ·refine x35 I fun T1 X l refs1 m1 e hs ts ep hL1 hl1 hr1 hf1 hn1 hit=>?_; clear I
  obtain ⟨z,hzi⟩: ∃ z,zs[i]? =some z:=⟨zs[i]'hin,by simp⟩
  refine x1 (hz.get hzi) fun tz hzt=>?_
  let q:PlP:= {p with i:=i,rows:=l,z:=z,tz:=tz,hs:=hs,ts:=ts,ep:=ep}
  have hrl:sh.heap.get? p.rl=some (listO p.zs p.n):=X.keep _ _ o1 (by
   rintro (q | q)
   ·exact ne_of o0 o1 (by kernel_rfl) q
   ·exact ne_of o2 o1 (by kernel_rfl) q)
  have H':OwnAll 277 sh (plD q e):=⟨⟨hit,l0⟩,⟨hrl,l1⟩,⟨hf1,l2⟩,trivial⟩
  have F:Facts 277 sh (plD q e):=.of H' (by kernel_rfl)
  have nt:NoTup sh (inD (plD q e)):=by
   rintro b (rfl | rfl | rfl | hb) xs h
   ·exact ne_of (o':=tupO xs) hit h (by kernel_rfl) rfl
   ·exact ne_of (o':=tupO xs) hrl h (by kernel_rfl) rfl
   ·exact ne_of (o':=tupO xs) hf1 h (by kernel_rfl) rfl
   ·exact hb
  have lin: ¬ inD (plD q e) l:=by
   rintro (h | h | h | h)
   ·exact ne_of hit hl1 (by kernel_rfl) h
   ·exact refs_ne hl1 hrl hzt (fun a h=>by cases h) h
   ·exact ne_of hf1 hl1 (by kernel_rfl) h
   ·exact h
  have okI:=stepsZ_ok ok (zs.take i)
  have lenI:=stepsZ_len rows (zs.take i)
  have cI:=c3_take zs i
  refine walk_code T1 Rm rfl F 100 [1,1] fun K' t hK=>?_
  have y:=plT_0 q e K' t
  rw [show q.P=w.params from hp] at y
  revert y
  show plT q (runC p.prog w.params 100 (plLC p.it p.fr) [1,1] (plD q e) K' t)→_
  generalize runC p.prog w.params 100 (plLC p.it p.fr) [1,1] (plD q e) K' t=R
  intro y
  refine CNext.ok y Rm T1.size hzt fun R' y=>?_
  refine CSw.okR (fun s sh1 x sh'=>∃ refs' n',277≤x∧sh'.heap.get? x=some (listO (refsA refs') n')∧RowsAt sh' refs' (stepZ (stepsZ rows (zs.take i)) z)∧Ext none_ sh1 sh') y Rm T1.size (fun s sh1 B pre S T2 RB=>?_) fun x s sh1 s' sh2 R' pre S hT X1 S' hD T2 y=>?_
  ·have X1:=S.ext (sh₀:=sh) rfl rfl
   refine codeAny_mono (told_spec RB T2 (X1.keep _ _ hl1 lin) hL1 (hr1.ext X1 nt) okI (by lia) (kz_lt z) (jz_lt z) (kz_eq z) (jz_eq z) tz) fun r sh' hq=>?_
   refine x28 hq fun l' refs' n' h1 h2 h3 h4 h5=>?_; clear hq
   exact ⟨l',h1,⟨refs',n',h2,h3,h4,h5⟩,h5.weak (fun b hb=>hb.elim),.nil,fun y hy=>by cases hy⟩
  ·refine x15 hT fun refs' n' x1 x2 x3 x4=>?_; clear hT
   have hD:s'.D= [(p.it,iterO p.rl (i+1)),(p.rl,listO p.zs p.n),(p.fr,plF l p.rl (some (.int z tz)) (hsOf (dOf s 2)) (tsOf (dOf s 2)) (epOf (dOf s 2)))]:=by
    rw [hD,apL_nil,keepA_nil]; exact pre
   refine CLoop.ok y fun sh3 y S3=>?_
   have Y:Ext (inD s'.D) sh2 sh3:=S3.ext (sh₀:=sh2) rfl rfl
   refine x7 (S3.all0 (js:= [0,1,2]) (D2:= [(p.it,iterO p.rl (i+1)),(p.rl,listO p.zs p.n),(p.fr,plF x p.rl (some (.int z tz)) (hsOf (dOf (stOf R') 2)) (tsOf (dOf (stOf R') 2)) (epOf (dOf (stOf R') 2)))]) (by rw [y]; rfl)) fun a0 zz a1 zz a2 zz zz=>?_
   refine x7 (S'.all0 (js:= [0,1,2]) (D2:= [(p.it,iterO p.rl (i+1)),(p.rl,listO p.zs p.n),(p.fr,plF l p.rl (some (.int z tz)) (hsOf (dOf s 2)) (tsOf (dOf s 2)) (epOf (dOf s 2)))]) (by rw [hD]; rfl)) fun b0 zz b1 zz b2 zz zz=>?_
   have nt2:NoTup sh2 (inD s'.D):=by
    rw [hD]
    rintro b (rfl | rfl | rfl | hb) xs h
    ·exact ne_of (o':=tupO xs) b0 h (by kernel_rfl) rfl
    ·exact ne_of (o':=tupO xs) b1 h (by kernel_rfl) rfl
    ·exact ne_of (o':=tupO xs) b2 h (by kernel_rfl) rfl
    ·exact hb
   have xin: ¬ inD s'.D x:=by
    rw [hD]
    rintro (h | h | h | h)
    ·exact ne_of b0 x2 (by kernel_rfl) h
    ·exact refs_ne x2 b1 hzt (fun a h=>by cases h) h
    ·exact ne_of b2 x2 (by kernel_rfl) h
    ·exact h
   have Z:Ext (inD (plD q e)) sh sh3:=((S.ext (sh₀:=sh) rfl rfl).trans (x4.weak fun zz h=>h.elim)).trans (Y.weak fun b hb=>by
    rw [hD] at hb
    exact hb)
   have Z':Ext (plMu p) sh sh3:=Z.mono fun b o ho hb=>by
    rcases hb with hb | hb | hb | hb
    ·exact .inl (.inl hb)
    ·right
     have hb:b=p.rl:=hb
     rw [hb] at ho ⊢
     rw [hrl] at ho
     rw [←ho]
     exact a1
    ·exact .inl (.inr hb)
    ·exact hb.elim
   refine K sh3 ⟨T1.ext Z' (by rintro b (rfl | rfl)<;>assumption),X.trans Z',⟨x,refs',n',some (.int z tz),_,_,_,x1,Y.keep _ _ x2 xin,?_,a2,refs_ne x2 b1 hzt (fun a h=>by cases h)⟩,a0⟩
   have e1:zs.take (i+1)=zs.take i++ [z]:=by rw [List.take_add_one,hzi]; rfl
   rw [e1,stepsZ_snoc]
   exact x3.ext Y nt2
 ·refine x35 I fun T1 X l refs1 m1 e hs ts ep hL1 hl1 hr1 hf1 hn1 hit=>?_; clear I
  let q:PlP:= {p with i:=zs.length,rows:=l,hs:=hs,ts:=ts,ep:=ep}
  have hrl:sh.heap.get? p.rl=some (listO p.zs p.n):=X.keep _ _ o1 (by
   rintro (q | q)
   ·exact ne_of o0 o1 (by kernel_rfl) q
   ·exact ne_of o2 o1 (by kernel_rfl) q)
  have H':OwnAll 277 sh (plD q e):=⟨⟨hit,l0⟩,⟨hrl,l1⟩,⟨hf1,l2⟩,trivial⟩
  have F:Facts 277 sh (plD q e):=.of H' (by kernel_rfl)
  refine walk_code T1 Rm rfl F 100 [1,1] fun K' t hK=>?_
  have y:=plE_0 q e K' t
  rw [show q.P=w.params from hp] at y
  revert y
  show plE q e (runC p.prog w.params 100 (plLC p.it p.fr) [1,1] (plD q e) K' t)→_
  generalize runC p.prog w.params 100 (plLC p.it p.fr) [1,1] (plD q e) K' t=R
  intro y
  refine CLast.ok y Rm T1.size (by show p.zs[zs.length]? =none; exact Array.getElem?_eq_none (by rw [hz.size]; lia)) fun ex R' y=>?_
  refine CEnd.ok y fun sh' y S=>?_
  have Y:=(S.only (sh:=sh) rfl rfl rfl F y).weak (mu':=fun b=>b=p.it) fun b h=>by
   rcases h with h | h
   ·exact h
   ·exact h.elim
  rw [List.take_length] at hr1
  refine ⟨rfl,X.trans (Y.weak fun b h=>.inl h),l,refs1,m1,e,hs,ts,ep,hL1,Y.keep _ _ hl1 (ne_of hit hl1 (by kernel_rfl)),hr1.ext Y (fun b hb xs h=>?_),Y.keep _ _ hf1 (ne_of hit hf1 (by kernel_rfl)),hn1⟩
  subst hb
  exact ne_of (o':=tupO xs) hit h (by kernel_rfl) rfl
end
noncomputable def plainC (l rl:Nat):Code:=.call (.ref 264) ⟨[.ref l,.ref rl],[]⟩
structure PlX where
 l:Nat
 e:Option Value
 hs:Nat→Int
 ts:Nat→Nat
 ep:Nat
structure PnP where
 prog:Program
 P:Params
 l:Nat
 rl:Nat
 n:Nat
 zs:Array Value
noncomputable def pnP (p:PnP) (s:St):PlP:= {prog:=p.prog,P:=p.P,it:=aOf s 2,i:=0,fr:=aOf s 1,rows:=p.l,rl:=p.rl,n:=p.n,z:=0,tz:=0,zs:=p.zs,hs:=hsOf (dOf s 1),ts:=tsOf (dOf s 1),ep:=epOf (dOf s 1)}
noncomputable def pnD (p:PnP):List (Nat×Obj):= [(p.rl,listO p.zs p.n)]
noncomputable def pnT (p:PnP):Rs→Prop:=
 CSw (X:=PlX) (fun s=>plLC (aOf s 2) (aOf s 1)) (fun s=>pick [2,0,1] s.D=plD (pnP p s) none∧(getD s.D 1).isSome=true∧(getD s.D 2).isSome=true∧keepA [false,true,true] s.D=pnD p) (fun zz=>.ok .next) [false,true,true] (fun s x=> [(aOf s 1,plF x.l p.rl x.e x.hs x.ts x.ep)]) (fun zz=> [2]) fun x=>
  CEnd (.ok (.ret (.ref x.l))) fun s=>keepD [false] s.D=pnD p
noncomputable instance pnT.rf {p:PnP} {R:Rs} :Rf (pnT p R):=by
 delta pnT; infer_instance
theorem pnT_0 (p:PnP) (K t:Nat):pnT p (runC p.prog p.P 100 (plainC p.l p.rl) [0,0,2,2,2,2,0,0,2,1,1,0,1,0,3,1] (pnD p) K t):=pset1 (X:=fun P=>pnT p (runC p.prog P 100 (plainC p.l p.rl) [0,0,2,2,2,2,0,0,2,1,1,0,1,0,3,1] (pnD p) K t)) (by intro b1; exact Rf.prove _ (by kernel_rfl))
section
variable {prog:Program} {w:World} {A:Around}
theorem plain_spec (Rm:Room 5 A) {sh:Shared} {rows:List Row} {refs:List Nat} {zs:List Int} {l rl m n:Nat} {vs:Array Value} (T:Top w sh) (hl:sh.heap.get? l=some (listO (refsA refs) m)) (hL:277≤l) (hr:RowsAt sh refs rows) (ok: ∀ r∈rows,OkRow r)
  (hrl:sh.heap.get? rl=some (listO vs n)) (hrL:277≤rl) (hz:IsZs vs zs) (hne:l≠rl) (len:rows.length+c3 zs≤15):
  codeAny (model prog w) A (plainC l rl) (QPost sh (stepsZ rows zs)) sh:=by
 let p:PnP:=⟨prog,w.params,l,rl,n,vs⟩
 have F:Facts 277 sh (pnD p):=.of ⟨⟨hrl,hrL⟩,trivial⟩ (by kernel_rfl)
 have hz7:277≤sh.heap.objs.size:=T.l7
 refine walk_code T Rm rfl F 100 [0,0,2,2,2,2,0,0,2,1,1,0,1,0,3,1] fun K t hK=>?_
 have q:=pnT_0 p K t
 revert q
 show pnT p (runC prog w.params 100 (plainC l rl) [0,0,2,2,2,2,0,0,2,1,1,0,1,0,3,1] (pnD p) K t)→_
 generalize runC prog w.params 100 (plainC l rl) [0,0,2,2,2,2,0,0,2,1,1,0,1,0,3,1] (pnD p) K t=R
 intro q
 have lin: ¬ inD (pnD p) l:=by
  rintro (h | h)
  ·exact hne h
  ·exact h
 refine CSw.okR (fun s sh1 x sh'=>277≤x.l∧x.l≠rl∧∃ refs' m',sh'.heap.get? x.l=some (listO (refsA refs') m')∧RowsAt sh' refs' (stepsZ rows zs)) q Rm T.size (fun s sh1 B pre S T1 RB=>?_) fun x s sh1 s' sh2 R' pre S hT X1 S' hD T2 q=>?_
 ·refine x13 pre fun p1 g1 g2 zz=>?_; clear pre
  have X:=S.ext (sh₀:=sh) rfl rfl
  have O:=S.all rfl rfl hz7 F p1
  have hl1:=X.keep _ _ hl lin
  refine codeAny_mono (pl_loop (prog:=prog) RB (p:=pnP p s) rfl rfl T1 rfl O hz hl1 hL hne (hr.ext X (noTup_one hrl (by kernel_rfl) fun b hb=>hb.elim id fun h=>h.elim)) ok len) fun r sh' hq=>?_
  refine x62 hq fun h1 h2 l' refs' m' e hs ts ep h3 h4 h5 h6 h7=>?_; clear hq
  refine ⟨⟨l',e,hs,ts,ep⟩,h1,⟨h3,h7,refs',m',h4,h5⟩,h2.weak fun b hb=>?_,.cons h6 (Nat.zero_le _) ne_nil .nil,fun y hy=>.inr ?_⟩
  ·rcases hb with rfl | rfl
   ·exact chA_at g2 rfl
   ·exact chA_at g1 rfl
  ·rw [List.mem_singleton.mp hy]
   exact chA_at g1 rfl
 ·refine x63 hT fun x1 x0 refs' m' x2 x3=>?_; clear hT
  refine CEnd.ok q fun sh3 q S3=>?_
  have Y:Ext (inD s'.D) sh2 sh3:=S3.ext (sh₀:=sh2) rfl rfl
  refine x13 pre fun p1 g1 g2 g3=>?_; clear pre
  have Z:Ext (inD (pnD p)) sh sh3:=Ext.across S' rfl rfl Y
  have O3:OwnAll 0 sh3 (pnD p):=by
   cases hs:(stOf R').D with
   | nil=>rw [hs] at q; cases q
   | cons d l=>
    rw [hs] at q
    have q:d:: []=pnD p:=by
     cases l with
     | nil=>exact q
     | cons _ _=>exact q
    have:=S3.own 0 d (by rw [hs]; rfl)
    rw [←q]
    exact ⟨⟨this,Nat.zero_le _⟩,trivial⟩
  have Z0:Ext none_ sh sh3:=Z.mono fun b o ho hb=>by
   rcases hb with hb | hb
   ·right
    have hb:b=rl:=hb
    rw [hb] at ho ⊢
    rw [hrl] at ho
    rw [←ho]
    exact O3.1.1
   ·exact hb.elim
  have hD':s'.D= [(rl,listO vs n),(aOf s 1,plF x.l rl x.e x.hs x.ts x.ep)]:=by rw [hD,g3]; rfl
  refine x6 (S'.all0 (js:= [0,1]) (D2:= [(rl,listO vs n),(aOf s 1,plF x.l rl x.e x.hs x.ts x.ep)]) (by rw [hD']; rfl)) fun b0 zz b1 zz zz=>?_
  have xin: ¬ inD s'.D x.l:=by
   rw [hD']
   rintro (h | h | h)
   ·exact x0 h
   ·exact ne_of b1 x2 (by kernel_rfl) h
   ·exact h
  refine ⟨x.l,refs',m',rfl,x1,Y.keep _ _ x2 xin,x3.ext Y ?_,Z0⟩
  rw [hD']
  rintro b (rfl | rfl | hb) xs h
  ·exact ne_of (o':=tupO xs) b0 h (by kernel_rfl) rfl
  ·exact ne_of (o':=tupO xs) b1 h (by kernel_rfl) rfl
  ·exact hb
end
noncomputable section
noncomputable def rdFor:ForP:=forP (nthS (fn 5).body 2)
noncomputable abbrev qRd:Str:=Str.ofString "reduce.<locals>."
noncomputable def rdLC (it fr:Nat):Code:=forC rdFor it (fenv (fn 5) qRd 54 53 fr [])
end
noncomputable def elE:Option Value→List (Str×Value)
 | none=> []
 | some v=> [("element",v)]
noncomputable def rdF (rl h it v:Nat) (e:Option Value) (hs:Nat→Int) (ts:Nat→Nat) (ep:Nat):Obj:=frmO (("function",.ref 252)::("sequence",.ref rl)::("initial",.ref h)::("it",.ref it)::("value",.ref v)::elE e) hs ts ep
noncomputable def ruledC (h:Nat) (z:Int) (tz:Nat):Code:=.call (.ref 252) ⟨[.ref h,.int z tz],[]⟩
structure RdP where
 prog:Program
 P:Params
 it:Nat
 i:Nat
 fr:Nat
 h:Nat
 v:Nat
 rl:Nat
 n:Nat
 z:Int
 tz:Nat
 zs:Array Value
 hs:Nat→Int
 ts:Nat→Nat
 ep:Nat
 o:Obj
noncomputable def rdD (p:RdP) (e:Option Value):List (Nat×Obj):= [(p.it,iterO p.rl p.i),(p.rl,listO p.zs p.n),(p.fr,rdF p.rl p.h p.it p.v e p.hs p.ts p.ep),(73,p.o)]
noncomputable def rdD3 (p:RdP):List (Nat×Obj):= [(p.it,iterO p.rl p.i),(p.rl,listO p.zs p.n),(p.fr,rdF p.rl p.h p.it p.v none p.hs p.ts p.ep)]
noncomputable def rdG (p:RdP) (v:Nat) (s:St):Obj:=rdF p.rl p.h p.it v (some (.int p.z p.tz)) (hsOf (dOf s 2)) (tsOf (dOf s 2)) (epOf (dOf s 2))
noncomputable def rdT (p:RdP):Rs→Prop:=
 CNext p.it p.rl p.i p.n p.zs 0 1 (.int p.z p.tz) [3,3,3,3,3,0,1]<|CSw (X:=Nat×Obj) (fun zz=>ruledC p.v p.z p.tz) (fun s=>s.D= [(p.it,iterO p.rl (p.i+1)),(p.rl,listO p.zs p.n),(p.fr,rdG p p.v s),(73,p.o)]) (fun x=>.ok (.ret (.ref x.1))) [false,false,false,true] (fun zz x=> [(73,x.2)]) (fun zz=> [3,3,1]) fun x=>
  CLoop (rdLC p.it p.fr) fun s=>s.D= [(p.it,iterO p.rl (p.i+1)),(p.rl,listO p.zs p.n),(p.fr,rdG p x.1 s),(73,x.2)]
noncomputable instance rdT.rf {p:RdP} {R:Rs} :Rf (rdT p R):=by
 delta rdT; infer_instance
noncomputable def rdE (p:RdP) (e:Option Value):Rs→Prop:=
 CLast p.it p.rl p.i p.n p.zs 0 1 [5,0] fun zz=>CEnd (.ok .next) fun s=>keepD [true,false,false,false] s.D=keepD [true,false,false,false] (rdD p e)
noncomputable instance rdE.rf {p:RdP} {e:Option Value} {R:Rs} :Rf (rdE p e R):=by
 delta rdE; infer_instance
noncomputable abbrev rdRun (p:RdP) (P:Params) (e:Option Value) (K t:Nat):Rs:=runC p.prog P 100 (rdLC p.it p.fr) [1,1] (rdD p e) K t
theorem rdT_0 (p:RdP) (e:Option Value) (K t:Nat):rdT p (rdRun p p.P e K t):=pset1 (X:=fun P=>rdT p (rdRun p P e K t)) (by intro b1; revert e; exact Rf.prove _ (by kernel_rfl))
theorem rdE_0 (p:RdP) (e:Option Value) (K t:Nat):rdE p e (rdRun p p.P e K t):=pset1 (X:=fun P=>rdE p e (rdRun p P e K t)) (by intro b1; revert e; exact Rf.prove _ (by kernel_rfl))
noncomputable def reduceC (rl h:Nat):Code:=.call (.ref 54) ⟨[.ref 252,.ref rl,.ref h],[]⟩
structure RdX where
 v:Nat
 e:Option Value
 hs:Nat→Int
 ts:Nat→Nat
 ep:Nat
 o:Obj
structure RnP where
 prog:Program
 P:Params
 h:Nat
 d:Nat
 rl:Nat
 n:Nat
 zs:Array Value
 o:Obj
noncomputable def rnP (p:RnP) (s:St):RdP:= {prog:=p.prog,P:=p.P,it:=aOf s 4,i:=0,fr:=aOf s 3,h:=p.h+277,v:=p.h+277,rl:=p.rl,n:=p.n,z:=0,tz:=0,zs:=p.zs,hs:=hsOf (dOf s 3),ts:=tsOf (dOf s 3),ep:=epOf (dOf s 3),o:=p.o}
noncomputable def rnD (p:RnP):List (Nat×Obj):= [(p.rl,listO p.zs p.n),(p.h+277,instO p.d),(73,p.o)]
noncomputable def hRn:List Nat:= [0,0,0,4,4,4,4,4,4,0,0,0,0,4,0,0,1,1,0,1,0,5,4,4,4,0,2,0,4,4,4,4,5,5,0,5,0,5,1]
noncomputable def rnT (p:RnP):Rs→Prop:=
 CSw (X:=RdX) (fun s=>rdLC (aOf s 4) (aOf s 3)) (fun s=>pick [4,0,3] s.D=rdD3 (rnP p s)∧getD s.D 2=some (73,p.o)∧(getD s.D 3).isSome=true∧(getD s.D 4).isSome=true∧keepA [false,false,true,true,true] s.D= [(p.rl,listO p.zs p.n),(p.h+277,instO p.d)]) (fun zz=>.ok .next) [false,false,true,true,true] (fun s x=> [(aOf s 3,rdF p.rl (p.h+277) (aOf s 4) x.v x.e x.hs x.ts x.ep),(73,x.o)]) (fun zz=> [3]) fun x=>
  CEnd (.ok (.ret (.ref x.v))) fun s=>keepD [false,false,true,false] s.D= [(p.rl,listO p.zs p.n),(p.h+277,instO p.d),(73,x.o)]
noncomputable instance rnT.rf {p:RnP} {R:Rs} :Rf (rnT p R):=by
 delta rnT; infer_instance
theorem rnT_0 (p:RnP) (K t:Nat):rnT p (runC p.prog p.P 100 (reduceC p.rl (p.h+277)) hRn (rnD p) K t):=pset1 (X:=fun P=>rnT p (runC p.prog P 100 (reduceC p.rl (p.h+277)) hRn (rnD p) K t)) (by intro b1; exact Rf.prove _ (by kernel_rfl))
noncomputable def rdMu (p:RdP) (b:Nat):Prop:=b=p.it∨b=p.fr∨b=73
noncomputable def RdSt (sh:Shared) (p:RdP) (rows:List Row):Prop:=
 Tab sh∧∃ (v d l:Nat) (refs:List Nat) (m:Nat) (e:Option Value) (hs:Nat→Int) (ts:Nat→Nat) (ep:Nat),HdrAt sh v d l∧277≤l∧sh.heap.get? l=some (listO (refsA refs) m)∧RowsAt sh refs rows∧refs.Nodup∧sh.heap.get? p.fr=some (rdF p.rl p.h p.it v e hs ts ep)∧l≠p.rl
theorem Tab.obj {sh:Shared} (h:Tab sh): ∃ xs,sh.heap.get? 73=some (tabO xs):=by
 cases h with
 | none h=>exact ⟨_,h⟩
 | code c cvs h _ _=>exact ⟨_,h⟩
theorem tab_ne {a:Nat} (h:277≤a):(73:Nat)≠a:=fun e=>by rw [←e] at h; lia
theorem Tab.ext {sh sh':Shared} {mu:Nat→Prop} (h:Tab sh) (X:Ext mu sh sh') (h1: ¬ mu 73) (h2: ∀ c cvs,sh.heap.get? c=some (codO cvs)→277≤c→ ¬ mu c):Tab sh':=by
 cases h with
 | none h=>exact .none (X.keep _ _ h h1)
 | code c cvs h hc hc7=>exact .code c cvs (X.keep _ _ h h1) (X.keep _ _ hc (h2 c cvs hc hc7)) hc7
section
variable {prog:Program} {w:World} {A:Around}
noncomputable def RdInv (w:World) (sh₀:Shared) (p:RdP) (rows:List Row) (zs:List Int) (i:Nat) (sh:Shared):Prop:=
 Top w sh∧Ext (rdMu p) sh₀ sh∧RdSt sh p (stepsZ rows (zs.take i))∧sh.heap.get? p.it=some (iterO p.rl i)
theorem rd_facts {sh:Shared} {p:RdP} {e:Option Value} {xs:Array Value} (h0:sh.heap.get? p.it=some (iterO p.rl p.i)) (l0:277≤p.it) (h1:sh.heap.get? p.rl=some (listO p.zs p.n)) (l1:277≤p.rl) (h2:sh.heap.get? p.fr=some (rdF p.rl p.h p.it p.v e p.hs p.ts p.ep)) (l2:277≤p.fr) (h3:sh.heap.get? 73=some p.o):Facts 0 sh (rdD p e):=
 .cons h0 (Nat.zero_le _) (ne_cons (ne_of h0 h1 (by kernel_rfl)) (ne_cons (ne_of h0 h2 (by kernel_rfl)) (ne_cons (tab_ne l0) ne_nil))) (.cons h1 (Nat.zero_le _) (ne_cons (ne_of h1 h2 (by kernel_rfl)) (ne_cons (tab_ne l1) ne_nil)) (.cons h2 (Nat.zero_le _) (ne_cons (tab_ne l2) ne_nil) (.cons h3 (Nat.zero_le _) ne_nil .nil)))
theorem rd_loop (Rm:Room 7 A) {sh₀:Shared} {rows:List Row} {refs:List Nat} {zs:List Int} {p:RdP} {m d l:Nat} (hp:p.P=w.params) (hg:p.prog=prog) (T:Top w sh₀) (hi:p.i=0) (H:OwnAll 277 sh₀ [(p.it,iterO p.rl p.i),(p.rl,listO p.zs p.n),(p.fr,rdF p.rl p.h p.it p.v none p.hs p.ts p.ep)]) (hz:IsZs p.zs zs) (tab:Tab sh₀)
  (hv:HdrAt sh₀ p.v d l) (hl:sh₀.heap.get? l=some (listO (refsA refs) m)) (hL:277≤l) (hne:l≠p.rl) (hr:RowsAt sh₀ refs rows) (nd:refs.Nodup) (ok: ∀ r∈rows,OkRow r) (len:rows.length+c3 zs≤13):
  codeAny (model prog w) A (rdLC p.it p.fr) (fun r sh'=>r= .ok .next∧Ext (rdMu p) sh₀ sh'∧RdSt sh' p (stepsZ rows zs)) sh₀:=by
 subst hg
 refine x7 (id H) fun o0 l0 o1 l1 o2 l2 zz=>?_
 have l7:277≤sh₀.heap.objs.size:=T.l7
 refine loop_rule (Inv:=RdInv w sh₀ p rows zs) (n:=zs.length) (fun i sh hin I K=>?_) (fun sh I=>?_) zs.length 0 sh₀ (by lia) ⟨T,.refl T.gens T.toks,⟨tab,p.v,d,l,refs,m,none,p.hs,p.ts,p.ep,hv,hL,hl,hr,nd,o2,hne⟩,by rw [hi] at o0; exact o0⟩
 ·refine x36 I fun T1 X tab1 v d1 l refs1 m1 e hs ts ep hv1 hL1 hl1 hr1 nd1 hf1 hn1 hit=>?_; clear I
  obtain ⟨z,hzi⟩: ∃ z,zs[i]? =some z:=⟨zs[i]'hin,by simp⟩
  refine x1 (hz.get hzi) fun tz hzt=>?_
  refine x1 tab1.obj fun txs ht=>?_
  let q:RdP:= {p with i:=i,v:=v,z:=z,tz:=tz,hs:=hs,ts:=ts,ep:=ep,o:=tabO txs}
  have hrl:sh.heap.get? p.rl=some (listO p.zs p.n):=X.keep _ _ o1 (by
   rintro (q | q | q)
   ·exact ne_of o0 o1 (by kernel_rfl) q
   ·exact ne_of o2 o1 (by kernel_rfl) q
   ·exact tab_ne l1 q.symm)
  have F:Facts 0 sh (rdD q e):=rd_facts (p:=q) (xs:=txs) hit l0 hrl l1 hf1 l2 ht
  have hk:AllK (rdD q e):=⟨ktno_ge l0,ktno_ge l1,ktno_ge l2,ktno_73,trivial⟩
  have nt:NoTup sh (inD (rdD q e)):=by
   rintro b (rfl | rfl | rfl | rfl | hb) xs h
   ·exact ne_of (o':=tupO xs) hit h (by kernel_rfl) rfl
   ·exact ne_of (o':=tupO xs) hrl h (by kernel_rfl) rfl
   ·exact ne_of (o':=tupO xs) hf1 h (by kernel_rfl) rfl
   ·rw [ht] at h
    have h:=congrArg Obj.cls (Option.some.inj h)
    cases h
   ·exact hb
  have nin: ∀ {b:Nat} {o:Obj},sh.heap.get? b=some o→277≤b→kne (iterO p.rl i).cls o.cls=true→b≠p.rl→kne (.type "frame") o.cls=true→ ¬ inD (rdD q e) b:=by
   intro b o ho hb k1 k2 k3
   rintro (h | h | h | h | h)
   ·exact ne_of hit ho k1 h
   ·exact k2 h
   ·exact ne_of hf1 ho k3 h
   ·exact tab_ne hb h.symm
   ·exact h
  refine x8 hv1.dict fun hs1 ts1 ep1 hd1=>?_
  have vin:=nin hv1.inst hv1.hL (by kernel_rfl) (fun h=>ne_of hrl hv1.inst (by kernel_rfl) h) (by kernel_rfl)
  have din:=nin hd1 hv1.dL (by kernel_rfl) (fun h=>ne_of hrl hd1 (by kernel_rfl) h) (by kernel_rfl)
  have lin:=nin hl1 hL1 (by kernel_rfl) hn1 (by kernel_rfl)
  have okI:=stepsZ_ok ok (zs.take i)
  have lenI:=stepsZ_len rows (zs.take i)
  have cI:=c3_take zs i
  have lenR:=hr1.length
  refine walk_codeG T1 Rm rfl F hk 100 [1,1] fun K' t hK zz=>?_
  have y:=rdT_0 q e K' t
  rw [show q.P=w.params from hp] at y
  revert y
  show rdT q (runC p.prog w.params 100 (rdLC p.it p.fr) [1,1] (rdD q e) K' t)→_
  generalize runC p.prog w.params 100 (rdLC p.it p.fr) [1,1] (rdD q e) K' t=R
  intro y
  refine CNext.ok y Rm T1.size hzt fun R' y=>?_
  refine CSw.okR (fun s sh1 x sh'=>sh'.heap.get? 73=some x.2∧Ext (fun b=>b=73) sh1 sh'∧Tab sh'∧∃ d' l' refs' n',HdrAt sh' x.1 d' l'∧277≤l'∧sh'.heap.get? l'=some (listO (refsA refs') n')∧RowsAt sh' refs' (stepZ (stepsZ rows (zs.take i)) z)∧refs'.Nodup) y Rm T1.size (fun s sh1 B pre S T2 RB=>?_) fun x s sh1 s' sh2 R' pre S hT X1 S' hD T2 y=>?_
  ·have X1:=S.ext (sh₀:=sh) rfl rfl
   obtain ⟨_,_,_,⟨b3,_⟩,_⟩:=S.all0 (js:= [0,1,2,3]) (D2:=s.D) (by rw [pre]; rfl) |> fun h=>by rw [pre] at h; exact h
   have tab2:Tab sh1:=by
    cases tab1 with
    | none h=>
     rw [ht] at h
     exact .none (b3.trans h)
    | code c cvs h hc hc7=>
     rw [ht] at h
     exact .code c cvs (b3.trans h) (X1.keep _ _ hc (nin hc hc7 (by kernel_rfl) (fun h=>ne_of hrl hc (by kernel_rfl) h) (by kernel_rfl))) hc7
   refine codeAny_mono (ruled_spec (prog:=p.prog) RB T2 (hv1.ext X1 vin din) (X1.keep _ _ hl1 lin) hL1 (hr1.ext X1 nt) okI (by lia) nd1 tab2 (kz_lt z) (jz_lt z) (kz_eq z) (jz_eq z) tz) fun r sh' hq=>?_
   refine x37 hq fun h' d' l' refs' n' h1 h2 h3 h4 h5 h6 h7 h8=>?_; clear hq
   rw [stepZ_ruled] at h5
   refine x1 h8.obj fun ys hy=>?_
   have i3:s.D[3]? =some (73,tabO txs):=by rw [pre]; rfl
   have ch:chA [false,false,false,true] s.D 73:=chA_of (j:=3) (x:=(73,tabO txs)) rfl i3
   refine ⟨(h',tabO ys),h1,⟨hy,h7,h8,d',l',refs',n',h2,h3,h4,h5,h6⟩,h7.weak (fun b hb=>by rw [hb]; exact ch),.cons hy (Nat.zero_le _) ne_nil .nil,fun y hy=>.inr ?_⟩
   rw [List.mem_singleton.mp hy]; exact ch
  ·refine x64 hT fun x2 x3 x4 d' l' refs' n' y1 y2 y3 y4 y5=>?_; clear hT
   have hD:s'.D= [(p.it,iterO p.rl (i+1)),(p.rl,listO p.zs p.n),(p.fr,rdG q v s),(73,x.2)]:=by
    rw [hD,pre]; rfl
   refine CLoop.ok y fun sh3 y S3=>?_
   have Y:Ext (inD s'.D) sh2 sh3:=S3.ext (sh₀:=sh2) rfl rfl
   refine x9 (S3.all0 (js:= [0,1,2,3]) (D2:= [(p.it,iterO p.rl (i+1)),(p.rl,listO p.zs p.n),(p.fr,rdG q x.1 (stOf R')),(73,x.2)]) (by rw [y]; rfl)) fun a0 zz a1 zz a2 zz a3 zz zz=>?_
   refine x9 (S'.all0 (js:= [0,1,2,3]) (D2:= [(p.it,iterO p.rl (i+1)),(p.rl,listO p.zs p.n),(p.fr,rdG q v s),(73,x.2)]) (by rw [hD]; rfl)) fun b0 zz b1 zz b2 zz b3 zz zz=>?_
   refine x1 x4.obj fun ys hys=>?_
   have ex:x.2=tabO ys:=by rw [x2] at hys; exact Option.some.inj hys
   have nt2:NoTup sh2 (inD s'.D):=by
    rw [hD]
    rintro b (rfl | rfl | rfl | rfl | hb) xs h
    ·exact ne_of (o':=tupO xs) b0 h (by kernel_rfl) rfl
    ·exact ne_of (o':=tupO xs) b1 h (by kernel_rfl) rfl
    ·exact ne_of (o':=tupO xs) b2 h (by kernel_rfl) rfl
    ·rw [hys] at h
     have h:=congrArg Obj.cls (Option.some.inj h)
     cases h
    ·exact hb
   have nin2: ∀ {b:Nat} {o:Obj},sh2.heap.get? b=some o→277≤b→kne (iterO p.rl i).cls o.cls=true→b≠p.rl→kne (.type "frame") o.cls=true→ ¬ inD s'.D b:=by
    intro b o ho hb k1 k2 k3
    rw [hD]
    rintro (h | h | h | h | h)
    ·exact ne_of b0 ho k1 h
    ·exact k2 h
    ·exact ne_of b2 ho k3 h
    ·exact tab_ne hb h.symm
    ·exact h
   refine x8 y1.dict fun hs2 ts2 ep2 hd2=>?_
   have ln:=refs_ne y3 b1 hzt (fun a h=>by cases h)
   have vin2:=nin2 y1.inst y1.hL (by kernel_rfl) (fun h=>ne_of b1 y1.inst (by kernel_rfl) h) (by kernel_rfl)
   have din2:=nin2 hd2 y1.dL (by kernel_rfl) (fun h=>ne_of b1 hd2 (by kernel_rfl) h) (by kernel_rfl)
   have lin2:=nin2 y3 y2 (by kernel_rfl) ln (by kernel_rfl)
   have Z:Ext (inD (rdD q e)) sh sh3:=Ext.across S' rfl rfl Y
   have Z':Ext (rdMu p) sh sh3:=Z.mono fun b o ho hb=>by
    rcases hb with hb | hb | hb | hb | hb
    ·exact .inl (.inl hb)
    ·right
     have hb:b=p.rl:=hb
     rw [hb] at ho ⊢
     rw [hrl] at ho
     rw [←ho]
     exact a1
    ·exact .inl (.inr (.inl hb))
    ·exact .inl (.inr (.inr hb))
    ·exact hb.elim
   have tab3:Tab sh3:=by
    cases x4 with
    | none h=>
     rw [x2] at h
     exact .none (a3.trans h)
    | code c cvs h hc hc7=>
     rw [x2] at h
     exact .code c cvs (a3.trans h) (Y.keep _ _ hc (nin2 hc hc7 (by kernel_rfl) (fun h=>ne_of b1 hc (by kernel_rfl) h) (by kernel_rfl))) hc7
   have T3:Top w sh3:=topW w S3 rfl T2.size
   refine K sh3 ⟨T3,X.trans Z',⟨tab3,x.1,d',l',refs',n',some (.int z tz),_,_,_,y1.ext Y vin2 din2,y2,Y.keep _ _ y3 lin2,?_,y5,a2,ln⟩,a0⟩
   have e1:zs.take (i+1)=zs.take i++ [z]:=by rw [List.take_add_one,hzi]; rfl
   rw [e1,stepsZ_snoc]
   exact y4.ext Y nt2
 ·refine x36 I fun T1 X tab1 v d1 l refs1 m1 e hs ts ep hv1 hL1 hl1 hr1 nd1 hf1 hn1 hit=>?_; clear I
  refine x1 tab1.obj fun txs ht=>?_
  let q:RdP:= {p with i:=zs.length,v:=v,hs:=hs,ts:=ts,ep:=ep,o:=tabO txs}
  have hrl:sh.heap.get? p.rl=some (listO p.zs p.n):=X.keep _ _ o1 (by
   rintro (q | q | q)
   ·exact ne_of o0 o1 (by kernel_rfl) q
   ·exact ne_of o2 o1 (by kernel_rfl) q
   ·exact tab_ne l1 q.symm)
  have F:Facts 0 sh (rdD q e):=rd_facts (p:=q) (xs:=txs) hit l0 hrl l1 hf1 l2 ht
  have hk:AllK (rdD q e):=⟨ktno_ge l0,ktno_ge l1,ktno_ge l2,ktno_73,trivial⟩
  refine walk_codeG T1 Rm rfl F hk 100 [1,1] fun K' t hK zz=>?_
  have y:=rdE_0 q e K' t
  rw [show q.P=w.params from hp] at y
  revert y
  show rdE q e (runC p.prog w.params 100 (rdLC p.it p.fr) [1,1] (rdD q e) K' t)→_
  generalize runC p.prog w.params 100 (rdLC p.it p.fr) [1,1] (rdD q e) K' t=R
  intro y
  refine CLast.ok y Rm T1.size (by show p.zs[zs.length]? =none; exact Array.getElem?_eq_none (by rw [hz.size]; lia)) fun ex R' y=>?_
  refine CEnd.ok y fun sh' y S=>?_
  have Y:=(S.only (sh:=sh) rfl rfl rfl F y).weak (mu':=fun b=>b=p.it) fun b h=>by
   rcases h with h | h
   ·exact h
   ·exact h.elim
  rw [List.take_length] at hr1
  refine x8 hv1.dict fun hs1 ts1 ep1 hd1=>?_
  refine ⟨rfl,X.trans (Y.weak fun b h=>.inl h),tab1.ext Y (tab_ne l0) (fun c cvs hc zz=>ne_of hit hc (by kernel_rfl)),v,d1,l,refs1,m1,e,hs,ts,ep,hv1.ext Y (ne_of hit hv1.inst (by kernel_rfl)) (ne_of hit hd1 (by kernel_rfl)),hL1,Y.keep _ _ hl1 (ne_of hit hl1 (by kernel_rfl)),hr1.ext Y (fun b hb xs h=>?_),nd1,Y.keep _ _ hf1 (ne_of hit hf1 (by kernel_rfl)),hn1⟩
  subst hb
  exact ne_of (o':=tupO xs) hit h (by kernel_rfl) rfl
end
structure RoomE (k e:Nat) (A:Around):Prop where
 depth:A.depth+290+50 * k+5 * e<recursionLimit
 units:A.units+1000+100 * k+10 * e<cLine
 handled:A.handled=none
theorem RoomE.room {k e:Nat} {A:Around} (h:RoomE k e A):Room k A:=⟨by have:=h.depth; lia,by have:=h.units; lia,h.handled⟩
theorem RoomE.down {k e:Nat} {A B:Around} (h:RoomE k (e+1) A) (h1:B.handled=none) (h2:B.depth≤A.depth+5) (h3:B.units≤A.units+10):RoomE k e B:=
 ⟨by have:=h.depth; lia,by have:=h.units; lia,h1⟩
theorem ok_stop0 {V:Sv} {R:Rs} {c:Code} (h0:nOf R=0) (ob:obsS R=(2,dup (lgOf R),none,true,c))
  (h: ∀ sh,Sat V (stOf R) sh→∀ A:Around,A.handled=none→A.depth≤V.A.depth+5→A.units≤V.A.units+10→
   codeAny V.M A c (fun r sh'=>∃ h₀ mu os t₀ hs s',Sat (V.re h₀ mu os t₀) s' sh'∧Ok (V.re h₀ mu os t₀) (contOf R hs r s')) sh):Ok V R:=by
 cases R with
 | stop n cx hx s f=>
  simp only [obsS,Prod.mk.injEq] at ob
  refine x17 ob fun zz hl hh hn hc=>?_; clear ob
  have hh:hx=none:=hh
  have hc:cx=c:=hc
  have h0:n=0:=h0
  subst hh hc
  exact ⟨allEq_of_dup hl,fun sh S A h1 h2 h3=>h sh S A h1 (by lia) (by lia)⟩
 | _=>simp [obsS,tagOf] at ob
section
variable {prog:Program} {w:World} {A:Around} {Q:Result→Shared→Prop} {h₀:Heap} {mu:Nat→Prop} {os:OsState} {t₀:Nat} {R:Rs} {k e:Nat}
theorem CSw.okE {X:Type} {c:St→Code} {pre:St→Prop} {r:X→Result} {cs:List Bool} {D':St→X→List (Nat×Obj)} {hs:X→List Nat} {P:X→Rs→Prop} (T:St→Shared→X→Shared→Prop) (hn:nOf R=0) (H:CSw c pre r cs D' hs P R) (Rm:RoomE k (e+1) A) (h0:278≤h₀.objs.size)
  (spec: ∀ s sh B,pre s→Sat (sv prog w A Q h₀ mu os t₀) s sh→Top w sh→RoomE k e B→codeAny (model prog w) B (c s) (PoS r (T s sh) (chA cs s.D) (D' s) sh) sh)
  (h: ∀ x s sh s' sh' R',pre s→Sat (sv prog w A Q h₀ mu os t₀) s sh→T s sh x sh'→Ext (chA cs s.D) sh sh'→Sat (sv prog w A Q h₀ mu os t₀) s' sh'→s'.D=apL (keepA cs s.D) (D' s x)→Top w sh'→P x R'→Ok (sv prog w A Q sh'.heap (inD s'.D) sh'.os sh'.toks) R'):Ok (sv prog w A Q h₀ mu os t₀) R:=by
 refine ok_stop0 hn H.1 fun sh S B h1 h2 h3=>?_
 have T0:=topW w S rfl h0
 refine codeAny_mono (spec _ sh B H.2.1 S T0 (Rm.down h1 h2 h3)) fun r' sh' hq=>x16 hq fun x hr ht X N N2=>?_
 have hz:278≤sh'.heap.objs.size:=Nat.le_trans T0.size X.size
 have S':=Sat.swap0 (V:=sv prog w A Q h₀ mu os t₀) (fun zz zz e=>kt_low e) h0 S X N N2 (b:=sh'.heap.objs.size - 278+278) (t:=sh'.toks - 849+849) (Nat.sub_add_cancel hz).symm (Nat.sub_add_cancel X.t849).symm
 have q:=h x _ sh _ sh' _ H.2.1 S ht X S' rfl (topW w S' rfl h0) (H.2.2 x (sh'.heap.objs.size - 278) (sh'.toks - 849))
 subst hr
 exact ⟨_,_,_,_,hs x,_,S'.rebase,q⟩
end
theorem rnN_0 (p:RnP) (K t:Nat):nOf (runC p.prog p.P 100 (reduceC p.rl (p.h+277)) hRn (rnD p) K t)=0:=pset1 (X:=fun P=>nOf (runC p.prog P 100 (reduceC p.rl (p.h+277)) hRn (rnD p) K t)=0) fun b1 b2=>by
 cases b2<;>kernel_rfl
section
variable {prog:Program} {w:World} {A:Around}
theorem reduce_spec (Rm:RoomE 7 1 A) {sh:Shared} {rows:List Row} {refs:List Nat} {zs:List Int} {h d l rl m n:Nat} {vs:Array Value} (T:Top w sh) (tab:Tab sh) (hv:HdrAt sh h d l) (hl:sh.heap.get? l=some (listO (refsA refs) m)) (hL:277≤l) (hr:RowsAt sh refs rows) (nd:refs.Nodup) (ok: ∀ r∈rows,OkRow r)
  (hrl:sh.heap.get? rl=some (listO vs n)) (hrL:277≤rl) (hz:IsZs vs zs) (hne:l≠rl) (len:rows.length+c3 zs≤13):
  codeAny (model prog w) A (reduceC rl h) (RuPost sh (stepsZ rows zs)) sh:=by
 obtain ⟨h',rfl⟩: ∃ h',h=h'+277:=⟨h - 277,by have:=hv.hL; lia⟩
 refine x1 tab.obj fun txs ht=>?_
 let p:RnP:=⟨prog,w.params,h',d,rl,n,vs,tabO txs⟩
 have F:Facts 0 sh (rnD p):=.cons hrl (Nat.zero_le _) (ne_cons (ne_of hrl hv.inst (by kernel_rfl)) (ne_cons (tab_ne hrL) ne_nil)) (.cons hv.inst (Nat.zero_le _) (ne_cons (tab_ne hv.hL) ne_nil) (.cons ht (Nat.zero_le _) ne_nil .nil))
 have hk:AllK (rnD p):=⟨ktno_ge hrL,ktno_ge hv.hL,ktno_73,trivial⟩
 have hz7:277≤sh.heap.objs.size:=T.l7
 refine walk_codeG T Rm.room rfl F hk 100 hRn fun K t hK zz=>?_
 have q:=rnT_0 p K t
 have qn:=rnN_0 p K t
 revert q qn
 show rnT p (runC prog w.params 100 (reduceC rl (h'+277)) hRn (rnD p) K t)→nOf (runC prog w.params 100 (reduceC rl (h'+277)) hRn (rnD p) K t)=0→_
 generalize runC prog w.params 100 (reduceC rl (h'+277)) hRn (rnD p) K t=R
 intro q qn
 refine x8 hv.dict fun hs1 ts1 ep1 hd1=>?_
 have nin: ∀ {b:Nat} {o:Obj},sh.heap.get? b=some o→277≤b→kne (.ref 224) o.cls=true→b≠rl→ ¬ inD (rnD p) b:=by
  intro b o ho hb k1 k2
  rintro (h | h | h | h)
  ·exact k2 h
  ·exact ne_of hv.inst ho k1 h
  ·exact tab_ne hb h.symm
  ·exact h
 have lin:=nin hl hL (by kernel_rfl) hne
 have din:=nin hd1 hv.dL (by kernel_rfl) (fun h=>ne_of hrl hd1 (by kernel_rfl) h)
 have nt:NoTup sh (inD (rnD p)):=by
  rintro b (rfl | rfl | rfl | hb) xs h
  ·exact ne_of (o':=tupO xs) hrl h (by kernel_rfl) rfl
  ·exact ne_of (o':=tupO xs) hv.inst h (by kernel_rfl) rfl
  ·rw [ht] at h
   have h:=congrArg Obj.cls (Option.some.inj h)
   cases h
  ·exact hb
 refine CSw.okE (fun s sh1 x sh'=>sh'.heap.get? 73=some x.o∧Tab sh'∧∃ d' l' refs' m',HdrAt sh' x.v d' l'∧277≤l'∧sh'.heap.get? l'=some (listO (refsA refs') m')∧RowsAt sh' refs' (stepsZ rows zs)∧refs'.Nodup∧l'≠rl) qn q Rm T.size (fun s sh1 B pre S T1 RB=>?_) fun x s sh1 s' sh2 R' pre S hT X1 S' hD T2 q=>?_
 ·refine x17 pre fun p1 g3 g1 g2 g4=>?_; clear pre
  have X:=S.ext (sh₀:=sh) rfl rfl
  have b3:=S.obj g3
  have mu7: ∀ b,inD (rnD p) b→277≤b∨b=73:=by
   rintro b (rfl | rfl | rfl | hb)
   ·exact .inl hrL
   ·exact .inl hv.hL
   ·exact .inr rfl
   ·exact hb.elim
  have O:=S.all77 mu7 hz7 g3 p1 (by decide)
  refine x65 (id O) fun zz zz oF lF zz=>?_
  have i3:s.D[2]? =some (73,tabO txs):=by rw [←getD_eq]; exact g3
  have ch3:chA [false,false,true,true,true] s.D 73:=chA_of (j:=2) (x:=(73,tabO txs)) rfl i3
  have tab1:Tab sh1:=by
   cases tab with
   | none h=>
    rw [ht] at h
    exact .none (b3.trans h)
   | code c cvs h hc hc7=>
    rw [ht] at h
    exact .code c cvs (b3.trans h) (X.keep _ _ hc (nin hc hc7 (by kernel_rfl) (fun h=>ne_of hrl hc (by kernel_rfl) h))) hc7
  refine x0 (keepA_idx (i:=1) (x:=(h'+277,instO d)) (by rw [g4]; rfl)) fun j1 hj1 zz=>?_
  have hv1:HdrAt sh1 (h'+277) d l:=⟨S.own j1 _ hj1,⟨_,_,_,X.keep _ _ hd1 din⟩,hv.hL,hv.dL⟩
  refine codeAny_mono (rd_loop (prog:=prog) RB.room (p:=rnP p s) rfl rfl T1 rfl O hz tab1 hv1 (X.keep _ _ hl lin) hL hne (hr.ext X nt) nd ok len) fun r sh' hq=>?_
  refine x66 hq fun h1 h2 h3 v d' l' refs' m' e hs ts ep h4 h5 h6 h7 h8 h9 h10=>?_; clear hq
  refine x1 h3.obj fun ys hy=>?_
  refine ⟨⟨v,e,hs,ts,ep,tabO ys⟩,h1,⟨hy,h3,d',l',refs',m',h4,h5,h6,h7,h8,h10⟩,h2.weak fun b hb=>?_,.cons h9 (Nat.zero_le _) (ne_cons (tab_ne lF) ne_nil) (.cons hy (Nat.zero_le _) ne_nil .nil),fun y hy=>.inr ?_⟩
  ·rcases hb with rfl | rfl | rfl
   ·exact chA_at g2 rfl
   ·exact chA_at g1 rfl
   ·exact ch3
  ·rcases List.mem_cons.mp hy with rfl | hy
   ·exact chA_at g1 rfl
   ·rw [List.mem_singleton.mp hy]; exact ch3
 ·refine x67 hT fun x1 x2 d' l' refs' m' y1 y2 y3 y4 y5 y6=>?_; clear hT
  refine x17 pre fun p1 g3 g1 g2 g4=>?_; clear pre
  refine CEnd.ok q fun sh3 q S3=>?_
  have hD':s'.D= [(rl,listO vs n),(h'+277,instO d),(aOf s 3,rdF rl (h'+277) (aOf s 4) x.v x.e x.hs x.ts x.ep),(73,x.o)]:=by rw [hD,g4]; rfl
  have Y:Ext (inD s'.D) sh2 sh3:=S3.ext (sh₀:=sh2) rfl rfl
  have own3: ∀ y∈ [(rl,listO vs n),(h'+277,instO d),(73,x.o)],sh3.heap.get? y.1=some y.2:=fun y hy=>by
   rw [←q] at hy
   obtain ⟨i,hi⟩:=List.getElem?_of_mem (keepD_sub hy)
   exact S3.own i y hi
  obtain ⟨⟨b0,_⟩,⟨b1,_⟩,⟨b2,_⟩,⟨b3,_⟩,_⟩:=S'.all0 (js:= [0,1,2,3]) (D2:=s'.D) (by rw [hD']; rfl) |> fun h=>by rw [hD'] at h; exact h
  have c0:=own3 (rl,listO vs n) (by simp)
  have c1:=own3 (h'+277,instO d) (by simp)
  have c3:=own3 (73,x.o) (by simp)
  have Y':Ext (fun b=>b=aOf s 3) sh2 sh3:=Y.mono fun b o ho hb=>by
   rw [hD'] at hb
   rcases hb with hb | hb | hb | hb | hb
   ·right
    have hb:b=rl:=hb
    rw [hb] at ho ⊢
    rw [b0] at ho
    rw [←ho]
    exact c0
   ·right
    have hb:b=h'+277:=hb
    rw [hb] at ho ⊢
    rw [b1] at ho
    rw [←ho]
    exact c1
   ·exact .inl hb
   ·right
    have hb:b=73:=hb
    rw [hb] at ho ⊢
    rw [b3] at ho
    rw [←ho]
    exact c3
   ·exact hb.elim
  have Z:Ext (fun b=>b=73) sh sh3:=(Ext.across S' rfl rfl Y).mono fun b o ho hb=>by
   rcases hb with hb | hb | hb | hb
   ·right
    have hb:b=rl:=hb
    rw [hb] at ho ⊢
    rw [hrl] at ho
    rw [←ho]
    exact c0
   ·right
    have hb:b=h'+277:=hb
    rw [hb] at ho ⊢
    rw [hv.inst] at ho
    rw [←ho]
    exact c1
   ·exact .inl hb
   ·exact hb.elim
  refine x8 y1.dict fun hs2 ts2 ep2 hd2=>?_
  refine ⟨x.v,d',l',refs',m',rfl,y1.ext Y' (ne_of b2 y1.inst (by kernel_rfl)) (ne_of b2 hd2 (by kernel_rfl)),y2,Y'.keep _ _ y3 (ne_of b2 y3 (by kernel_rfl)),y4.ext Y' ?_,y5,Z,x2.ext Y' (fun h=>?_) (fun c cvs hc zz=>ne_of b2 hc (by kernel_rfl))⟩
  ·intro b hb xs h
   have hb:b=aOf s 3:=hb
   subst hb
   exact ne_of (o':=tupO xs) b2 h (by kernel_rfl) rfl
  ·rw [h] at b3
   rw [b2] at b3
   obtain ⟨ys,hys⟩:=x2.obj
   rw [x1] at hys
   rw [Option.some.inj hys] at b3
   have:=congrArg Obj.cls (Option.some.inj b3)
   cases this
end
noncomputable def CN {X:Type} (c:St→Code) (pre:St→Prop) (r:X→Result) (D':X→List (Nat×Obj)) (hs:X→List Nat) (P:X→Rs→Prop) (R:Rs):Prop:=
 obsS R=(2,dup (lgOf R),none,true,c (stOf R))∧pre (stOf R)∧∀ x K t,P x (contOf R (hs x) (r x) ⟨D' x,K+278,0,t+849,0,[]⟩)
noncomputable instance CN.rf {X:Type} {c:St→Code} {pre:St→Prop} {r:X→Result} {D':X→List (Nat×Obj)} {hs:X→List Nat} {P:X→Rs→Prop} {R:Rs} [Rx X] [∀ y1,Rf (pre y1)] [∀ y1 y2,Rf (P y1 y2)]:Rf (CN c pre r D' hs P R):=by
 delta CN; infer_instance
section
variable {prog:Program} {w:World} {A:Around} {Q:Result→Shared→Prop} {h₀:Heap} {mu:Nat→Prop} {os:OsState} {t₀:Nat} {R:Rs} {k e:Nat}
theorem Sat.anew {sh:Shared} (T:Top w sh) {D:List (Nat×Obj)} (F:Facts 0 sh D) (hk:AllK D):Sat (sv prog w A Q sh.heap (inD D) sh.os sh.toks) ⟨D,(sh.heap.objs.size - 278)+278,0,(sh.toks - 849)+849,0,[]⟩ sh:=
 Sat.startG T F hk (Nat.sub_add_cancel T.size).symm (Nat.sub_add_cancel T.toks).symm
noncomputable abbrev PoN {X:Type} (w:World) (r:X→Result) (T:X→Shared→Prop) (D':X→List (Nat×Obj)) (r':Result) (sh':Shared):Prop:=∃ x,r'=r x∧T x sh'∧Top w sh'∧Facts 0 sh' (D' x)∧AllK (D' x)
theorem CN.ok {X:Type} {c:St→Code} {pre:St→Prop} {r:X→Result} {D':X→List (Nat×Obj)} {hs:X→List Nat} {P:X→Rs→Prop} (T:X→Shared→Prop) (H:CN c pre r D' hs P R) (Rm:Room (k+1) A) (h0:278≤h₀.objs.size)
  (spec: ∀ s sh B,pre s→Sat (sv prog w A Q h₀ mu os t₀) s sh→Top w sh→Room k B→codeAny (model prog w) B (c s) (PoN w r T D') sh)
  (h: ∀ x sh' R',T x sh'→Top w sh'→Facts 0 sh' (D' x)→P x R'→Ok (sv prog w A Q sh'.heap (inD (D' x)) sh'.os sh'.toks) R'):Ok (sv prog w A Q h₀ mu os t₀) R:=by
 refine ok_stopR H.1 fun sh S B h1 h2 h3=>?_
 have T0:=topW w S rfl h0
 refine codeAny_mono (spec _ sh B H.2.1 S T0 (Rm.down h1 h2 h3)) fun r' sh' hq=>x16 hq fun x hr ht T1 F hk=>?_
 have q:=h x sh' _ ht T1 F (H.2.2 x (sh'.heap.objs.size - 278) (sh'.toks - 849))
 subst hr
 exact ⟨_,_,_,_,hs x,_,Sat.anew T1 F hk,q⟩
theorem CN.okE {X:Type} {c:St→Code} {pre:St→Prop} {r:X→Result} {D':X→List (Nat×Obj)} {hs:X→List Nat} {P:X→Rs→Prop} (T:X→Shared→Prop) (hn:nOf R=0) (H:CN c pre r D' hs P R) (Rm:RoomE k (e+1) A) (h0:278≤h₀.objs.size)
  (spec: ∀ s sh B,pre s→Sat (sv prog w A Q h₀ mu os t₀) s sh→Top w sh→RoomE k e B→codeAny (model prog w) B (c s) (PoN w r T D') sh)
  (h: ∀ x sh' R',T x sh'→Top w sh'→Facts 0 sh' (D' x)→P x R'→Ok (sv prog w A Q sh'.heap (inD (D' x)) sh'.os sh'.toks) R'):Ok (sv prog w A Q h₀ mu os t₀) R:=by
 refine ok_stop0 hn H.1 fun sh S B h1 h2 h3=>?_
 have T0:=topW w S rfl h0
 refine codeAny_mono (spec _ sh B H.2.1 S T0 (Rm.down h1 h2 h3)) fun r' sh' hq=>x16 hq fun x hr ht T1 F hk=>?_
 have q:=h x sh' _ ht T1 F (H.2.2 x (sh'.heap.objs.size - 278) (sh'.toks - 849))
 subst hr
 exact ⟨_,_,_,_,hs x,_,Sat.anew T1 F hk,q⟩
end
theorem Top.ext0 {w:World} {sh sh':Shared} {mu:Nat→Prop} (T:Top w sh) (X:Ext mu sh sh') (h: ∀ b,mu b→KtNo b):Top w sh':=
 ⟨X.gens,fun a o e=>X.keep a o (T.kt a o e) fun q=>(by rw [h a q w.params] at e; cases e),Nat.le_trans T.size X.size,X.t849⟩
noncomputable def lawC (it fr ct cn:Nat):Code:=forC lawFor it (fenv (fn 26) qLaw 276 275 fr [("told",ct),("names",cn)])
noncomputable def cellX (v:Option Value):Obj:= {cls:=.type "cell",data:=.cell v}
structure LawP where
 prog:Program
 P:Params
 it:Nat
 i:Nat
 left:Int
 fr:Nat
 sl:Nat
 lr:Nat
 n1:Nat
 xs:Array Value
 rl:Nat
 n2:Nat
 zs:Array Value
 ct:Nat
 cn:Nat
noncomputable def frL (p:LawP) (e:List (Str×Value)) (hs:Nat→Int) (ts:Nat→Nat) (ep:Nat):Obj:=frmO (("script",.ref p.sl)::("rows",.ref p.lr)::("rules",.ref p.rl)::e) hs ts ep
noncomputable def fO (i tk a b:Nat):Bool→List (Str×Value)
 | false=> []
 | true=> [("count",.int (Int.ofNat i) tk),("items",.ref a),("order",.ref b)]
noncomputable def fA (i tk a b:Nat):Bool→List (Str×Value)
 | false=> [("count",.int (Int.ofNat i) tk)]
 | true=> [("count",.int (Int.ofNat i) tk),("items",.ref a),("order",.ref b)]
noncomputable def fB (i tk a b:Nat):Bool→List (Str×Value)
 | false=> [("count",.int (Int.ofNat i) tk),("items",.ref a)]
 | true=> [("count",.int (Int.ofNat i) tk),("items",.ref a),("order",.ref b)]
noncomputable def t273 (cd:Nat):Bool→Obj
 | false=>tabO #[]
 | true=>tabO #[rawInt 264,rawInt 45,.ref cd]
noncomputable def dH (l:Nat) (hs:Nat→Int) (ts:Nat→Nat) (ep:Nat):Obj:=dicO [("_headers",.ref l)] hs ts ep
noncomputable def dBase (p:LawP) (io fo:Obj) (cv:Option Value) (o:Obj) (l:List (Nat×Obj)):List (Nat×Obj):=
 (p.it,io)::(p.fr,fo)::(p.ct,cellX cv)::(p.lr,listO p.xs p.n1)::(p.rl,listO p.zs p.n2)::(273,o)::l
noncomputable def io0 (p:LawP):Obj:=riO (Int.ofNat p.i) p.left
noncomputable def io1 (p:LawP):Obj:=riO (Int.ofNat p.i+1) (p.left - 1)
structure LwS where
 i:Nat
 tk:Nat
 a:Nat
 b:Nat
 cd:Nat
 hs:Nat→Int
 ts:Nat→Nat
 ep:Nat
 cv:Option Value
noncomputable def lwD (p:LawP) (f:Bool) (y:LwS):List (Nat×Obj):=dBase p (io0 p) (frL p (fO y.i y.tk y.a y.b f) y.hs y.ts y.ep) y.cv (t273 y.cd f) []
structure LwX where
 h:Nat
 d:Nat
 l:Nat
 hh:Nat→Int
 th:Nat→Nat
 eh:Nat
 hs:Nat→Int
 ts:Nat→Nat
 ep:Nat
 xs:Array Value
 nT:Nat
 cd:Nat
noncomputable def d6 (p:LawP) (f:Bool) (y:LwS) (tk:Nat) (x:LwX):List (Nat×Obj):=dBase p (io1 p) (frL p (fA p.i tk y.a y.b f) x.hs x.ts x.ep) y.cv (t273 y.cd f) [(x.h,instO x.d),(x.d,dH x.l x.hh x.th x.eh)]
noncomputable def d7 (p:LawP) (f:Bool) (y:LwS) (tk:Nat) (x x':LwX):List (Nat×Obj):=dBase p (io1 p) (frL p (fA p.i tk y.a y.b f) x.hs x.ts x.ep) y.cv (t273 y.cd f) [(x'.h,listO x'.xs 0)]
noncomputable def d9 (p:LawP) (f:Bool) (y:LwS) (tk:Nat) (xb x:LwX):List (Nat×Obj):=dBase p (io1 p) (frL p (fB p.i tk xb.h y.b f) x.hs x.ts x.ep) y.cv (t273 y.cd f) [(xb.h,listO xb.xs 0)]
noncomputable def d11 (p:LawP) (f:Bool) (y:LwS) (tk:Nat) (xb xc x:LwX):List (Nat×Obj):=dBase p (io1 p) (frL p (fB p.i tk xb.h y.b f) xc.hs xc.ts xc.ep) (some (.ref xc.h)) (t273 x.cd true) [(xb.h,listO xb.xs 0),(x.h,listO x.xs x.nT)]
noncomputable def d13 (p:LawP) (tk:Nat) (xb xc xo x:LwX):List (Nat×Obj):=dBase p (io1 p) (frL p (fO p.i tk xb.h xo.h true) x.hs x.ts x.ep) (some (.ref xc.h)) (t273 xo.cd true) [(xb.h,listO xb.xs 0),(xo.h,listO xo.xs xo.nT)]
noncomputable def cs6:List Bool:= [true,true,true,false,false,true]
noncomputable def cs7:List Bool:= [true,true,true,false,false,true,false]
noncomputable def cs8:List Bool:= [true,true,true,false,false,true,false,false]
noncomputable def lam0 (f:Bool):Nat:=if f then 9 else 15
noncomputable def cdOf (f:Bool) (cd:Nat) (s:St):Nat:=if f then cd else aOf s 14
noncomputable def v0Of (o:Obj):Value:=match o.data with
 | .fields xs=>xs.toList.headD .none
 | _=>.none
noncomputable def t1Of (o:Obj):Nat:=match o.data with
 | .fields xs=>(match xs.toList.tail.headD .none with
  | .str _ t=>t
  | _=>0)
 | _=>0
noncomputable def vsOf (o:Obj):List Value:=match o.data with
 | .fields xs=>xs.toList.tail.tail
 | _=> []
noncomputable def tkN (i:Nat) (o:Obj):Nat:=match o.data with
 | .fields xs=>(match (xs.toList.drop i).headD .none with
  | .int _ t=>t
  | _=>0)
 | _=>0
noncomputable def rgO (n:Nat) (o:Obj):Obj:=rangeO n (tkN 0 o) (tkN 1 o) (tkN 2 o)
noncomputable def ncJ (f:Bool):List Nat:=if f then [] else [14]
noncomputable def ncL (f:Bool) (s:St):List (Nat×Obj):=if f then [] else [(aOf s 14,lcO (v0Of (dOf s 14)) (t1Of (dOf s 14)) (vsOf (dOf s 14)))]
noncomputable def sortC (x f:Nat):Code:=.call (.builtin "sorted") ⟨[.ref x],[(Str.ofString "key",.ref f)]⟩
noncomputable def getsC (l sl:Nat):Code:=.call (.builtin "list.__getitem__") ⟨[.ref l,.ref sl],[]⟩
noncomputable def hLw:Bool→List Nat
 | false=> [0,0,0,0,8,8,0,8,0,8,0,6,6,6,6,0,0,0,1]
 | true=> [0,0,0,0,8,8,0,8,0,8,0,6,0,0,0,1]
noncomputable def hCf:Option Value→List Nat
 | none=> [11]
 | some _=> [11,11,11]
structure LcX where
 ys:Array Value
 m:Nat
 e:Option Value
 hs:Nat→Int
 ts:Nat→Nat
 ep:Nat
noncomputable instance LcX.rx:Rx LcX:=⟨fun k=>.all fun x:LcX=>.and (k {x with e:=none}) (.all fun v=>k {x with e:=some v}),fun h x=>match x with
 | ⟨y0,y1,none,y3,y4,y5⟩=>(h ⟨y0,y1,none,y3,y4,y5⟩).1
 | ⟨y0,y1,some v,y3,y4,y5⟩=>(h ⟨y0,y1,none,y3,y4,y5⟩).2 v⟩
noncomputable def lcS (p:LawP) (xc xo:LwX) (s:St):List (Nat×Obj):= [(aOf s 10,listO #[] 0),(xo.h,listO xo.xs xo.nT),(aOf s 9,iterO xo.h 0),(aOf s 11,dicO [] (hsOf (dOf s 11)) (tsOf (dOf s 11)) (epOf (dOf s 11))),(p.ct,cellO (.ref xc.h))]
noncomputable def lwEnd (p:LawP) (tk:Nat) (xb xc xo xk:LwX):Rs→Prop:=
 CLoop (lawC p.it p.fr p.ct p.cn) fun s=>pick [0,1,2,3,4,5] s.D=dBase p (io1 p) (frL p (fO p.i tk xb.h xo.h true) (hsOf (dOf s 1)) (tsOf (dOf s 1)) (epOf (dOf s 1))) (some (.ref xc.h)) (t273 xo.cd true) []∧keepD cs8 s.D=keepD cs8 (d13 p tk xb xc xo xk)
noncomputable instance lwEnd.rf {p:LawP} {tk:Nat} {xb xc xo xk:LwX} {R:Rs} :Rf (lwEnd p tk xb xc xo xk R):=by
 delta lwEnd; infer_instance
noncomputable def hCp (b:Bool):List Nat:= [2,8,8,0,8,0,10,0]++(match b with
 | true=> [1]
 | false=> [10,10,0,10,0,10,1])
noncomputable def lwC (p:LawP) (b1 f:Bool) (y:LwS) (tk:Nat) (xb xc xo:LwX):Rs→Prop:=
 CN (X:=Nat×LwX) (fun zz=>ckC) (fun s=>pick [0,1,2,3,4,5,6,7] s.D=d13 p tk xb xc xo {xo with hs:=hsOf (dOf s 1),ts:=tsOf (dOf s 1),ep:=epOf (dOf s 1)} ∧keepD cs8 s.D=keepD cs8 (d11 p f y tk xb xc xo)) (fun x=>.ok (.ret (.ref x.1))) (fun x=>d13 p tk xb xc xo x.2) (fun zz=> [1]) fun xk=>
 CSw (X:=LwX) (fun zz=>sortC xb.h xk.1) (fun s=>s.D=d13 p tk xb xc xo xk.2) (fun x=>.ok (.ret (.ref x.h))) [] (fun zz x=> [(x.h,listO x.xs x.nT)]) (fun zz=>hCp b1) fun xq=>
 CSw (X:=LcX) (fun s=>lcC (aOf s 9) (aOf s 10) p.fr (aOf s 11) p.ct) (fun s=>pick [10,7,9,11,2] s.D=lcS p xc xo s∧some_ s [9,10,11]∧addrN 8 s.D=addrN 8 (d13 p tk xb xc xo xk.2)∧keepD cs8 s.D=keepD cs8 (d13 p tk xb xc xo xk.2)) (fun zz=>.ok .next) (csN [9,10,11] 12) (fun s x=> [(aOf s 10,listO x.ys x.m),(aOf s 11,dicO (kE x.e) x.hs x.ts x.ep)]) (fun x=>hCf x.e) fun xl=>
 CCut (X:=Unit) (fun s=>compareOp .NotEq (.ref xq.h) (.ref (aOf s 9))) (fun s=>pick [8,9] s.D= [(xq.h,listO xq.xs xq.nT),(aOf s 9,listO xl.ys xl.m)]∧keepD cs8 s.D=keepD cs8 (d13 p tk xb xc xo xk.2)) (fun zz=>.bool false) same_ (fun zz=> [1]) fun zz=>lwEnd p tk xb xc xo xk.2
noncomputable instance lwC.rf {p:LawP} {b1 f:Bool} {y:LwS} {tk:Nat} {xb xc xo:LwX} {R:Rs} :Rf (lwC p b1 f y tk xb xc xo R):=by
 delta lwC; infer_instance
noncomputable def lwB (p:LawP) (f:Bool) (y:LwS) (tk:Nat) (xa xb:LwX) (P:LwX→LwX→Rs→Prop):Rs→Prop:=
 CSw (X:=Nat) (fun s=>getsC p.rl (aOf s 7)) (fun s=>pick [4,7] s.D= [(p.rl,listO p.zs p.n2),(aOf s 7,sliceO .none (.int (Int.ofNat p.i) tk) .none)]) (fun x=>.ok (.ret (.ref x))) [] (fun zz x=> [(x,listO (p.zs.toList.take p.i).toArray 0)]) (fun zz=> [0,1]) fun x4=>
 CN (X:=LwX) (fun zz=>plainC p.lr x4) (fun s=>pick [0,1,2,3,4,5,6] s.D=d9 p f y tk xb {xb with hs:=hsOf (dOf s 1),ts:=tsOf (dOf s 1),ep:=epOf (dOf s 1)} ∧pick [8] s.D= [(x4,listO (p.zs.toList.take p.i).toArray 0)]∧some_ s [3,8]∧aOf s 3=p.lr∧aOf s 8=x4∧keepD cs7 s.D=keepD cs7 (d7 p f y tk xa xb)) (fun x=>.ok (.ret (.ref x.h))) (fun x=>d9 p f y tk xb x) (fun zz=> [3,3,0,0,0,0,0,0,3,1]) fun xc=>
 CSw (X:=Nat) (fun zz=>lenC xc.h) (fun s=>keepD cs7 s.D=keepD cs7 (d9 p f y tk xb xc)) (fun t=>.ok (.ret (.int (Int.ofNat xc.nT) t))) [] (fun zz zz=> []) (fun zz=>hLw f) fun tn=>
 CN (X:=LwX) (fun s=>sortC (aOf s 7) (aOf s (lam0 f))) (fun s=>pick [0,1,2,3,4,5,6] s.D=dBase p (io1 p) (frL p (fB p.i tk xb.h y.b f) xc.hs xc.ts xc.ep) (some (.ref xc.h)) (t273 (cdOf f y.cd s) true) [(xb.h,listO xb.xs 0)]∧pick [7] s.D= [(aOf s 7,rgO xc.nT (dOf s 7))]∧pick [lam0 f] s.D= [(aOf s (lam0 f),lamO p.ct (cdOf f y.cd s) (aOf s 8))]∧pick (ncJ f) s.D=ncL f s∧keepD cs7 s.D=keepD cs7 (d9 p f y tk xb xc)) (fun x=>.ok (.ret (.ref x.h))) (fun x=>d11 p f y tk xb xc x) (fun zz=> [2,2,2,3]) fun xo=>
 CCut (X:=Unit) (fun zz=>compareOp .NotEq (.ref xb.h) (.ref xc.h)) (fun s=>keepD cs8 s.D=keepD cs8 (d11 p f y tk xb xc xo)) (fun zz=>.bool false) same_ (fun zz=> [0,0,2,0,0,0,1]) fun zz=>P xc xo
noncomputable instance lwB.rf {p:LawP} {f:Bool} {y:LwS} {tk:Nat} {xa xb:LwX} {P:LwX→LwX→Rs→Prop} {R:Rs} [∀ y1 y2 y3,Rf (P y1 y2 y3)]:Rf (lwB p f y tk xa xb P R):=by
 delta lwB; infer_instance
noncomputable def lwT (p:LawP) (f:Bool) (y:LwS) (P:Nat→LwX→LwX→Rs→Prop):Rs→Prop:=
 CSet (X:=Nat) (fun zz=>.call (.builtin "range_iterator.__next__") ⟨[.ref p.it],[]⟩) (fun s=>pick [0] s.D= [(p.it,io0 p)]∧aOf s 0=p.it) (fun tk=>.ok (.ret (.int (Int.ofNat p.i) tk))) 0 (fun zz zz=>io1 p) (fun zz=> [2,2,0,0,2,2,5,5,5,1]) fun tk=>
 CSw (X:=Nat) (fun s=>getsC p.rl (aOf s 6)) (fun s=>pick [4,6] s.D= [(p.rl,listO p.zs p.n2),(aOf s 6,sliceO .none (.int (Int.ofNat p.i) tk) .none)]) (fun x=>.ok (.ret (.ref x))) [] (fun zz x=> [(x,listO (p.zs.toList.take p.i).toArray 0)]) (fun zz=> [0,0,0,2,0,0,1]) fun x1=>
 CSw (X:=Nat) (fun zz=>.call (.builtin "list.__new__") ⟨[.type "list",.ref p.lr],[]⟩) (fun zz=>True) (fun x=>.ok (.ret (.ref x))) [] (fun zz x=> [(x,listO #[] 0)]) (fun zz=> [9,9,1]) fun x2=>
 CSet (X:=Nat) (fun zz=>.call (.builtin "list.__init__") ⟨[.ref x2,.ref p.lr],[]⟩) (fun s=>pick [3,8] s.D= [(p.lr,listO p.xs p.n1),(x2,listO #[] 0)]∧aOf s 8=x2∧aOf s 3=p.lr∧some_ s [3,8]) (fun zz=>.ok (.ret .none)) 8 (fun zz e=>listO p.xs e) (fun zz=> [0,0,1]) fun e2=>
 CSw (X:=HdX) (fun zz=>hdrC x2) (fun s=>pick [8] s.D= [(x2,listO p.xs e2)]∧keepD cs6 s.D=keepD cs6 (lwD p f y)) (fun x=>.ok (.ret (.ref x.h2))) [] (fun zz x=> [(x.h2,instO x.d2),(x.d2,dH x2 x.hs x.ts x.ep)]) (fun zz=> [0,1]) fun hx R=>
 nOf R=0∧CN (X:=LwX) (fun zz=>reduceC x1 hx.h2) (fun s=>pick [0,1,2,3,4,5] s.D=dBase p (io1 p) (frL p (fA p.i tk y.a y.b f) (hsOf (dOf s 1)) (tsOf (dOf s 1)) (epOf (dOf s 1))) y.cv (t273 y.cd f) []∧pick [7,8,9,10] s.D= [(x1,listO (p.zs.toList.take p.i).toArray 0),(x2,listO p.xs e2),(hx.h2,instO hx.d2),(hx.d2,dH x2 hx.hs hx.ts hx.ep)]∧aOf s 8=x2∧aOf s 7=x1∧some_ s [7,8]∧keepD cs6 s.D=keepD cs6 (lwD p f y)) (fun x=>.ok (.ret (.ref x.h))) (fun x=>d6 p f y tk x) (fun zz=> [7,0,0,0,7,0,0,0,7,0,0,0,0,7,8,0,1]) (fun xa=>
 CN (X:=LwX) (fun zz=>itemsC xa.h) (fun s=>pick [0,1,2,3,4,5,6,7] s.D=d6 p f y tk xa) (fun x=>.ok (.ret (.ref x.h))) (fun x=>d7 p f y tk xa x) (fun zz=> [2,2,0,2,2,2,5,5,5,1]) fun xb=>P tk xa xb) R
noncomputable instance lwT.rf {p:LawP} {f:Bool} {y:LwS} {P:Nat→LwX→LwX→Rs→Prop} {R:Rs} [∀ y1 y2 y3 y4,Rf (P y1 y2 y3 y4)]:Rf (lwT p f y P R):=by
 delta lwT; infer_instance
noncomputable def lwX (p:LawP) (f:Bool) (y:LwS):Rs→Prop:=
 CSw (X:=Nat×Array Value) (fun zz=>.call (.builtin "range_iterator.__next__") ⟨[.ref p.it],[]⟩) (fun s=>pick [0] s.D= [(p.it,io0 p)]) (fun x=>.error (.ref x.1)) [] (fun zz x=> [(x.1,stopO x.2)]) (fun zz=> [7,0]) fun x=>CEnd (.ok .next) fun s=>pick [0,1,2,3,4,5] s.D=lwD p f y
noncomputable instance lwX.rf {p:LawP} {f:Bool} {y:LwS} {R:Rs} :Rf (lwX p f y R):=by
 delta lwX; infer_instance
noncomputable abbrev lwRun (p:LawP) (P:Params) (f:Bool) (y:LwS) (K t:Nat):Rs:=runC p.prog P 800 (lawC p.it p.fr p.ct p.cn) [1,1] (lwD p f y) K t
noncomputable def lwAll (p:LawP) (b1 f:Bool) (y:LwS):Rs→Prop:=lwT p f y fun tk xa xb=>lwB p f y tk xa xb fun xc xo=>lwC p b1 f y tk xb xc xo
noncomputable instance lwAll.rf {p:LawP} {b1 f:Bool} {y:LwS} {R:Rs} :Rf (lwAll p b1 f y R):=by
 delta lwAll; infer_instance
theorem lwF_false (p:LawP) (y:LwS) (K t:Nat):lwAll p (itw p.P) false y (lwRun p p.P false y K t):=pset_two (X:=fun b1 zz P=>lwAll p b1 false y (lwRun p P false y K t)) (P:=p.P) (by exact Rf.prove _ (by kernel_rfl))
theorem lwF_true (p:LawP) (y:LwS) (K t:Nat):lwAll p (itw p.P) true y (lwRun p p.P true y K t):=pset_two (X:=fun b1 zz P=>lwAll p b1 true y (lwRun p P true y K t)) (P:=p.P) (by exact Rf.prove _ (by kernel_rfl))
theorem lwX_0 (p:LawP) (f:Bool) (y:LwS) (K t:Nat):lwX p f y (lwRun p p.P f y K t):=pset1 (X:=fun P=>lwX p f y (lwRun p P f y K t)) (by intro b1; revert f; exact Rf.prove _ (by kernel_rfl))
noncomputable def loose (o:Obj):Bool:=kne o.cls (.type "tuple")&&kne o.cls (.type "code")
theorem loose_tup {o:Obj} (h:loose o=true) (xs:List Value):o≠tupO xs:=by
 rintro rfl
 have:loose (tupO xs)=false:=by unfold loose; rw [show (tupO xs).cls=Value.type "tuple" from rfl,kne_self]; rfl
 rw [this] at h; cases h
structure LooseMu (sh:Shared) (mu:Nat→Prop):Prop where
 at_: ∀ b o,mu b→sh.heap.get? b=some o→loose o=true∨b=273
 tab: ∃ xs,sh.heap.get? 273=some (tabO xs)
 hi: ∀ b,mu b→277≤b∨b=273
theorem LooseMu.not {sh:Shared} {mu:Nat→Prop} (h:LooseMu sh mu) {b:Nat} {o:Obj} (e:sh.heap.get? b=some o) (hl:loose o=false) (hb:b≠273): ¬ mu b:=fun q=>by
 rcases h.at_ b o q e with q | q
 ·rw [hl] at q; cases q
 ·exact hb q
theorem LooseMu.noTup {sh:Shared} {mu:Nat→Prop} (h:LooseMu sh mu):NoTup sh mu:=by
 intro b hb xs e
 rcases h.at_ b _ hb e with q | q
 ·exact loose_tup q xs rfl
 ·refine x1 h.tab fun ys hy=>?_
  rw [q,hy] at e
  have:=congrArg Obj.cls (Option.some.inj e)
  cases this
theorem LooseMu.high {sh:Shared} {mu:Nat→Prop} (h:LooseMu sh mu) {D:List (Nat×Obj)} {lo:Nat} (F:Facts lo sh D) (hl: ∀ y∈D,loose y.2=false) (hb: ∀ y∈D,y.1≠273): ∀ y∈D,¬ mu y.1:=fun y hy=>h.not (F.at0 hy).1 (hl y hy) (hb y hy)
theorem LooseMu.code {sh:Shared} {mu:Nat→Prop} (h:LooseMu sh mu) {c:Nat} {o:Obj} (e:sh.heap.get? c=some o) (hc:o.cls= .type "code"): ¬ mu c:=by
 refine h.not e ?_ ?_
 ·unfold loose
  rw [hc,kne_self]
  simp
 ·rintro rfl
  refine x1 h.tab fun xs hx=>?_
  rw [hx] at e
  have:=congrArg Obj.cls (Option.some.inj e)
  rw [hc] at this
  cases this
theorem LooseMu.tab73 {sh sh':Shared} {mu:Nat→Prop} (h:LooseMu sh mu) (X:Ext mu sh sh') (T:Tab sh):Tab sh':=
 T.ext X (by refine x1 T.obj fun xs e=>?_; exact h.not e rfl (by lia)) fun c cvs hc zz=>h.code hc rfl
noncomputable def all_ (f:Nat×Obj→Bool):List (Nat×Obj)→Bool
 | []=>true
 | x::l=>match f x with
  | true=>all_ f l
  | false=>false
theorem all_at {f:Nat×Obj→Bool} : ∀ {D:List (Nat×Obj)},all_ f D=true→∀ y∈D,f y=true
 | [],_,y,hy=>by cases hy
 | x::l,h,y,hy=>by
  unfold all_ at h
  cases q:f x with
  | false=>rw [q] at h; cases h
  | true=>
   rw [q] at h
   rcases List.mem_cons.mp hy with rfl | hy
   ·exact q
   ·exact all_at h y hy
noncomputable def tight (y:Nat×Obj):Bool:=match loose y.2 with
 | true=>false
 | false=>match Nat.ble 277 y.1 with
  | true=>true
  | false=>Nat.ble y.1 40
theorem tight_at {y:Nat×Obj} (h:tight y=true):loose y.2=false∧y.1≠273:=by
 unfold tight at h
 cases q:loose y.2 with
 | true=>rw [q] at h; cases h
 | false=>
  rw [q] at h
  refine ⟨rfl,fun e=>?_⟩
  rw [e] at h
  cases h
theorem kC0_tight (p:CkP) (x:CkX):all_ tight (kC0 p x)=true:=by kernel_rfl
theorem kC1_tight (p:CkP) (x:CkX):all_ tight (kC1 p x)=true:=by kernel_rfl
section
variable {prog:Program} {w:World} {sh sh':Shared} {mu:Nat→Prop}
theorem LooseMu.tab40 (h:LooseMu sh mu) (X:Ext mu sh sh') (T:Tab40 prog w sh):Tab40 prog w sh':=by
 cases T with
 | none ho=>exact .none (X.keep _ _ ho (h.not ho rfl (by lia)))
 | some p x e1 e2 F G=>
  have a:=h.high F (fun y hy=>(tight_at (all_at (kC0_tight p x) y hy)).1) (fun y hy=>(tight_at (all_at (kC0_tight p x) y hy)).2)
  have b:=h.high G (fun y hy=>(tight_at (all_at (kC1_tight p x) y hy)).1) (fun y hy=>(tight_at (all_at (kC1_tight p x) y hy)).2)
  exact .some p x e1 e2 (F.ext X a) (G.ext X b)
theorem Tab40.ext73 (T:Tab40 prog w sh) (X:Ext (fun b=>b=73) sh sh'):Tab40 prog w sh':=by
 cases T with
 | none ho=>exact .none (X.keep _ _ ho (by lia))
 | some p x e1 e2 F G=>
  have n: ∀ {y:Nat×Obj},tight y=true→y.1≠73:=fun {y} h e=>by
   unfold tight at h
   cases q:loose y.2 with
   | true=>rw [q] at h; cases h
   | false=>rw [q,e] at h; cases h
  exact .some p x e1 e2 (F.ext X fun y hy=>n (all_at (kC0_tight p x) y hy)) (G.ext X fun y hy=>n (all_at (kC1_tight p x) y hy))
theorem Tab.ext40 (T:Tab sh) (X:Ext (fun b=>b=40) sh sh'):Tab sh':=T.ext X (show ¬ ((73:Nat)=40) by lia) fun c cvs _ h7 (e:c=40)=>absurd (e▸h7:(277:Nat)≤40) (by decide)
end
structure Beg where
 os:OsState
 h:Heap
 sl:Nat
 n:Nat
 vs:Array Value
structure Out (prog:Program) (w:World) (os:Beg) (refs:List Nat) (rows:List Row) (f:Bool) (cd:Nat) (sh:Shared):Prop where
 osE:sh.os=os.os
 keep: ∀ b o,os.h.get? b=some o→b<277→b≠40→b≠73→b≠273→sh.heap.get? b=some o
 slo:sh.heap.get? os.sl=some (listO os.vs os.n)
 slL:277≤os.sl
 tab:Tab sh
 t40:Tab40 prog w sh
 rows:RowsAt sh refs rows
 code:f=true→∃ v0 t1 vs,sh.heap.get? cd=some (lcO v0 t1 vs)∧277≤cd
section
variable {prog:Program} {w:World} {os:Beg} {refs:List Nat} {rows:List Row} {f:Bool} {cd:Nat} {sh sh':Shared} {mu:Nat→Prop}
theorem Out.ext (O:Out prog w os refs rows f cd sh) (h:LooseMu sh mu) (hs: ¬ mu os.sl) (X:Ext mu sh sh'):Out prog w os refs rows f cd sh':=
 ⟨X.os.trans O.osE,fun b o e h1 h2 h3 h4=>X.keep _ _ (O.keep b o e h1 h2 h3 h4) (fun q=>(h.hi b q).elim (fun h5=>absurd h1 (Nat.not_lt.mpr h5)) h4),X.keep _ _ O.slo hs,O.slL,h.tab73 X O.tab,h.tab40 X O.t40,O.rows.ext X h.noTup,fun hf=>by
  refine x20 (O.code hf) fun v0 t1 vs h1 h2=>?_
  exact ⟨v0,t1,vs,X.keep _ _ h1 (h.code h1 rfl),h2⟩⟩
theorem Out.ext0 (O:Out prog w os refs rows f cd sh) (X:Ext none_ sh sh'):Out prog w os refs rows f cd sh':=
 ⟨X.os.trans O.osE,fun b o e h1 h2 h3 h4=>X.keep _ _ (O.keep b o e h1 h2 h3 h4) id,X.keep _ _ O.slo id,O.slL,O.tab.ext X id fun zz zz zz zz=>id,O.t40.ext73 (X.weak fun zz h=>h.elim),O.rows.ext0 X,fun hf=>by
  refine x20 (O.code hf) fun v0 t1 vs h1 h2=>?_
  exact ⟨v0,t1,vs,X.keep _ _ h1 id,h2⟩⟩
noncomputable def looseB (y:Nat×Obj):Bool:=match loose y.2 with
 | true=>true
 | false=>Nat.beq y.1 273
theorem looseMu_of {D:List (Nat×Obj)} {lo:Nat} (F:Facts lo sh D) (h:all_ looseB D=true) (hmu: ∀ b,mu b→inD D b) (ht: ∃ xs,sh.heap.get? 273=some (tabO xs)) (hh: ∀ b,inD D b→277≤b∨b=273):LooseMu sh mu:=by
 refine ⟨fun b o hb ho=>?_,ht,fun b hb=>hh b (hmu b hb)⟩
 refine x0 (inD_mem (hmu b hb)) fun y hy hr1=>?_; subst hr1
 have e:=(F.at0 hy).1
 rw [ho] at e
 have e:=Option.some.inj e
 subst e
 have:=all_at h y hy
 unfold looseB at this
 cases q:loose y.2 with
 | true=>exact .inl rfl
 | false=>
  rw [q] at this
  exact .inr (Nat.eq_of_beq_eq_true this)
end
theorem chD_in: ∀ {cs:List Bool} {D:List (Nat×Obj)} {b:Nat},chD cs D b→inD D b
 | [],_,_,h=>h
 | _::_,[],_,h=>h.elim
 | true::cs,x::l,b,h=>by
  rcases h with h | h
  ·exact .inl h
  ·exact .inr (chD_in (cs:=cs) h)
 | false::cs,x::l,b,h=>.inr (chD_in (cs:=cs) h)
theorem tab_base {sh:Shared} {lo:Nat} {p:LawP} {io fo:Obj} {cv:Option Value} {cd:Nat} {f:Bool} {l:List (Nat×Obj)} (F:Facts lo sh (dBase p io fo cv (t273 cd f) l)): ∃ xs,sh.heap.get? 273=some (tabO xs):=by
 have:=(F.at0 (y:=(273,t273 cd f)) (mx 5 rfl)).1
 cases f<;>exact ⟨_,this⟩
theorem ch6 {p:LawP} {io fo o:Obj} {cv:Option Value} {b:Nat} (h:chD cs6 (dBase p io fo cv o []) b):b=p.it∨b=p.fr∨b=p.ct∨b=273:=by
 rcases h with h | h | h | h | h
 ·exact .inl h
 ·exact .inr (.inl h)
 ·exact .inr (.inr (.inl h))
 ·exact .inr (.inr (.inr h))
 ·exact h.elim
theorem ch7 {p:LawP} {io fo o:Obj} {cv:Option Value} {z:Nat×Obj} {b:Nat} (h:chD cs7 (dBase p io fo cv o [z]) b):b=p.it∨b=p.fr∨b=p.ct∨b=273:=by
 rcases h with h | h | h | h | h
 ·exact .inl h
 ·exact .inr (.inl h)
 ·exact .inr (.inr (.inl h))
 ·exact .inr (.inr (.inr h))
 ·exact h.elim
theorem ch8 {p:LawP} {io fo o:Obj} {cv:Option Value} {z z':Nat×Obj} {b:Nat} (h:chD cs8 (dBase p io fo cv o [z,z']) b):b=p.it∨b=p.fr∨b=p.ct∨b=273:=by
 rcases h with h | h | h | h | h
 ·exact .inl h
 ·exact .inr (.inl h)
 ·exact .inr (.inr (.inl h))
 ·exact .inr (.inr (.inr h))
 ·exact h.elim
theorem list_out {sh:Shared} {lo:Nat} {p:LawP} {i j:Int} {cv:Option Value} {cd:Nat} {f:Bool} {e:List (Str×Value)} {hs:Nat→Int} {ts:Nat→Nat} {ep:Nat} {l:List (Nat×Obj)} (F:Facts lo sh (dBase p (riO i j) (frL p e hs ts ep) cv (t273 cd f) l)) {b n:Nat} {xs:Array Value} (hb:sh.heap.get? b=some (listO xs n)):
  ¬ (b=p.it∨b=p.fr∨b=p.ct∨b=273):=by
 rintro (h | h | h | h)
 ·exact ne_of (F.at0 (y:=(p.it,riO i j)) (mx 0 rfl)).1 hb (by kernel_rfl) h
 ·exact ne_of (F.at0 (y:=(p.fr,frL p e hs ts ep)) (mx 1 rfl)).1 hb (by kernel_rfl) h
 ·exact ne_of (F.at0 (y:=(p.ct,cellX cv)) (mx 2 rfl)).1 hb (by kernel_rfl) h
 ·refine x1 (tab_base F) fun ys hy=>?_
  rw [h,hy] at hb
  have:=congrArg Obj.cls (Option.some.inj hb)
  cases this
theorem initl_spec {prog:Program} {w:World} {A:Around} {sh:Shared} {S l n:Nat} {xs:Array Value} (hg:sh.gens= #[]) (ht:849≤sh.toks) (hS:sh.heap.get? S=some (listO #[] 0)) (hl:sh.heap.get? l=some (listO xs n)) (hne:l≠S) (hsz:xs.size≤1000):
  codeAny (model prog w) A (.call (.builtin "list.__init__") ⟨[.ref S,.ref l],[]⟩) (fun r sh'=>r= .ok (.ret .none)∧Ext (fun b=>b=S) sh sh'∧∃ e,sh'.heap.get? S=some (listO xs e)) sh:=by
 refine code_slot F.slot_list_init ⟨_,hS,rfl⟩ F.entry_list_init (F.args_list_init_2 _ _) (wpAny_list_init_seq (R:=fun r sh'=>r= .ok (.ret .none)∧Ext (fun b=>b=S) sh sh'∧∃ e,sh'.heap.get? S=some (listO xs e)) S l (T:= "list") (.inl rfl) hne hS hl rfl rfl ⟨rfl,?_,?_⟩ (by rw [sizeLine_eq]; lia))
 ·exact ⟨fun b x e hn=>Heap.get?_update_of_ne _ (Ne.symm hn) (Heap.get?_update_of_ne _ (Ne.symm hn) e),hg,rfl,by simp only [Heap.size_after_update]; lia,ht,Nat.le_refl _⟩
 ·exact ⟨_,(Heap.get?_update_self _ (Heap.get?_update_self _ hS rfl) rfl).trans (by simp [listO,Obj.mapSeq]; rfl)⟩
structure LwFix (w:World) (p:LawP) (refs:List Nat) (rows:List Row) (zs:List Int):Prop where
 hP:p.P=w.params
 xs:p.xs=refsA refs
 hz:IsZs p.zs zs
 ok: ∀ r∈rows,OkRow r
 len:rows.length+c3 zs≤13
 zl:zs.length≤5
 nd:refs.Nodup
 itL:277≤p.it
 frL:277≤p.fr
 ctL:277≤p.ct
 lrL:277≤p.lr
 rlL:277≤p.rl
structure LwInv (w:World) (os:Beg) (refs:List Nat) (rows:List Row) (p:LawP) (f:Bool) (y:LwS) (sh:Shared):Prop where
 T:Top w sh
 F:Facts 0 sh (lwD p f y)
 O:Out p.prog w os refs rows f y.cd sh
noncomputable def Hi (D:List (Nat×Obj)):Prop:=∀ b,inD D b→277≤b∨b=273
theorem Hi.allK: ∀ {D:List (Nat×Obj)},Hi D→AllK D
 | [],_=>trivial
 | x::l,h=>⟨(h x.1 (.inl rfl)).elim ktno_ge fun e=>e▸ktno_273,Hi.allK fun b hb=>h b (.inr hb)⟩
theorem hi_base {w:World} {p:LawP} {refs:List Nat} {rows:List Row} {zs:List Int} (X:LwFix w p refs rows zs) {io fo o:Obj} {cv:Option Value} {l:List (Nat×Obj)} (h: ∀ b,inD l b→277≤b):Hi (dBase p io fo cv o l):=by
 rintro b (rfl | rfl | rfl | rfl | rfl | rfl | hb)
 ·exact .inl X.itL
 ·exact .inl X.frL
 ·exact .inl X.ctL
 ·exact .inl X.lrL
 ·exact .inl X.rlL
 ·exact .inr rfl
 ·exact .inl (h b hb)
theorem Sat.hi {V:Sv} {s:St} {sh:Shared} {D:List (Nat×Obj)} (S:Sat V s sh) (hm:V.mu=inD D) (h:Hi D) (h0:277≤V.h₀.objs.size):Hi s.D:=fun b hb=>by
 refine x12 (inD_idx hb) fun i x h1 h2=>?_
 rcases S.muD i x h1 with q | q
 ·rw [hm] at q; exact h2▸h _ q
 ·exact .inl (by rw [←h2]; exact Nat.le_trans h0 q)
noncomputable def kinds3:List (Nat×Obj)→List (Nat×Obj)→Bool
 | [],_=>true
 | x::l,E=>match apart1 x.2 E with
  | true=>kinds3 l E
  | false=>match Nat.beq x.1 273 with
   | true=>kinds3 l E
   | false=>false
theorem kinds3_ne {lo lo':Nat} {sh:Shared} {E:List (Nat×Obj)} (G:Facts lo' sh E) (hE: ∀ z∈E,277≤z.1): ∀ {D:List (Nat×Obj)},Facts lo sh D→kinds3 D E=true→∀ y∈D,∀ z∈E,z.1≠y.1
 | _,.nil,_,y,hy,_,_=>by cases hy
 | _,.cons (a:=a) (o:=o) (l:=l) h _ _ r,hk,y,hy,z,hz=>by
  unfold kinds3 at hk
  cases q:apart1 o E with
  | true=>
   rw [show apart1 (a,o).2 E=true from q] at hk
   rcases List.mem_cons.mp hy with rfl | hy
   ·exact fun e=>ne_of h (G.at0 hz).1 (by refine x1 (List.getElem?_of_mem hz) fun i hi=>?_; exact apart1_at q i z hi) e
   ·exact kinds3_ne G hE r hk y hy z hz
  | false=>
   rw [show apart1 (a,o).2 E=false from q] at hk
   cases q2:Nat.beq a 273 with
   | false=>rw [show Nat.beq (a,o).1 273=false from q2] at hk; cases hk
   | true=>
    rw [show Nat.beq (a,o).1 273=true from q2] at hk
    rcases List.mem_cons.mp hy with rfl | hy
    ·have:=Nat.eq_of_beq_eq_true q2
     have:=hE z hz
     show z.1≠a
     lia
    ·exact kinds3_ne G hE r hk y hy z hz
theorem facts_new {lo:Nat} {sh:Shared} {D E:List (Nat×Obj)} (F:Facts lo sh D) (hE: ∀ z∈E,sh.heap.objs.size≤z.1): ∀ y∈D,∀ z∈E,z.1≠y.1:=fun y hy z hz e=>by
 have h1:=Heap.lt_size (F.at0 hy).1
 have h2:=hE z hz
 rw [e] at h2
 exact absurd h1 (Nat.not_lt.mpr h2)
theorem Facts.left {lo:Nat} {sh:Shared} {E:List (Nat×Obj)} : ∀ {D:List (Nat×Obj)},Facts lo sh (apL D E)→Facts lo sh D
 | [],_=>.nil
 | x::l,.cons h hlo hne r=>.cons h hlo (fun i z hz=>hne i z (by
   rw [apL_eq,List.getElem?_append_left]
   ·exact hz
   ·rcases Nat.lt_or_ge i l.length with q | q
    ·exact q
    ·rw [List.getElem?_eq_none q] at hz; cases hz)) (Facts.left r)
theorem ext_same {lo lo':Nat} {sh sh':Shared} {D:List (Nat×Obj)} (X:Ext (inD D) sh sh') (F:Facts lo sh D) (F':Facts lo' sh' D):Ext none_ sh sh':=X.mono fun i o hi q=>.inr (by
 refine x0 (inD_mem q) fun z hz hr1=>?_; subst hr1
 rw [(F.at0 hz).1] at hi
 cases hi
 exact (F'.at0 hz).1)
theorem Out.ext73 {prog:Program} {w:World} {os:Beg} {refs:List Nat} {rows:List Row} {f:Bool} {cd:Nat} {sh sh':Shared} (O:Out prog w os refs rows f cd sh) (X:Ext (fun b=>b=73) sh sh') (T:Tab sh'):Out prog w os refs rows f cd sh':=by
 refine ⟨X.os.trans O.osE,fun b o e h1 h2 h3 h4=>X.keep _ _ (O.keep b o e h1 h2 h3 h4) h3,X.keep _ _ O.slo (fun e=>by have:=O.slL; lia),O.slL,T,O.t40.ext73 X,O.rows.ext X ?_,fun hf=>?_⟩
 ·rintro b rfl xs e
  refine x1 O.tab.obj fun ys hy=>?_
  rw [hy] at e
  have:=congrArg Obj.cls (Option.some.inj e)
  cases this
 ·refine x20 (O.code hf) fun v0 t1 vs h1 h2=>?_
  exact ⟨v0,t1,vs,X.keep _ _ h1 (fun e=>by rw [e] at h2; lia),h2⟩
theorem Facts.ext0 {lo:Nat} {sh sh':Shared} (X:Ext none_ sh sh') {D:List (Nat×Obj)} (F:Facts lo sh D):Facts lo sh' D:=F.ext X fun zz zz=>id
structure InA (w:World) (os:Beg) (refs:List Nat) (rows:List Row) (zs:List Int) (p:LawP) (f:Bool) (y:LwS) (tk:Nat) (xa xb:LwX) (sh:Shared):Prop where
 T:Top w sh
 F:Facts 0 sh (d7 p f y tk xa xb)
 O:Out p.prog w os refs rows f y.cd sh
 items: ∃ refsI,xb.xs=refsA refsI∧RowsAt sh refsI (stepsZ rows (zs.take p.i))
 xL:277≤xb.h
section
variable {w:World} {A:Around} {Q:Result→Shared→Prop} {os:Beg} {refs:List Nat} {rows:List Row} {zs:List Int}
theorem lw_A (Rm:RoomE 7 2 A) {p:LawP} {f:Bool} {y:LwS} {sh:Shared} (X:LwFix w p refs rows zs) (I:LwInv w os refs rows p f y sh) (hi:p.i≤zs.length) (hl:0<p.left) {P:Nat→LwX→LwX→Rs→Prop} {R:Rs} (q:lwT p f y P R)
  (h: ∀ tk xa xb sh' R',InA w os refs rows zs p f y tk xa xb sh'→P tk xa xb R'→Ok (sv p.prog w A Q sh'.heap (inD (d7 p f y tk xa xb)) sh'.os sh'.toks) R'):Ok (sv p.prog w A Q sh.heap (inD (lwD p f y)) sh.os sh.toks) R:=by
 have T:=I.T
 have hz7:277≤sh.heap.objs.size:=T.l7
 have hi0:Hi (lwD p f y):=hi_base X fun b hb=>hb.elim
 have tb:=tab_base I.F
 have lm0:LooseMu sh (chD cs6 (lwD p f y)):=looseMu_of I.F (by cases f<;>kernel_rfl) (fun zz h=>chD_in h) tb hi0
 have sl0: ¬ chD cs6 (lwD p f y) os.sl:=fun hb=>list_out (i:=Int.ofNat p.i) (j:=p.left) I.F I.O.slo (ch6 hb)
 have lenr:=I.O.rows.length
 refine CSet.ok (fun zz=>True) q Rm.room T.size (fun s sh1 B pre S T1 RB=>?_) fun tk R' zz q=>?_
 ·refine x2 pre fun p1 e0=>?_; clear pre
  refine x3 (S.all0 p1) fun o1 zz zz=>?_
  refine codeAny_mono (rnext_item S.gens T1.toks o1 hl) fun r' sh' hq=>x5 hq fun t h1 h2 h3=>⟨t,h1,trivial,?_,?_⟩
  ·rw [e0]; exact h2
  ·rw [e0]; exact h3
 refine CSw.ok (fun x=>277≤x) q Rm.room T.size (fun s sh1 B pre S T1 RB=>?_) fun x1 R' l1 q=>?_
 ·refine x6 (S.all0 pre) fun o1 zz o2 zz zz=>?_
  have sz:p.zs.size=zs.length:=X.hz.size
  have l7:277≤sh1.heap.objs.size:=T1.l7
  refine codeAny_mono (getslice_spec S.gens T1.toks o1 o2 (by lia) (by have:=X.zl; lia)) fun r' sh' hq=>x4 hq fun h1 h2 h3=>⟨_,h1,l7,h2.weak fun b hb=>hb.elim,.cons h3 l7 ne_nil .nil,fun y hy=>.inl ?_⟩
  rw [List.mem_singleton.mp hy]; exact Nat.le_refl _
 refine CSw.ok (fun x=>277≤x) q Rm.room T.size (fun s sh1 B pre S T1 RB=>?_) fun x2 R' l2 q=>?_
 ·have l7:277≤sh1.heap.objs.size:=T1.l7
  refine codeAny_mono (new_spec _ S.gens T1.toks) fun r' sh' hq=>x4 hq fun h1 h2 h3=>⟨_,h1,l7,h2.weak fun b hb=>hb.elim,.cons h3 l7 ne_nil .nil,fun y hy=>.inl ?_⟩
  rw [List.mem_singleton.mp hy]; exact Nat.le_refl _
 refine CSet.ok (fun zz=>True) q Rm.room T.size (fun s sh1 B pre S T1 RB=>?_) fun e2 R' zz q=>?_
 ·refine x24 pre fun p1 e8 e3 g3 g8 zz=>?_; clear pre
  refine x6 (S.all0 p1) fun o1 zz o2 zz zz=>?_
  have hne:p.lr≠x2:=by rw [←e3,←e8]; exact apart_of S g3 g8 (by decide)
  refine codeAny_mono (initl_spec S.gens T1.toks o2 o1 hne (by rw [X.xs]; have:=X.len; simp [refsA]; lia)) fun r' sh' hq=>x27 hq fun h1 h2 e h3=>⟨e,h1,trivial,?_,?_⟩
  ·rw [e8]; exact h2
  ·rw [e8]; exact h3
 refine CSw.ok (fun x=>277≤x.h2∧277≤x.d2) q Rm.room T.size (fun s sh1 B pre S T1 RB=>?_) fun hx R' lx q=>?_
 ·obtain ⟨p1,k1⟩:=pre
  refine x3 (S.all0 p1) fun o1 zz zz=>?_
  have X1:=S.only (sh:=sh) rfl rfl rfl I.F k1
  rw [X.xs] at o1
  refine codeAny_mono (hdr_spec (RB.mono (by decide)) T1 o1 l2 (I.O.rows.ext X1 lm0.noTup) X.ok) fun r' sh' hq=>?_
  refine x29 hq fun h2 d2 g1 g2 g3 g4 g5=>?_; clear hq
  refine x8 g4.dict fun hs ts ep gd=>?_
  refine ⟨⟨h2,d2,hs,ts,ep⟩,g1,⟨g4.hL,g4.dL⟩,g5.weak fun b hb=>hb.elim,.of ⟨⟨g4.inst,g4.hL⟩,⟨gd,g4.dL⟩,trivial⟩ (by kernel_rfl),fun y hy=>.inl ?_⟩
  rcases List.mem_cons.mp hy with rfl | hy
  ·exact g2
  ·rw [List.mem_singleton.mp hy]; exact g3
 obtain ⟨qn,q⟩:=q
 refine CN.okE (fun xa sh'=>Out p.prog w os refs rows f y.cd sh'∧HdrAt sh' xa.h xa.d xa.l∧277≤xa.l∧∃ refsI n,sh'.heap.get? xa.l=some (listO (refsA refsI) n)∧RowsAt sh' refsI (stepsZ rows (zs.take p.i))) qn q Rm T.size (fun s sh1 B pre S T1 RB=>?_) fun xa sh2 R' hT T2 F2 q=>?_
 ·refine x68 pre fun p1 p2 e8 e7 g7 g8 zz k1=>?_; clear pre
  have X1:=S.only (sh:=sh) rfl rfl rfl I.F k1
  refine x9 (S.all0 p2) fun o7 zz o8 zz o9 zz o10 zz zz=>?_
  have O1:=I.O.ext lm0 sl0 X1
  have F1:Facts 0 sh1 (pick [0,1,2,3,4,5] s.D):=S.pickF rfl
  rw [p1] at F1
  have n78:x2≠x1:=by rw [←e8,←e7]; exact apart_of S g8 g7 (by decide)
  rw [X.xs] at o8
  have c3t:=c3_take zs p.i
  refine codeAny_mono (reduce_spec (prog:=p.prog) RB T1 O1.tab ⟨o9,⟨_,_,_,o10⟩,lx.1,lx.2⟩ o8 l2 O1.rows X.nd X.ok o7 l1 (X.hz.take p.i) n78 (by have:=X.len; lia)) fun r sh' hq=>?_
  refine x37 hq fun h' d' l' refs' n' h1 h2 h3 h4 h5 h6 h7 h8=>?_; clear hq
  refine x8 h2.dict fun hh th eh hd=>?_
  have Fb:Facts 0 sh' (dBase p (io1 p) (frL p (fA p.i tk y.a y.b f) (hsOf (dOf s 1)) (tsOf (dOf s 1)) (epOf (dOf s 1))) y.cv (t273 y.cd f) []):=F1.ext h7 fun z hz e=>by
   obtain ⟨k,hk⟩:=List.getElem?_of_mem hz
   have e:z.1=73:=e
   have:=hi_base X (l:= []) (fun b hb=>hb.elim) _ (inD_of hk)
   lia
  have G:Facts 277 sh' [(h',instO d'),(d',dH l' hh th eh)]:=.of ⟨⟨h2.inst,h2.hL⟩,⟨hd,h2.dL⟩,trivial⟩ (by kernel_rfl)
  have gE: ∀ z∈ [(h',instO d'),(d',dH l' hh th eh)],277≤z.1:=fun z hz=>(G.at0 hz).2
  refine ⟨⟨h',d',l',hh,th,eh,hsOf (dOf s 1),tsOf (dOf s 1),epOf (dOf s 1),#[],0,0⟩,h1,⟨O1.ext73 h7 h8,h2,h3,refs',n',h4,h5⟩,T1.ext0 h7 (fun b hb=>hb▸ktno_73),?_,?_⟩
  ·exact (G.raise fun zz zz=>Nat.zero_le _).append Fb (kinds3_ne G gE Fb (by cases f<;>kernel_rfl))
  ·refine (hi_base X fun b hb=>?_).allK
   refine x0 (inD_mem hb) fun z hz hr2=>?_; subst hr2
   exact gE z hz
 refine x69 hT fun O2 hv hL refsI n hlI rI=>?_; clear hT
 refine CN.ok (fun xb sh'=>InA w os refs rows zs p f y tk xa xb sh') q Rm.room T2.size (fun s sh1 B pre S T1 RB=>?_) fun xb sh3 R' hT T3 F3 q=>h tk xa xb sh3 R' hT q
 have F1:Facts 0 sh1 (pick [0,1,2,3,4,5,6,7] s.D):=S.pickF rfl
 rw [pre] at F1
 have X0:Ext none_ sh2 sh1:=ext_same (S.ext (sh₀:=sh2) rfl rfl) F2 F1
 have li:=rI.length
 have ls:=stepsZ_len rows (zs.take p.i)
 have c3t:=c3_take zs p.i
 refine codeAny_mono (items_spec RB T1 (hv.ext X0 id id) (X0.keep _ _ hlI id) hL (by have:=X.len; simp; lia)) fun r sh' hq=>?_
 refine x22 hq fun l' h1 h2 h3 h4=>?_; clear hq
 have l7:277≤l':=Nat.le_trans T1.l7 h2
 have Fb:Facts 0 sh' (dBase p (io1 p) (frL p (fA p.i tk y.a y.b f) xa.hs xa.ts xa.ep) y.cv (t273 y.cd f) []):=(Facts.left (D:=dBase p (io1 p) (frL p (fA p.i tk y.a y.b f) xa.hs xa.ts xa.ep) y.cv (t273 y.cd f) []) (E:= [(xa.h,instO xa.d),(xa.d,dH xa.l xa.hh xa.th xa.eh)]) F1).ext0 h4
 have G:Facts 277 sh' [(l',listO (refsA refsI) 0)]:=.cons h3 l7 ne_nil .nil
 have Fn:Facts 0 sh1 (dBase p (io1 p) (frL p (fA p.i tk y.a y.b f) xa.hs xa.ts xa.ep) y.cv (t273 y.cd f) []):=Facts.left (D:=dBase p (io1 p) (frL p (fA p.i tk y.a y.b f) xa.hs xa.ts xa.ep) y.cv (t273 y.cd f) []) (E:= [(xa.h,instO xa.d),(xa.d,dH xa.l xa.hh xa.th xa.eh)]) F1
 have F3:Facts 0 sh' (d7 p f y tk xa {xa with h:=l',xs:=refsA refsI}):=(G.raise fun zz zz=>Nat.zero_le _).append Fb (facts_new Fn fun z hz=>by rw [List.mem_singleton.mp hz]; exact h2)
 have T4:Top w sh':=T1.ext h4 fun b hb=>hb.elim
 refine ⟨{xa with h:=l',xs:=refsA refsI},h1,⟨T4,F3,(O2.ext0 X0).ext0 h4,⟨refsI,rfl,(rI.ext0 X0).ext0 h4⟩,l7⟩,T4,F3,?_⟩
 refine (hi_base X fun b hb=>?_).allK
 refine x0 (inD_mem hb) fun z hz hr3=>?_; subst hr3
 rw [List.mem_singleton.mp hz]; exact l7
end
theorem ge_cls {sh:Shared} {D:List (Nat×Obj)} (h:Hi D) {b:Nat} (hb:inD D b) {o:Obj} (ho:sh.heap.get? b=some o) (ht: ∃ xs,sh.heap.get? 273=some (tabO xs)) (hc:o.cls≠ .none):277≤b:=by
 rcases h b hb with q | q
 ·exact q
 ·refine x1 ht fun xs hx=>?_; clear ht
  rw [q,hx] at ho
  exact absurd (congrArg Obj.cls (Option.some.inj ho)).symm hc
theorem pick1_in {j:Nat} {D:List (Nat×Obj)} {x:Nat×Obj} (h:pick [j] D= [x]):inD D x.1:=by
 refine x1 (pick_sub (js:= [j]) (D:=D) (x:=x) (by rw [h]; exact List.mem_cons_self)) fun i hi=>?_
 exact inD_of hi
structure InB (w:World) (os:Beg) (refs:List Nat) (rows:List Row) (zs:List Int) (p:LawP) (f:Bool) (y:LwS) (tk:Nat) (xb xc xo:LwX) (sh:Shared):Prop where
 T:Top w sh
 F:Facts 0 sh (d11 p f y tk xb xc xo)
 O:Out p.prog w os refs rows true xo.cd sh
 items: ∃ refsI,xb.xs=refsA refsI∧RowsAt sh refsI (stepsZ rows (zs.take p.i))
 told: ∃ refsT n,sh.heap.get? xc.h=some (listO (refsA refsT) n)∧RowsAt sh refsT (stepsZ rows (zs.take p.i))
 bL:277≤xb.h
 cL:277≤xc.h
 oL:277≤xo.h
 order:IsInts xo.xs (orderOf (ltI (nmL (stepsZ rows (zs.take p.i)))) (stepsZ rows (zs.take p.i)).length)
 ne:xo.h≠xc.h
section
variable {w:World} {A:Around} {Q:Result→Shared→Prop} {os:Beg} {refs:List Nat} {rows:List Row} {zs:List Int}
theorem lw_B (Rm:Room 7 A) {p:LawP} {f:Bool} {y:LwS} {tk:Nat} {xa xb:LwX} {sh:Shared} (X:LwFix w p refs rows zs) (I:InA w os refs rows zs p f y tk xa xb sh) {P:LwX→LwX→Rs→Prop} {R:Rs} (q:lwB p f y tk xa xb P R) (hi:p.i≤zs.length)
  (h: ∀ xc xo sh' R',InB w os refs rows zs p f y tk xb xc xo sh'→P xc xo R'→Ok (sv p.prog w A Q sh'.heap (inD (d11 p f y tk xb xc xo)) sh'.os sh'.toks) R'):Ok (sv p.prog w A Q sh.heap (inD (d7 p f y tk xa xb)) sh.os sh.toks) R:=by
 have T:=I.T
 have hz7:277≤sh.heap.objs.size:=T.l7
 have hi0:Hi (d7 p f y tk xa xb):=hi_base X fun b hb=>by
  rcases hb with hb | hb
  ·exact hb▸I.xL
  ·exact hb.elim
 have tb:=tab_base I.F
 have lm0:LooseMu sh (chD cs7 (d7 p f y tk xa xb)):=looseMu_of I.F (by cases f<;>kernel_rfl) (fun zz h=>chD_in h) tb hi0
 have sl0: ¬ chD cs7 (d7 p f y tk xa xb) os.sl:=fun hb=>list_out (i:=Int.ofNat p.i+1) (j:=p.left - 1) I.F I.O.slo (ch7 hb)
 refine x0 I.items fun refsI eI rI=>?_
 have okT:=stepsZ_ok X.ok (zs.take p.i)
 have ls:=stepsZ_len rows (zs.take p.i)
 have c3t:=c3_take zs p.i
 have xlen:=X.len
 refine CSw.ok (fun x=>277≤x) q Rm T.size (fun s sh1 B pre S T1 RB=>?_) fun x4 R' l4 q=>?_
 ·refine x6 (S.all0 pre) fun o1 zz o2 zz zz=>?_
  have sz:p.zs.size=zs.length:=X.hz.size
  have l7:277≤sh1.heap.objs.size:=T1.l7
  refine codeAny_mono (getslice_spec S.gens T1.toks o1 o2 (by lia) (by have:=X.zl; lia)) fun r' sh' hq=>x4 hq fun h1 h2 h3=>⟨_,h1,l7,h2.weak fun b hb=>hb.elim,.cons h3 l7 ne_nil .nil,fun y hy=>.inl ?_⟩
  rw [List.mem_singleton.mp hy]; exact Nat.le_refl _
 refine CN.ok (fun xc sh'=>Out p.prog w os refs rows f y.cd sh'∧RowsAt sh' refsI (stepsZ rows (zs.take p.i))∧277≤xc.h∧xc.nT=(stepsZ rows (zs.take p.i)).length∧∃ refsT n,sh'.heap.get? xc.h=some (listO (refsA refsT) n)∧RowsAt sh' refsT (stepsZ rows (zs.take p.i))) q Rm T.size (fun s sh1 B pre S T1 RB=>?_) fun xc sh2 R' hT T2 F2 q=>?_
 ·refine x70 pre fun p1 p2 g3 g8 zz e3 e8 k1=>?_; clear pre
  have X1:=S.only (sh:=sh) rfl rfl rfl I.F k1
  have O1:=I.O.ext lm0 sl0 X1
  have F1:Facts 0 sh1 (pick [0,1,2,3,4,5,6] s.D):=S.pickF rfl
  rw [p1] at F1
  refine x3 (S.all0 p2) fun o8 zz zz=>?_
  have o3:sh1.heap.get? p.lr=some (listO p.xs p.n1):=(F1.at0 (y:=(p.lr,listO p.xs p.n1)) (mx 3 rfl)).1
  rw [X.xs] at o3
  have n38:p.lr≠x4:=by rw [←e3,←e8]; exact apart_of S g3 g8 (by decide)
  refine codeAny_mono (plain_spec (prog:=p.prog) (RB.mono (by decide)) T1 o3 X.lrL O1.rows X.ok o8 l4 (X.hz.take p.i) n38 (by lia)) fun r sh' hq=>?_
  refine x28 hq fun l' refs' n' h1 h2 h3 h4 h5=>?_; clear hq
  have T3:Top w sh':=T1.ext h5 fun b hb=>hb.elim
  refine ⟨⟨l',0,0,fun zz=>0,fun zz=>0,0,hsOf (dOf s 1),tsOf (dOf s 1),epOf (dOf s 1),#[],(stepsZ rows (zs.take p.i)).length,0⟩,h1,⟨O1.ext0 h5,(rI.ext X1 lm0.noTup).ext0 h5,h2,rfl,refs',n',h3,h4⟩,T3,F1.ext0 h5,?_⟩
  exact (hi_base X fun b hb=>by
   rcases hb with hb | hb
   ·exact hb▸I.xL
   ·exact hb.elim).allK
 refine x71 hT fun O2 rI2 cL eN refsT nt hl2 rT=>?_; clear hT
 have lT:=rT.length
 have hi2:Hi (d9 p f y tk xb xc):=hi_base X fun b hb=>by
  rcases hb with hb | hb
  ·exact hb▸I.xL
  ·exact hb.elim
 have tb2:=tab_base F2
 have lm2:LooseMu sh2 (chD cs7 (d9 p f y tk xb xc)):=looseMu_of F2 (by cases f<;>kernel_rfl) (fun zz h=>chD_in h) tb2 hi2
 have sl2: ¬ chD cs7 (d9 p f y tk xb xc) os.sl:=fun hb=>list_out (i:=Int.ofNat p.i+1) (j:=p.left - 1) F2 O2.slo (ch7 hb)
 have ext2: ∀ {s:St} {sh1:Shared},Sat (sv p.prog w A Q sh2.heap (inD (d9 p f y tk xb xc)) sh2.os sh2.toks) s sh1→keepD cs7 s.D=keepD cs7 (d9 p f y tk xb xc)→sh1.heap.get? xc.h=some (listO (refsA refsT) nt):=fun S k=>(S.only (sh:=sh2) rfl rfl rfl F2 k).keep _ _ hl2 fun hb=>list_out (i:=Int.ofNat p.i+1) (j:=p.left - 1) F2 hl2 (ch7 hb)
 refine CSw.ok (fun zz=>True) q Rm T2.size (fun s sh1 B pre S T1 RB=>?_) fun tn R' zz q=>?_
 ·have z:=len_spec (prog:=p.prog) T1 RB (ext2 S pre) cL (by simp [refsA]; lia)
  refine codeAny_mono z fun r' sh' hq=>x0 hq fun t h1 h2=>⟨t,?_,trivial,h2,.nil,fun y hy=>by cases hy⟩
  rw [h1]
  have:(refsA refsT).size=xc.nT:=by simp [refsA]; lia
  rw [this]
 refine CN.ok (fun xo sh'=>InB w os refs rows zs p f y tk xb xc xo sh') q Rm T2.size (fun s sh1 B pre S T1 RB=>?_) fun xo sh3 R' hT T3 F3 q=>?_
 ·refine x17 pre fun p1 p7 pl pn k1=>?_; clear pre
  have X1:=S.only (sh:=sh2) rfl rfl rfl F2 k1
  have O1:=O2.ext lm2 sl2 X1
  have his:=S.hi rfl hi2 (by have:=T2.size; show 277≤sh2.heap.objs.size; lia)
  have F1:Facts 0 sh1 (pick [0,1,2,3,4,5,6] s.D):=S.pickF rfl
  rw [p1] at F1
  have tb1:=tab_base F1
  refine x3 (S.all0 p7) fun o7 zz zz=>?_
  refine x3 (S.all0 pl) fun oL zz zz=>?_
  have lL:=ge_cls his (pick1_in pl) oL tb1 (by intro h; cases h)
  have hx5:=ext2 S k1
  have code: ∃ v0 t1 vs,sh1.heap.get? (cdOf f y.cd s)=some (lcO v0 t1 vs)∧277≤cdOf f y.cd s:=by
   cases f with
   | true=>exact O1.code rfl
   | false=>
    have pn:pick [14] s.D= [(aOf s 14,lcO (v0Of (dOf s 14)) (t1Of (dOf s 14)) (vsOf (dOf s 14)))]:=pn
    refine x3 (S.all0 pn) fun oc zz zz=>?_
    exact ⟨_,_,_,oc,ge_cls his (pick1_in pn) oc tb1 (by intro h; cases h)⟩
  refine x20 code fun v0 t1 vs hc hcL=>?_; clear code
  have LA:LamAt sh1 (aOf s (lam0 f)) p.ct (cdOf f y.cd s) (aOf s 8) v0 t1 vs xc.h nt refsT:=⟨oL,hc,(F1.at0 (y:=(p.ct,cellX (some (.ref xc.h)))) (mx 2 rfl)).1,hx5,lL,hcL,X.ctL,cL⟩
  have rT1:=rT.ext X1 lm2.noTup
  have z:=sort_lam (prog:=p.prog) (RB.mono (by decide)) T1 LA rT1 okT (by lia) (r:=aOf s 7) (t:=tkN 0 (dOf s 7)) (u:=tkN 1 (dOf s 7)) (v:=tkN 2 (dOf s 7)) (by rw [←eN]; exact o7)
  refine codeAny_mono z fun r sh' hq=>?_
  refine x28 hq fun D ys c h1 h2 h3 h4 h5=>?_; clear hq
  have T4:Top w sh':=T1.ext h3 fun b hb=>hb.elim
  have DL:277≤D:=Nat.le_trans T1.l7 h2
  have G:Facts 277 sh' [(D,listO ys c)]:=.cons h4 DL ne_nil .nil
  have F4:Facts 0 sh' (d11 p f y tk xb xc {xc with h:=D,xs:=ys,nT:=c,cd:=cdOf f y.cd s}):=(G.raise fun zz zz=>Nat.zero_le _).append (F1.ext0 h3) (facts_new F1 fun z hz=>by rw [List.mem_singleton.mp hz]; exact h2)
  have O4:Out p.prog w os refs rows true (cdOf f y.cd s) sh1:=⟨O1.osE,O1.keep,O1.slo,O1.slL,O1.tab,O1.t40,O1.rows,fun zz=>⟨v0,t1,vs,hc,hcL⟩⟩
  refine ⟨{xc with h:=D,xs:=ys,nT:=c,cd:=cdOf f y.cd s},h1,⟨T4,F4,O4.ext0 h3,⟨refsI,eI,(rI2.ext X1 lm2.noTup).ext0 h3⟩,⟨refsT,nt,h3.keep _ _ hx5 id,rT1.ext0 h3⟩,I.xL,cL,DL,h5,fun e=>?_⟩,T4,F4,?_⟩
  ·have e:D=xc.h:=e
   have:=Heap.lt_size hx5
   rw [←e] at this
   exact absurd this (Nat.not_lt.mpr h2)
  ·exact (hi_base X fun b hb=>by
    rcases hb with hb | hb | hb
    ·exact hb▸I.xL
    ·exact hb▸DL
    ·exact hb.elim).allK
 refine CCut.ok (fun zz=>True) q Rm T3.size (fun s sh1 B pre S T1 RB=>?_) fun zz R' zz q=>h xc xo sh3 R' hT q
 have X1:=S.only (sh:=sh3) rfl rfl rfl hT.F pre
 have lm3:LooseMu sh3 (chD cs8 (d11 p f y tk xb xc xo)):=looseMu_of hT.F (by cases f<;>kernel_rfl) (fun zz h=>chD_in h) (tab_base hT.F) (hi_base X fun b hb=>by
  rcases hb with hb | hb | hb
  ·exact hb▸I.xL
  ·exact hb▸hT.oL
  ·exact hb.elim)
 refine x0 hT.items fun refsI' eI' rI'=>?_
 refine x12 hT.told fun refsT' nt' hl' rT'=>?_
 have ob:sh3.heap.get? xb.h=some (listO xb.xs 0):=(hT.F.at0 (y:=(xb.h,listO xb.xs 0)) (mx 6 rfl)).1
 have ob1:=X1.keep _ _ ob fun hb=>list_out (i:=Int.ofNat p.i+1) (j:=p.left - 1) hT.F ob (ch8 hb)
 rw [eI'] at ob1
 exact wp_ne_rows RB ob1 (X1.keep _ _ hl' fun hb=>list_out (i:=Int.ofNat p.i+1) (j:=p.left - 1) hT.F hl' (ch8 hb)) (rI'.ext X1 lm3.noTup) (rT'.ext X1 lm3.noTup) okT ⟨(),rfl,trivial,S.lg []⟩
end
theorem kC0_cls (p:CkP) (x:CkX):(dOf ⟨kC0 p x,0,0,0,0,[]⟩ 0).cls=Value.none:=by kernel_rfl
theorem Tab40.obj {prog:Program} {w:World} {sh:Shared} (T:Tab40 prog w sh): ∃ o:Obj,sh.heap.get? 40=Option.some o∧o.cls=Value.none:=by
 cases T with
 | none h=>exact ⟨_,h,rfl⟩
 | some p x e1 e2 F G=>
  have m:(40,dOf ⟨kC0 p x,0,0,0,0,[]⟩ 0)∈kC0 p x:=Eq.mpr (congrArg (fun l=>(40,dOf ⟨kC0 p x,0,0,0,0,[]⟩ 0)∈l) (kC0_eq p x)) List.mem_cons_self
  have c:=kC0_cls p x
  revert m c
  generalize dOf ⟨kC0 p x,0,0,0,0,[]⟩ 0=o
  intro m c
  exact ⟨o,(F.at0 m).1,c⟩
theorem Tab40.noTup {prog:Program} {w:World} {sh:Shared} (T:Tab40 prog w sh):NoTup sh (fun b=>b=40):=by
 rintro b rfl xs e
 refine x0 T.obj fun o h hc=>?_
 rw [h] at e
 rw [Option.some.inj e] at hc
 cases hc
theorem orderOf_len {lt:Nat→Nat→Bool} (W:Weak lt) (n:Nat):(orderOf lt n).length=n:=by
 unfold orderOf
 split
 ·exact List.length_range
 ·exact (sort_pairwise W (n:=n) (by lia)).2.1.length_eq.trans List.length_range
noncomputable def rowG (rows:List Row) (i:Nat):Row:=rows.getD i (⟨#[]⟩,⟨#[]⟩)
theorem rows_perm {sh:Shared} {refs:List Nat} {rows:List Row} (h:RowsAt sh refs rows): ∀ l:List Nat,(∀ i∈l,i<rows.length)→RowsAt sh (l.map fun i=>refs.getD i 0) (l.map (rowG rows))
 | [],_=>.nil
 | i::l,hl=>by
  have hi:=hl i List.mem_cons_self
  have ha:refs[i]? =some (refs.getD i 0):=by simp [List.getD,h.length,hi]
  refine x0 (h.get ha) fun r h1 h2=>?_
  have e:rowG rows i=r:=by simp [rowG,List.getD,h1]
  refine .cons ?_ (rows_perm h l fun j hj=>hl j (List.mem_cons_of_mem _ hj))
  rw [e]
  exact h2
structure InK (w:World) (os:Beg) (refs:List Nat) (rows:List Row) (zs:List Int) (p:LawP) (tk:Nat) (xb xc xo xk:LwX) (c:Nat) (sh:Shared):Prop where
 T:Top w sh
 F:Facts 0 sh (d13 p tk xb xc xo xk)
 O:Out p.prog w os refs rows true xo.cd sh
 items: ∃ refsI,xb.xs=refsA refsI∧RowsAt sh refsI (stepsZ rows (zs.take p.i))
 told: ∃ refsT n,sh.heap.get? xc.h=some (listO (refsA refsT) n)∧RowsAt sh refsT (stepsZ rows (zs.take p.i))
 K:KAt p.prog w sh c
section
variable {w:World} {A:Around} {Q:Result→Shared→Prop} {os:Beg} {refs:List Nat} {rows:List Row} {zs:List Int}
theorem lw_C (Rm:Room 7 A) {p:LawP} {b1 f:Bool} {y:LwS} {tk:Nat} {xb xc xo:LwX} {sh:Shared} (X:LwFix w p refs rows zs) (I:InB w os refs rows zs p f y tk xb xc xo sh) {R:Rs} (q:lwC p b1 f y tk xb xc xo R)
  (K: ∀ y' sh',LwInv w os refs rows {p with i:=p.i+1,left:=p.left - 1} true y' sh'→codeAny (model p.prog w) A (lawC p.it p.fr p.ct p.cn) Q sh'):Ok (sv p.prog w A Q sh.heap (inD (d11 p f y tk xb xc xo)) sh.os sh.toks) R:=by
 have T:=I.T
 have hz7:277≤sh.heap.objs.size:=T.l7
 have okT:=stepsZ_ok X.ok (zs.take p.i)
 have ls:=stepsZ_len rows (zs.take p.i)
 have c3t:=c3_take zs p.i
 have xlen:=X.len
 have hi2: ∀ b,inD [(xb.h,listO xb.xs 0),(xo.h,listO xo.xs xo.nT)] b→277≤b:=fun b hb=>by
  rcases hb with hb | hb | hb
  ·exact hb▸I.bL
  ·exact hb▸I.oL
  ·exact hb.elim
 have lm0:LooseMu sh (chD cs8 (d11 p f y tk xb xc xo)):=looseMu_of I.F (by cases f<;>kernel_rfl) (fun zz h=>chD_in h) (tab_base I.F) (hi_base X hi2)
 have sl0: ¬ chD cs8 (d11 p f y tk xb xc xo) os.sl:=fun hb=>list_out (i:=Int.ofNat p.i+1) (j:=p.left - 1) I.F I.O.slo (ch8 hb)
 refine x0 I.items fun refsI eI rI=>?_
 refine x12 I.told fun refsT nt hl rT=>?_
 refine CN.ok (fun x sh'=>InK w os refs rows zs p tk xb xc xo x.2 x.1 sh') q Rm T.size (fun s sh1 B pre S T1 RB=>?_) fun xk sh2 R' hT T2 F2 q=>?_
 ·refine x2 pre fun p1 k1=>?_; clear pre
  have X1:=S.only (sh:=sh) rfl rfl rfl I.F k1
  have O1:=I.O.ext lm0 sl0 X1
  have F1:Facts 0 sh1 (pick [0,1,2,3,4,5,6,7] s.D):=S.pickF rfl
  rw [p1] at F1
  refine codeAny_mono (ck_spec (prog:=p.prog) (RB.mono (by decide)) T1 O1.t40) fun r sh' hq=>?_
  refine x16 hq fun c h1 h2 h3 h4 h5=>?_; clear hq
  have nt40:=O1.t40.noTup
  refine x20 (O1.code rfl) fun v0 t1 vs hc hcL=>?_
  have F3:Facts 0 sh' (d13 p tk xb xc xo {xo with hs:=hsOf (dOf s 1),ts:=tsOf (dOf s 1),ep:=epOf (dOf s 1)}):=F1.ext h5 fun z hz e=>by
   refine x1 (List.getElem?_of_mem hz) fun k hk=>?_
   have e:z.1=40:=e
   have:=hi_base X hi2 _ (inD_of hk)
   lia
  have T3:Top w sh':=T1.ext0 h5 fun b hb=>hb▸ktno_40
  have hl1:=X1.keep _ _ hl fun hb=>list_out (i:=Int.ofNat p.i+1) (j:=p.left - 1) I.F hl (ch8 hb)
  refine ⟨(c, {xo with hs:=hsOf (dOf s 1),ts:=tsOf (dOf s 1),ep:=epOf (dOf s 1)}),h1,⟨T3,F3,⟨h5.os.trans O1.osE,fun b o e h1 h2 h3 h4=>h5.keep _ _ (O1.keep b o e h1 h2 h3 h4) h2,h5.keep _ _ O1.slo (fun e=>absurd (e▸O1.slL:(277:Nat)≤40) (by decide)),O1.slL,O1.tab.ext40 h5,h4,O1.rows.ext h5 nt40,fun zz=>⟨v0,t1,vs,h5.keep _ _ hc (fun e=>absurd (e▸hcL:(277:Nat)≤40) (by decide)),hcL⟩⟩,⟨refsI,eI,(rI.ext X1 lm0.noTup).ext h5 nt40⟩,⟨refsT,nt,h5.keep _ _ hl1 (fun e=>absurd (e▸I.cL:(277:Nat)≤40) (by decide)),(rT.ext X1 lm0.noTup).ext h5 nt40⟩,h3⟩,T3,F3,(hi_base X hi2).allK⟩
 refine x0 hT.items fun refsI2 eI2 rI2=>?_
 refine x12 hT.told fun refsT2 nt2 hl2 rT2=>?_
 have lT:=rT2.length
 have lm2:LooseMu sh2 (chD cs8 (d13 p tk xb xc xo xk.2)):=looseMu_of hT.F (by kernel_rfl) (fun zz h=>chD_in h) (tab_base hT.F) (hi_base X hi2)
 have sl2: ¬ chD cs8 (d13 p tk xb xc xo xk.2) os.sl:=fun hb=>list_out (i:=Int.ofNat p.i+1) (j:=p.left - 1) hT.F hT.O.slo (ch8 hb)
 have sz2:277≤sh2.heap.objs.size:=T2.l7
 refine CSw.ok (fun x=>x.xs=refsA ((orderOf (ltN (nmL (stepsZ rows (zs.take p.i)))) (stepsZ rows (zs.take p.i)).length).map fun i=>refsI2.getD i 0)) q Rm T2.size (fun s sh1 B pre S T1 RB=>?_) fun xq R' hxq q=>?_
 ·have F1:Facts 0 sh1 (pick [0,1,2,3,4,5,6,7] s.D):=S.pickF rfl
  rw [pre] at F1
  have F1:Facts 0 sh1 (d13 p tk xb xc xo xk.2):=F1
  have X0:Ext none_ sh2 sh1:=ext_same (S.ext (sh₀:=sh2) rfl rfl) hT.F F1
  have ob:sh1.heap.get? xb.h=some (listO xb.xs 0):=(F1.at0 (y:=(xb.h,listO xb.xs 0)) (mx 6 rfl)).1
  rw [eI2] at ob
  refine codeAny_mono (sort_k (prog:=p.prog) (RB.mono (by decide)) T1 (hT.K.ext X0 fun zz zz h=>h.elim) ob (rI2.ext0 X0) okT (by lia)) fun r sh' hq=>?_
  refine x15 hq fun D m h1 h2 h3 h4=>?_; clear hq
  have DL:277≤D:=Nat.le_trans T1.l7 h2
  refine ⟨{xo with h:=D,xs:=_,nT:=m},h1,rfl,h3.weak fun b hb=>hb.elim,.cons h4 DL ne_nil .nil,fun y hy=>.inl ?_⟩
  rw [List.mem_singleton.mp hy]; exact h2
 have ho:=orderOf_same (nmL (stepsZ rows (zs.take p.i))) (stepsZ rows (zs.take p.i)).length
 have hlt: ∀ i∈orderOf (ltI (nmL (stepsZ rows (zs.take p.i)))) (stepsZ rows (zs.take p.i)).length,i<(stepsZ rows (zs.take p.i)).length:=fun i hi=>orderOf_lt (ltI_weak _) hi
 refine CSw.ok (fun x=>x.ys=refsA ((orderOf (ltI (nmL (stepsZ rows (zs.take p.i)))) (stepsZ rows (zs.take p.i)).length).map fun k=>refsT2.getD k 0)) q Rm T2.size (fun s sh1 B pre S T1 RB=>?_) fun xl R' hxl q=>?_
 ·refine x72 pre fun p1 g9 g10 g11 zz a8 k1=>?_; clear pre
  have X1:=S.only (sh:=sh2) rfl rfl rfl hT.F k1
  refine x18 (S.all0 p1) fun o10 zz o7 zz o9 zz o11 zz o2 zz zz=>?_
  have n9:=new_of S rfl (n:=8) rfl a8 (j:=9) (by lia) g9
  have n10:=new_of S rfl (n:=8) rfl a8 (j:=10) (by lia) g10
  have n11:=new_of S rfl (n:=8) rfl a8 (j:=11) (by lia) g11
  have hl1:=X1.keep _ _ hl2 fun hb=>list_out (i:=Int.ofNat p.i+1) (j:=p.left - 1) hT.F hl2 (ch8 hb)
  have olt:=Heap.lt_size (hT.F.at0 (y:=(xo.h,listO xo.xs xo.nT)) (mx 7 rfl)).1
  have tlt:=Heap.lt_size hl2
  have n9:sh2.heap.objs.size≤aOf s 9:=n9
  have n10:sh2.heap.objs.size≤aOf s 10:=n10
  have n11:sh2.heap.objs.size≤aOf s 11:=n11
  let r:LcP:= {prog:=p.prog,P:=p.P,it:=aOf s 9,ol:=xo.h,i:=0,on:=xo.nT,zs:=xo.xs,cf:=aOf s 11,hs:=hsOf (dOf s 11),ts:=tsOf (dOf s 11),ep:=epOf (dOf s 11),acc:=aOf s 10,ys:= #[],m:=0,ct:=p.ct,tl:=xc.h,n:=nt2,xs:=refsA refsT2,fr:=p.fr,a:=0,kk:=0,tkk:=0}
  have H:OwnAll 277 sh1 (lcD r none):=⟨⟨o10,Nat.le_trans sz2 n10⟩,⟨o7,I.oL⟩,⟨o9,Nat.le_trans sz2 n9⟩,⟨o11,Nat.le_trans sz2 n11⟩,⟨o2,X.ctL⟩,⟨hl1,I.cL⟩,trivial⟩
  have ol:=orderOf_len (ltI_weak (nmL (stepsZ rows (zs.take p.i)))) (stepsZ rows (zs.take p.i)).length
  refine codeAny_mono (lc_loop (prog:=p.prog) (RB.mono (by decide)) (p:=r) X.hP rfl rfl I.order (fun k hk=>by rw [lT]; exact hlt k hk) (by lia) (by lia) T1 rfl rfl H (fun e=>?_) (Ne.symm I.ne) (fun e=>?_)) fun r' sh' hq=>?_
  ·have e:xo.h=aOf s 10:=e
   rw [←e] at n10
   exact absurd olt (Nat.not_lt.mpr n10)
  ·have e:xc.h=aOf s 10:=e
   rw [←e] at n10
   exact absurd tlt (Nat.not_lt.mpr n10)
  ·refine x26 hq fun h1 h2 m e hs ts ep h3 h4=>?_; clear hq
   refine ⟨⟨_,m,e,hs,ts,ep⟩,h1,rfl,h2.weak fun b hb=>?_,.of ⟨⟨h3,Nat.le_trans sz2 n10⟩,⟨h4,Nat.le_trans sz2 n11⟩,trivial⟩ (by kernel_rfl),fun y hy=>.inr ?_⟩
   ·rcases hb with rfl | rfl | rfl
    ·exact chA_at g10 (csN_at (by lia) (by simp))
    ·exact chA_at g9 (csN_at (by lia) (by simp))
    ·exact chA_at g11 (csN_at (by lia) (by simp))
   ·rcases List.mem_cons.mp hy with rfl | hy
    ·exact chA_at g10 (csN_at (by lia) (by simp))
    ·rw [List.mem_singleton.mp hy]
     exact chA_at g11 (csN_at (by lia) (by simp))
 refine CCut.ok (fun zz=>True) q Rm T2.size (fun s sh1 B pre S T1 RB=>?_) fun zz R' zz q=>?_
 ·refine x2 pre fun p1 k1=>?_; clear pre
  have X1:=S.only (sh:=sh2) rfl rfl rfl hT.F k1
  refine x6 (S.all0 p1) fun o8 zz o9 zz zz=>?_
  rw [hxq,ho] at o8
  rw [hxl] at o9
  have a:=rows_perm (rI2.ext X1 lm2.noTup) _ hlt
  have b:=rows_perm (rT2.ext X1 lm2.noTup) _ hlt
  refine wp_ne_rows RB o8 o9 a b (fun r hr=>?_) ⟨(),rfl,trivial,S.lg []⟩
  refine x0 (List.mem_map.mp hr) fun i hi hr1=>?_; subst hr1
  have:=hlt i hi
  have e:rowG (stepsZ rows (zs.take p.i)) i=(stepsZ rows (zs.take p.i))[i]:=by simp [rowG,List.getD,this]
  rw [e]
  exact okT _ (List.getElem_mem this)
 refine CLoop.ok q fun sh' q S=>?_
 have F1:Facts 0 sh' (pick [0,1,2,3,4,5] (stOf R').D):=S.pickF rfl
 refine x2 q fun q k1=>?_
 rw [q] at F1
 exact K ⟨p.i,tk,xb.h,xo.h,xo.cd,_,_,_,some (.ref xc.h)⟩ sh' ⟨topW w S rfl T2.size,F1,hT.O.ext lm2 sl2 (S.only (sh:=sh2) rfl rfl rfl hT.F k1)⟩
end
noncomputable section
noncomputable def rwE:Expr:=asgV (nthS (fn 26).body 1)
noncomputable def rwC (it acc fr cf cn:Nat):Code:=compC rwE it acc (compEnv (compScC rwE) qLaw 275 fr cf [("names",cn)])
end
noncomputable def jN (z:Int):Nat:=(z.fmod 7).toNat
noncomputable def kN (z:Int):Nat:=((z.fdiv 7).fmod 4).toNat
noncomputable def nmZ (z:Int):Str:=names7.getD (jN z) sAccept
noncomputable def vlZ (z:Int):Str:=vals6.getD (kN z) sn
noncomputable def rowZ (z:Int):Row:=(nmZ z,vlZ z)
noncomputable def xE:Option Value→List (Str×Value)
 | none=> []
 | some v=> [("x",v)]
structure RwP where
 prog:Program
 P:Params
 it:Nat
 ol:Nat
 i:Nat
 on:Nat
 zs:Array Value
 cf:Nat
 hs:Nat→Int
 ts:Nat→Nat
 ep:Nat
 acc:Nat
 ys:Array Value
 m:Nat
 cn:Nat
 nl:Nat
 n:Nat
 xs:Array Value
 fr:Nat
 z:Int
 tz:Nat
 j:Nat
 nm:Str
 tn:Nat
noncomputable def rwD (p:RwP) (e:Option Value):List (Nat×Obj):=
 [(p.acc,listO p.ys p.m),(p.ol,listO p.zs p.on),(p.it,iterO p.ol p.i),(p.cf,dicO (xE e) p.hs p.ts p.ep),(p.cn,cellO (.ref p.nl)),(p.nl,listO p.xs p.n)]
noncomputable abbrev rwK (p:RwP):Code:=rwC p.it p.acc p.fr p.cf p.cn
noncomputable def vK:Nat→Str
 | 0=>sv0
 | 1=>sv1
 | 2=>sv2
 | _=>sv3
noncomputable def rwT (p:RwP) (k:Nat):Rs→Prop:=
 CNext p.it p.ol p.i p.on p.zs 2 1 (.int p.z p.tz) [4,4,5,4,1]<|CTok (fun c=>modC p.z p.tz 6 (argT 1 c)) (fun x=>.ok (.ret (.int (Int.ofNat p.j) x))) 0 [6,6,6,1] fun tj zz zz=>
 CRd (getC p.nl p.j tj) [5] [(p.nl,listO p.xs p.n)] (.ok (.ret (.str p.nm p.tn))) [0,0,4,1]<|CTok (fun c=>divC p.z p.tz 6 (argT 1 c)) (fun x=>.ok (.ret (.int (p.z.fdiv 7) x))) 0 [1] fun x2 zz zz=>
 CTok (fun c=>modC (p.z.fdiv 7) x2 3 (argT 1 c)) (fun x=>.ok (.ret (.int (Int.ofNat k) x))) 0 [0,0,0,0,0,0,0,0,0,0,0,0,1] fun zz zz zz=>
 CSet (X:=Unit) (fun s=>.call (.builtin "list.append") ⟨[.ref p.acc,.ref (aOf s 6)],[]⟩) (fun s=>pick [0] s.D= [(p.acc,listO p.ys p.m)]∧aOf s 0=p.acc) (fun zz=>.ok (.ret .none)) 0 (fun s zz=>listO (p.ys.push (.ref (aOf s 6))) (p.m+1)) (fun zz=> [1]) fun zz=>
  CLoop (rwK p) fun s=>keepD csL s.D=keepD csL (rwD p none)∧
   pick [0,2,3,6] s.D= [(p.acc,listO (p.ys.push (.ref (aOf s 6))) (p.m+1)),(p.it,iterO p.ol (p.i+1)),(p.cf,dicO (xE (some (.int p.z p.tz))) (hsOf (dOf s 3)) (tsOf (dOf s 3)) (epOf (dOf s 3))),(aOf s 6,tupO [.str p.nm p.tn,.str (vK k) (tokAt 1 (dOf s 6))])]∧
   addrN 6 s.D=addrN 6 (rwD p none)∧(getD s.D 6).isSome=true
noncomputable instance rwT.rf {p:RwP} {k:Nat} {R:Rs} :Rf (rwT p k R):=by
 delta rwT; infer_instance
noncomputable def rwX (p:RwP) (e:Option Value):Rs→Prop:=
 CLast p.it p.ol p.i p.on p.zs 2 1 [7] fun zz=>CEnd (.ok .next) fun s=>keepD [false,false,true,false,false,false] s.D=keepD [false,false,true,false,false,false] (rwD p e)
noncomputable instance rwX.rf {p:RwP} {e:Option Value} {R:Rs} :Rf (rwX p e R):=by
 delta rwX; infer_instance
noncomputable abbrev rwRun (p:RwP) (P:Params) (e:Option Value) (K t:Nat):Rs:=runC p.prog P 200 (rwK p) [3,1] (rwD p e) K t
theorem rwT_0 (p:RwP) {k:Nat} (hk:k<4) (e:Option Value) (K t:Nat):rwT p k (rwRun p p.P e K t):=pset1 (X:=fun P=>rwT p k (rwRun p P e K t)) fun b1 b2=>by
 match k,hk with
 | 0,_=>revert b2 e; exact Rf.prove _ (by kernel_rfl)
 | 1,_=>revert b2 e; exact Rf.prove _ (by kernel_rfl)
 | 2,_=>revert b2 e; exact Rf.prove _ (by kernel_rfl)
 | 3,_=>revert b2 e; exact Rf.prove _ (by kernel_rfl)
theorem rwX_0 (p:RwP) (e:Option Value) (K t:Nat):rwX p e (rwRun p p.P e K t):=pset1 (X:=fun P=>rwX p e (rwRun p P e K t)) (by intro b1; revert e; exact Rf.prove _ (by kernel_rfl))
theorem jN_eq (z:Int):z.fmod (Int.ofNat (Nat.succ 6))=Int.ofNat (jN z):=by
 have h1:=Int.fmod_nonneg_of_pos z (b:=7) (by decide)
 show z.fmod 7=((z.fmod 7).toNat:Int)
 lia
theorem jN_lt (z:Int):jN z<7:=by
 have h1:=Int.fmod_nonneg_of_pos z (b:=7) (by decide)
 have h2:=Int.fmod_lt_of_pos z (b:=7) (by decide)
 unfold jN; lia
theorem kN_eq (z:Int):(z.fdiv 7).fmod (Int.ofNat (Nat.succ 3))=Int.ofNat (kN z):=by
 have h1:=Int.fmod_nonneg_of_pos (z.fdiv 7) (b:=4) (by decide)
 show (z.fdiv 7).fmod 4=(((z.fdiv 7).fmod 4).toNat:Int)
 lia
theorem kN_lt (z:Int):kN z<4:=by
 have h1:=Int.fmod_nonneg_of_pos (z.fdiv 7) (b:=4) (by decide)
 have h2:=Int.fmod_lt_of_pos (z.fdiv 7) (b:=4) (by decide)
 unfold kN; lia
theorem vK_eq: ∀ {k:Nat},k<4→vK k=vals6.getD k sn
 | 0,_=>rfl
 | 1,_=>rfl
 | 2,_=>rfl
 | 3,_=>rfl
theorem rowZ_ok (z:Int):OkRow (rowZ z):=by
 refine ⟨?_,?_⟩
 ·have h:jN z<names7.length:=jN_lt z
  show names7.getD (jN z) sAccept∈names7
  rw [List.getD,List.getElem?_eq_getElem h]
  exact List.getElem_mem h
 ·have h:kN z<vals6.length:=Nat.lt_of_lt_of_le (kN_lt z) (by decide)
  show vals6.getD (kN z) sn∈vals6
  rw [List.getD,List.getElem?_eq_getElem h]
  exact List.getElem_mem h
theorem rw_facts {sh:Shared} {p:RwP} {e:Option Value} (H:OwnAll 277 sh (rwD p e)) (n0:p.ol≠p.acc) (n1:p.nl≠p.ol) (n2:p.nl≠p.acc):Facts 277 sh (rwD p e):=by
 refine x14 H fun o0 l0 o1 l1 o2 l2 o3 l3 o4 l4 o5 l5 zz=>?_; clear H
 exact .cons o0 l0 (ne_cons n0 (ne_cons (ne_of o0 o2 (by kernel_rfl)) (ne_cons (ne_of o0 o3 (by kernel_rfl)) (ne_cons (ne_of o0 o4 (by kernel_rfl)) (ne_cons n2 ne_nil))))) (.cons o1 l1 (ne_cons (ne_of o1 o2 (by kernel_rfl)) (ne_cons (ne_of o1 o3 (by kernel_rfl)) (ne_cons (ne_of o1 o4 (by kernel_rfl)) (ne_cons n1 ne_nil)))) (.cons o2 l2 (ne_cons (ne_of o2 o3 (by kernel_rfl)) (ne_cons (ne_of o2 o4 (by kernel_rfl)) (ne_cons (ne_of o2 o5 (by kernel_rfl)) ne_nil))) (.cons o3 l3 (ne_cons (ne_of o3 o4 (by kernel_rfl)) (ne_cons (ne_of o3 o5 (by kernel_rfl)) ne_nil)) (.cons o4 l4 (ne_cons (ne_of o4 o5 (by kernel_rfl)) ne_nil) (.cons o5 l5 ne_nil .nil)))))
section
variable {prog:Program} {w:World} {A:Around}
noncomputable def rwMu (p:RwP) (b:Nat):Prop:=b=p.acc∨b=p.it∨b=p.cf
noncomputable def rwSt (sh₀ sh:Shared) (p:RwP) (zs:List Int):Prop:=
 ∃ (news:List Nat) (m:Nat) (e:Option Value) (hs:Nat→Int) (ts:Nat→Nat) (ep:Nat),RowsAt sh news (zs.map rowZ)∧news.Nodup∧(∀ b∈news,sh₀.heap.objs.size≤b)∧sh.heap.get? p.acc=some (listO (refsA news) m)∧sh.heap.get? p.cf=some (dicO (xE e) hs ts ep)
theorem rw_loop (Rm:Room 1 A) {sh₀:Shared} {zs:List Int} {p:RwP} (hp:p.P=w.params) (hg:p.prog=prog) (hz:IsZs p.zs zs) (hx: ∀ j,j<7→∃ t,p.xs[j]? =some (.str (names7.getD j sAccept) t)) (hkl:zs.length≤100)
  (T:Top w sh₀) (hi:p.i=0) (hy:p.ys= #[]) (H:OwnAll 277 sh₀ (rwD p none)) (n0:p.ol≠p.acc) (n1:p.nl≠p.ol) (n2:p.nl≠p.acc):
  codeAny (model prog w) A (rwK p) (fun r sh'=>r= .ok .next∧Ext (rwMu p) sh₀ sh'∧rwSt sh₀ sh' p zs) sh₀:=by
 subst hg
 refine x14 (id H) fun o0 l0 o1 l1 o2 l2 o3 l3 o4 l4 o5 l5 zz=>?_
 have kp: ∀ {b:Nat} {o:Obj} {sh:Shared},Ext (rwMu p) sh₀ sh→sh₀.heap.get? b=some o→b≠p.acc→kne (iterO p.ol p.i).cls o.cls=true→kne (dicO (xE none) p.hs p.ts p.ep).cls o.cls=true→sh.heap.get? b=some o:=fun X h hn h1 h2=>X.keep _ _ h (by
  rintro (q | q | q)
  ·exact hn q
  ·exact ne_of o2 h h1 q
  ·exact ne_of o3 h h2 q)
 have nt: ∀ {sh:Shared} {news:List Nat} {m i ep:Nat} {e:Option Value} {hs:Nat→Int} {ts:Nat→Nat},sh.heap.get? p.acc=some (listO (refsA news) m)→sh.heap.get? p.it=some (iterO p.ol i)→sh.heap.get? p.cf=some (dicO (xE e) hs ts ep)→NoTup sh (rwMu p):=by
  rintro sh news m i ep e hs ts h2 h3 h4 b (rfl | rfl | rfl) xs h
  ·exact ne_of (o':=tupO xs) h2 h (by kernel_rfl) rfl
  ·exact ne_of (o':=tupO xs) h3 h (by kernel_rfl) rfl
  ·exact ne_of (o':=tupO xs) h4 h (by kernel_rfl) rfl
 have o0':sh₀.heap.get? p.acc=some (listO (refsA []) p.m):=by rw [o0,hy]; rfl
 refine loop_rule (Inv:=fun i sh=>Top w sh∧Ext (rwMu p) sh₀ sh∧rwSt sh₀ sh p (zs.take i)∧sh.heap.get? p.it=some (iterO p.ol i)) (n:=zs.length) (fun i sh hin I K=>?_) (fun sh I=>?_) zs.length 0 sh₀ (by lia) ⟨T,.refl T.gens T.toks,⟨[],p.m,none,p.hs,p.ts,p.ep,.nil,.nil,(fun b h=>absurd h List.not_mem_nil),o0',o3⟩,by rw [hi] at o2; exact o2⟩
 ·refine x38 I fun T1 X news m e hs ts ep h1 hnd hnew h2 h4 h3=>?_; clear I
  have ln:=h1.length
  rw [List.length_map,List.length_take] at ln
  obtain ⟨z,hzi⟩: ∃ z,zs[i]? =some z:=⟨zs[i]'hin,by simp⟩
  refine x1 (hz.get hzi) fun tz hzt=>?_
  refine x1 (hx (jN z) (jN_lt z)) fun tn htn=>?_
  let q:RwP:= {p with i:=i,ys:=refsA news,m:=m,hs:=hs,ts:=ts,ep:=ep,z:=z,tz:=tz,j:=jN z,nm:=nmZ z,tn:=tn}
  have H':OwnAll 277 sh (rwD q e):=⟨⟨h2,l0⟩,⟨kp X o1 n0 (by kernel_rfl) (by kernel_rfl),l1⟩,⟨h3,l2⟩,⟨h4,l3⟩,⟨kp X o4 (ne_of o0 o4 (by kernel_rfl)) (by kernel_rfl) (by kernel_rfl),l4⟩,⟨kp X o5 n2 (by kernel_rfl) (by kernel_rfl),l5⟩,trivial⟩
  have F:=rw_facts H' n0 n1 n2
  have hz7:277≤sh.heap.objs.size:=T1.l7
  refine walk_code T1 Rm rfl F 200 [3,1] fun K' t hK=>?_
  have y:=rwT_0 q (kN_lt z) e K' t
  rw [show q.P=w.params from hp] at y
  revert y
  show rwT q (kN z) (runC p.prog w.params 200 (rwK p) [3,1] (rwD q e) K' t)→_
  generalize runC p.prog w.params 200 (rwK p) [3,1] (rwD q e) K' t=R
  intro y
  refine CNext.ok y Rm T1.size hzt fun R' y=>?_
  refine CTok.ok y Rm T1.size (fun c sh1 B T2 RB=>?_) fun tj b1 t1 R' zz zz y=>?_
  ·refine codeAny_mono (mod_spec T2 RB z tz 6 _) fun r' sh' hq=>x0 hq fun t' a1 a2=>⟨t',?_,a2⟩
   rw [a1,jN_eq]
  refine CRd.ok y Rm T1.size (fun sh1 B O T2 RB=>getitem_spec tj T2.gens T2.toks O.1.1 (by show jN z≤1000; have:=jN_lt z; lia) htn) fun R' y=>?_
  refine CTok.ok y Rm T1.size (fun c sh1 B T2 RB=>?_) fun x2 b3 t4 R' zz zz y=>?_
  ·exact codeAny_mono (div_spec T2 RB z tz 6 _ (.inr rfl)) fun r' sh' hq=>x0 hq fun t' a1 a2=>⟨t',a1,a2⟩
  refine CTok.ok y Rm T1.size (fun c sh1 B T2 RB=>?_) fun x3 b4 t5 R' zz zz y=>?_
  ·refine codeAny_mono (mod_spec T2 RB (z.fdiv 7) x2 3 _) fun r' sh' hq=>x0 hq fun t' a1 a2=>⟨t',?_,a2⟩
   rw [a1,kN_eq]
  refine CSet.ok (fun zz=>True) y Rm T1.size (fun s sh1 B pre S T2 RB=>?_) fun zz R' zz y=>?_
  ·obtain ⟨pre,pe⟩:=pre
   obtain ⟨⟨oo,_⟩,_⟩:=S.all0 pre
   refine codeAny_mono (append_spec S.gens T2.toks oo (by show (refsA news).size≤1000; simp [refsA]; lia)) fun r' sh' hq=>x4 hq fun y1 y2 y3=>⟨(),y1,trivial,?_,?_⟩
   ·rw [pe]; exact y2
   ·rw [pe]; exact y3
  refine CLoop.ok y fun sh' y S=>?_
  refine x13 y fun z1 z2 z3 z4=>?_; clear y
  have big:sh.heap.objs.size≤aOf (stOf R') 6:=new_of S rfl (n:=6) rfl (z3.trans rfl) (Nat.le_refl _) z4
  have Y:=(S.only (sh:=sh) rfl rfl rfl F (cs:=csL) (z1.trans rfl)).weak (mu':=rwMu p) fun b hb=>by
   rcases hb with hb | hb | hb | hb
   ·exact .inl hb
   ·exact .inr (.inl hb)
   ·exact .inr (.inr hb)
   ·exact hb.elim
  refine x9 (S.all rfl rfl hz7 F z2) fun a0 zz a2 zz a3 zz a7 l7 zz=>?_
  refine K sh' ⟨T1.ext Y (by rintro b (rfl | rfl | rfl)<;>assumption),X.trans Y,⟨news++ [aOf (stOf R') 6],m+1,_,_,_,_,?_,?_,?_,?_,a3⟩,a2⟩
  ·have e1:zs.take (i+1)=zs.take i++ [z]:=by rw [List.take_add_one,hzi]; rfl
   rw [e1,List.map_append]
   refine (h1.ext Y (nt h2 h3 h4)).app (.cons ⟨l7,tn,tokAt 1 (dOf (stOf R') 6),?_⟩ .nil)
   have:(rowZ z).2=vK (kN z):=(vK_eq (kN_lt z)).symm
   rw [this]
   exact a7
  ·refine List.nodup_append.mpr ⟨hnd,by simp,fun x hx y hy e=>?_⟩
   have hy:y=aOf (stOf R') 6:=by simpa using hy
   refine x1 (List.mem_iff_getElem?.mp hx) fun ix hix=>?_
   refine x21 (h1.get hix) fun zz zz zz zz zz g=>?_
   have g:=Heap.lt_size g
   rw [e,hy] at g
   exact absurd g (Nat.not_lt.mpr big)
  ·intro b hb
   rcases List.mem_append.mp hb with hb | hb
   ·exact hnew b hb
   ·have hb:b=aOf (stOf R') 6:=by simpa using hb
    rw [hb]
    exact Nat.le_trans X.size big
  ·have:refsA (news++ [aOf (stOf R') 6])=(refsA news).push (.ref (aOf (stOf R') 6)):=by simp [refsA]
   rw [this]
   exact a0
 ·refine x38 I fun T1 X news m e hs ts ep h1 hnd hnew h2 h4 h3=>?_; clear I
  let q:RwP:= {p with i:=zs.length,ys:=refsA news,m:=m,hs:=hs,ts:=ts,ep:=ep}
  have H':OwnAll 277 sh (rwD q e):=⟨⟨h2,l0⟩,⟨kp X o1 n0 (by kernel_rfl) (by kernel_rfl),l1⟩,⟨h3,l2⟩,⟨h4,l3⟩,⟨kp X o4 (ne_of o0 o4 (by kernel_rfl)) (by kernel_rfl) (by kernel_rfl),l4⟩,⟨kp X o5 n2 (by kernel_rfl) (by kernel_rfl),l5⟩,trivial⟩
  have F:=rw_facts H' n0 n1 n2
  refine walk_code T1 Rm rfl F 200 [3,1] fun K' t hK=>?_
  have y:=rwX_0 q e K' t
  rw [show q.P=w.params from hp] at y
  revert y
  show rwX q e (runC p.prog w.params 200 (rwK p) [3,1] (rwD q e) K' t)→_
  generalize runC p.prog w.params 200 (rwK p) [3,1] (rwD q e) K' t=R
  intro y
  refine CLast.ok y Rm T1.size (by show p.zs[zs.length]? =none; exact Array.getElem?_eq_none (by rw [hz.size]; lia)) fun ex R' y=>?_
  refine CEnd.ok y fun sh' y S=>?_
  have Y:=(S.only (sh:=sh) rfl rfl rfl F y).weak (mu':=fun b=>b=p.it) fun b h=>by
   rcases h with h | h
   ·exact h
   ·exact h.elim
  rw [List.take_length] at h1
  refine ⟨rfl,X.trans (Y.weak fun b h=>.inr (.inl h)),news,m,e,hs,ts,ep,h1.ext Y (fun b hb xs h=>?_),hnd,hnew,Y.keep _ _ h2 (ne_of h3 h2 (by kernel_rfl)),Y.keep _ _ h4 (ne_of h3 h4 (by kernel_rfl))⟩
  subst hb
  exact ne_of (o':=tupO xs) h3 h (by kernel_rfl) rfl
end
section
variable {prog:Program} {w:World} {A:Around} {sh:Shared}
theorem getslice2 {l n sl:Nat} {xs:Array Value} {a b:Option Int} {va vb:Value} (ha:IsPart va a) (hb:IsPart vb b) (hg:sh.gens= #[]) (ht:849≤sh.toks) (hl:sh.heap.get? l=some (listO xs n)) (hs:sh.heap.get? sl=some (sliceO va vb .none)) (hz:xs.size≤1000):
  codeAny (model prog w) A (getsC l sl) (fun r sh'=>r= .ok (.ret (.ref sh.heap.objs.size))∧Ext none_ sh sh'∧sh'.heap.get? sh.heap.objs.size=some (listO (slicePick xs a b none) 0)) sh:=by
 refine code_slot slot_list_getitem ⟨_,hl,rfl⟩ entry_list_getitem (args_list_getitem _ _) ?_
 have hTs:sh.TypeIs (.ref sl) "slice" :=⟨_,hs,rfl⟩
 show wpAny _ _ (Builtin.List.listSubscript? (.ref sl)>>=_) _ _ sh
 refine wpAny_bind ?_
 unfold Builtin.List.listSubscript?
 refine wpAny_bind (wpAny_specialOf hTs idx_slice ?_)
 simp only [Option.isNone_none,if_true]
 refine wpAny_pure ?_
 refine wpAny_bind (wpAny_typeOf hTs ?_)
 rw [if_neg (by decide)]
 rw [listSliceParts_eq]
 refine wpAny_bind (wpAny_bind (wpAny_field hs rfl (x:=.none) rfl (wpAny_bind (wpAny_listPart .none ?_))))
 rw [if_neg (show ¬ ((rawPart none==rawInt 0)=true) from Bool.false_ne_true)]
 refine wpAny_bind (wpAny_field hs rfl (x:=va) rfl (wpAny_bind (wpAny_listPart ha ?_)))
 refine wpAny_bind (wpAny_field hs rfl (x:=vb) rfl (wpAny_bind (wpAny_listPart hb (wpAny_pure ?_))))
 refine wpAny_bind (listItems_spec hl ?_)
 refine wpAny_bind (wpAny_of_eq (sliceIndices_raw a b none xs.size (by simp)) ?_)
 refine wpAny_bind (wpAny_newObj_type (wpAny_pure ⟨rfl,push_ext hg ht,?_⟩) ?_)
 ·exact Heap.get?_push_size _ rfl
 ·exact Nat.le_trans (slicePick_size_le xs a b none) (by rw [sizeLine_eq]; lia)
end
theorem pick57 (xs:Array Value):slicePick xs (some (Int.ofNat 5)) (some (Int.ofNat 7)) none=((xs.toList.drop 5).take 2).toArray:=by
 show slicePick xs (some ((5:Nat):Int)) (some ((7:Nat):Int)) none=_
 rw [slicePick_plain]
 simp only [Option.elim,clipAt_nat]
 congr 1
 obtain ⟨l⟩:=xs
 simp only [List.size_toArray]
 rcases Nat.lt_or_ge l.length 5 with h | h
 ·rw [show l.drop 5= [] from List.drop_eq_nil_of_le (by lia),show min 5 l.length=l.length by lia]
  simp
 ·rw [show min 5 l.length=5 by lia]
  rcases Nat.lt_or_ge l.length 7 with h' | h'
  ·rw [show min 7 l.length - 5=l.length - 5 by lia,List.take_of_length_le (by simp),List.take_of_length_le (by simp; lia)]
  ·rw [show min 7 l.length - 5=2 by lia]
theorem pick05 (xs:Array Value):slicePick xs none (some (Int.ofNat 5)) none=(xs.toList.take 5).toArray:=slicePick_upto' xs 5
structure LgP where
 prog:Program
 P:Params
 sl:Nat
 n:Nat
 zs:Array Value
noncomputable def lgD (p:LgP):List (Nat×Obj):= [(p.sl,listO p.zs p.n),(273,tabO #[])]
noncomputable def callL (sl:Nat):Code:=.call (.ref 276) ⟨[.ref sl],[]⟩
noncomputable def addC (a b:Nat):Code:=.call (.builtin "list.__add__") ⟨[.ref a,.ref b],[]⟩
noncomputable def litO (l:List Nat) (o:Obj):Obj:=listO (intsA l (itks (seqOf o))).toArray 0
noncomputable def nmO (o:Obj):Obj:=listO (strsP (zipT names7 (toksS (seqOf o)))).toArray 0
noncomputable def hRw (b:Bool):List Nat:= [10,10,0,10,0,11,0]++(match b with
 | true=> [1]
 | false=> [11,11,0,11,0,11,1])
noncomputable def hRf:Option Value→List Nat
 | none=> [3,3,12,3,1,1,1,1]
 | some _=> [3,3,12,12,12,3,1,1,1,1]
noncomputable def rwL (x2:Nat) (xs2:Array Value) (s:St):List (Nat×Obj):= [(aOf s 11,listO #[] 0),(x2,listO xs2 0),(aOf s 10,iterO x2 0),(aOf s 12,dicO [] (hsOf (dOf s 12)) (tsOf (dOf s 12)) (epOf (dOf s 12))),(aOf s 3,cellO (.ref (aOf s 5))),(aOf s 5,nmO (dOf s 5))]
noncomputable def lgLaw (p:LgP) (nr:Nat) (xl:LcX) (x5:Nat×Array Value) (s:St):LawP:= {prog:=p.prog,P:=p.P,it:=aOf s 17,i:=0,left:=Int.ofNat (nr+1),fr:=aOf s 2,sl:=p.sl,lr:=aOf s 10,n1:=xl.m,xs:=xl.ys,rl:=x5.1,n2:=0,zs:=x5.2,ct:=aOf s 4,cn:=aOf s 3}
noncomputable def lgY (s:St):LwS:=⟨0,0,0,0,0,hsOf (dOf s 2),tsOf (dOf s 2),epOf (dOf s 2),none⟩
noncomputable def lgB (p:LgP) (xl:LcX):Rs→Prop:=
 CSw (X:=Nat) (fun s=>getsC p.sl (aOf s 12)) (fun s=>pick [0,12] s.D= [(p.sl,listO p.zs p.n),(aOf s 12,sliceO (.int (Int.ofNat 5) (tkN 0 (dOf s 12))) (.int (Int.ofNat 7) (tkN 1 (dOf s 12))) .none)]) (fun x=>.ok (.ret (.ref x))) [] (fun zz x=> [(x,listO ((p.zs.toList.drop 5).take 2).toArray 0)]) (fun zz=> [14,15,14,1]) fun x4=>
 CSw (X:=Nat×Array Value) (fun s=>addC x4 (aOf s 14)) (fun s=>pick [13,14] s.D= [(x4,listO ((p.zs.toList.drop 5).take 2).toArray 0),(aOf s 14,litO [6,8,15] (dOf s 14))]) (fun x=>.ok (.ret (.ref x.1))) [] (fun zz x=> [(x.1,listO x.2 0)]) (fun zz=> [3,3,0,0,0,0,3,1]) fun x5=>
 CSw (X:=Nat×Nat) (fun zz=>lenC x5.1) (fun s=>pick [15] s.D= [(x5.1,listO x5.2 0)]) (fun x=>.ok (.ret (.int (Int.ofNat x.1) x.2))) [] (fun zz zz=> []) (fun zz=> [0,0,0,0,0,0,17,17,0,17,0,17,17,17,1]) fun xn=>
 CSw (X:=Nat) (fun s=>.call (.builtin "range.__iter__") ⟨[.ref (aOf s 16)],[]⟩) (fun s=>pick [16] s.D= [(aOf s 16,rgO (xn.1+1) (dOf s 16))]) (fun x=>.ok (.ret (.ref x))) [] (fun zz x=> [(x,riO 0 (Int.ofNat (xn.1+1)))]) (fun zz=> [18,1]) fun ri R=>
 nOf R=0∧CN (X:=Unit) (fun s=>lawC ri (aOf s 2) (aOf s 4) (aOf s 3)) (fun s=>pick [17,2,4,10,15,1] s.D=lwD (lgLaw p xn.1 xl x5 s) false (lgY s)∧aOf s 17=ri∧some_ s [2,4,10]∧pick [0] s.D= [(p.sl,listO p.zs p.n)]) (fun zz=>.ok .next) (fun zz=> []) (fun zz=> []) (fun zz=>
 CEnd (.ok (.ret (.bool true))) fun zz=>True) R
noncomputable instance lgB.rf {p:LgP} {xl:LcX} {R:Rs} :Rf (lgB p xl R):=by
 delta lgB; infer_instance
noncomputable def lgT (p:LgP) (b1:Bool):Rs→Prop:=
 CSw (X:=Nat) (fun s=>getsC p.sl (aOf s 6)) (fun s=>pick [0,6] s.D= [(p.sl,listO p.zs p.n),(aOf s 6,sliceO .none (.int (Int.ofNat 5) (tkN 1 (dOf s 6))) .none)]) (fun x=>.ok (.ret (.ref x))) [] (fun zz x=> [(x,listO (p.zs.toList.take 5).toArray 0)]) (fun zz=> [8,9,8,1]) fun x1=>
 CSw (X:=Nat×Array Value) (fun s=>addC x1 (aOf s 8)) (fun s=>pick [7,8] s.D= [(x1,listO (p.zs.toList.take 5).toArray 0),(aOf s 8,litO [0,8,16,24,5] (dOf s 8))]) (fun x=>.ok (.ret (.ref x.1))) [] (fun zz x=> [(x.1,listO x.2 0)]) (fun zz=>hRw b1) fun x2=>
 CSw (X:=LcX) (fun s=>rwC (aOf s 10) (aOf s 11) (aOf s 2) (aOf s 12) (aOf s 3)) (fun s=>pick [11,9,10,12,3,5] s.D=rwL x2.1 x2.2 s∧some_ s [3,5,9,10,11,12]∧aOf s 9=x2.1∧pick [1] s.D= [(273,tabO #[])]∧all_ looseB (keepA (csN [10,11,12] 13) s.D)=true∧pick [0] s.D= [(p.sl,listO p.zs p.n)]∧keepD [false,true] s.D=keepD [false,true] (lgD p)) (fun zz=>.ok .next) (csN [10,11,12] 13) (fun s x=> [(aOf s 11,listO x.ys x.m),(aOf s 12,dicO (xE x.e) x.hs x.ts x.ep)]) (fun x=>hRf x.e) fun xl=>lgB p xl
noncomputable instance lgT.rf {p:LgP} {b1:Bool} {R:Rs} :Rf (lgT p b1 R):=by
 delta lgT; infer_instance
noncomputable abbrev lgRun (p:LgP) (P:Params) (K t:Nat):Rs:=runC p.prog P 400 (callL p.sl) [0,0,3,3,0,0,4,4,3,1,1,1,1] (lgD p) K t
theorem lgT_0 (p:LgP) (K t:Nat):lgT p (itw p.P) (lgRun p p.P K t):=pset_two (X:=fun b1 zz P=>lgT p b1 (lgRun p P K t)) (P:=p.P) (by exact Rf.prove _ (by kernel_rfl))
structure FinS (prog:Program) (w:World) (os:Beg) (sh:Shared):Prop where
 osE:sh.os=os.os
 keep: ∀ b o,os.h.get? b=some o→b<277→b≠40→b≠73→b≠273→sh.heap.get? b=some o
 slo:sh.heap.get? os.sl=some (listO os.vs os.n)
 tab:Tab sh
 t40:Tab40 prog w sh
 t273: ∃ xs,sh.heap.get? 273=some (tabO xs)
section
variable {w:World} {A:Around} {os:Beg} {refs:List Nat} {rows:List Row} {zs:List Int}
theorem LwFix.at {p:LawP} (X:LwFix w p refs rows zs) (i:Nat) (l:Int):LwFix w {p with i:=i,left:=l} refs rows zs:=⟨X.hP,X.xs,X.hz,X.ok,X.len,X.zl,X.nd,X.itL,X.frL,X.ctL,X.lrL,X.rlL⟩
theorem lw_turn (Rm:RoomE 7 2 A) {Q:Result→Shared→Prop} {p:LawP} {f:Bool} {y:LwS} {sh:Shared} (X:LwFix w p refs rows zs) (I:LwInv w os refs rows p f y sh) (hi:p.i≤zs.length) (hl:0<p.left)
  (K: ∀ y' sh',LwInv w os refs rows {p with i:=p.i+1,left:=p.left - 1} true y' sh'→codeAny (model p.prog w) A (lawC p.it p.fr p.ct p.cn) Q sh'):codeAny (model p.prog w) A (lawC p.it p.fr p.ct p.cn) Q sh:=by
 refine walk_codeG I.T Rm.room rfl I.F (hi_base (l:= []) X fun b hb=>hb.elim).allK 800 [1,1] fun K' t hK zz=>?_
 have z:lwAll p (itw p.P) f y (lwRun p p.P f y K' t):=by
  cases f with
  | false=>exact lwF_false p y K' t
  | true=>exact lwF_true p y K' t
 rw [X.hP] at z
 revert z
 show lwAll p (itw w.params) f y (runC p.prog w.params 800 (lawC p.it p.fr p.ct p.cn) [1,1] (lwD p f y) K' t)→_
 generalize runC p.prog w.params 800 (lawC p.it p.fr p.ct p.cn) [1,1] (lwD p f y) K' t=R
 intro z
 exact lw_A Rm X I hi hl z fun tk xa xb sh' R' hA z=>lw_B Rm.room X hA z hi fun xc xo sh2 R2 hB z=>lw_C Rm.room X hB z K
theorem law_loop (Rm:RoomE 7 2 A) {p:LawP} {f:Bool} {y:LwS} {sh:Shared} (X:LwFix w p refs rows zs) (I:LwInv w os refs rows p f y sh) (hi:p.i=0) (hl:p.left=Int.ofNat (zs.length+1)):
  codeAny (model p.prog w) A (lawC p.it p.fr p.ct p.cn) (fun r sh'=>r= .ok .next∧Top w sh'∧FinS p.prog w os sh') sh:=by
 refine loop_rule (Inv:=fun i sh=>∃ f y,LwInv w os refs rows {p with i:=i,left:=(zs.length:Int)+1 - i} f y sh) (n:=zs.length+1) (fun i sh hin I K=>?_) (fun sh I=>?_) (zs.length+1) 0 sh (by lia) ⟨f,y,?_⟩
 ·refine x23 I fun f y I=>?_
  refine lw_turn (Q:=fun r sh'=>r= .ok .next∧Top w sh'∧FinS p.prog w os sh') Rm (p:= {p with i:=i,left:=(zs.length:Int)+1 - i}) (X.at _ _) I (by show i≤zs.length; lia) (by show (0:Int)<(zs.length:Int)+1 - i; lia) fun y' sh' I'=>?_
  refine K sh' ⟨true,y',?_⟩
  have e:((zs.length:Int)+1 - (i:Int)) - 1=(zs.length:Int)+1 - ((i+1:Nat):Int):=by lia
  have I':LwInv w os refs rows {p with i:=i+1,left:=((zs.length:Int)+1 - (i:Int)) - 1} true y' sh':=I'
  rw [e] at I'
  exact I'
 ·refine x23 I fun f y I=>?_
  have e:(zs.length:Int)+1 - ((zs.length+1:Nat):Int)=0:=by lia
  rw [e] at I
  let q:LawP:= {p with i:=zs.length+1,left:=0}
  have Xq:LwFix w q refs rows zs:=X.at _ _
  have hb:=hi_base Xq (io:=io0 q) (fo:=frL q (fO y.i y.tk y.a y.b f) y.hs y.ts y.ep) (o:=t273 y.cd f) (cv:=y.cv) (l:= []) fun b hb=>hb.elim
  refine walk_codeG I.T Rm.room rfl I.F hb.allK 800 [1,1] fun K' t hK zz=>?_
  have z:=lwX_0 q f y K' t
  rw [Xq.hP] at z
  revert z
  show lwX q f y (runC p.prog w.params 800 (lawC p.it p.fr p.ct p.cn) [1,1] (lwD q f y) K' t)→_
  generalize runC p.prog w.params 800 (lawC p.it p.fr p.ct p.cn) [1,1] (lwD q f y) K' t=R
  intro z
  refine CSw.ok (fun zz=>True) z Rm.room I.T.size (fun s sh1 B pre S T1 RB=>?_) fun x R' zz z=>?_
  ·refine x3 (S.all0 pre) fun o1 zz zz=>?_
   have l7:277≤sh1.heap.objs.size:=T1.l7
   refine codeAny_mono (rnext_end S.gens T1.toks RB.handled o1 (Int.le_refl 0)) fun r sh' hq=>x15 hq fun ex vs h1 h2 h3 h4=>⟨(ex,vs),h1,trivial,h2.weak fun b hb=>hb.elim,.cons h4 (Nat.le_trans l7 h3) ne_nil .nil,fun y hy=>.inl ?_⟩
   rw [List.mem_singleton.mp hy]; exact h3
  refine CEnd.ok z fun sh' z S=>?_
  have F1:Facts 0 sh' (pick [0,1,2,3,4,5] (stOf R').D):=S.pickF rfl
  rw [z] at F1
  have O1:=I.O.ext0 (ext_same (S.ext (sh₀:=sh) rfl rfl) I.F F1)
  exact ⟨rfl,topW w S rfl I.T.size,O1.osE,O1.keep,O1.slo,O1.tab,O1.t40,tab_base F1⟩
 ·have e:p= {p with i:=0,left:=(zs.length:Int)+1 - ((0:Nat):Int)} :=by
   have:(zs.length:Int)+1 - ((0:Nat):Int)=p.left:=by rw [hl]; simp
   rw [this,←hi]
  rw [←e]
  exact I
end
theorem intsA_zs: ∀ (l ts:List Nat),IsZs (intsA l ts).toArray (l.map Int.ofNat)
 | [],_=>⟨[],rfl,rfl⟩
 | v::l,[]=>by
  refine x0 (intsA_zs l []) fun ps h1 h2=>?_
  refine ⟨(Int.ofNat v,0)::ps,?_,by rw [List.map_cons,h2]; rfl⟩
  have h1:=congrArg Array.toList h1
  show (Value.int (Int.ofNat v) 0::intsA l []).toArray=_
  rw [show intsA l []=_ from h1]; rfl
 | v::l,t::ts=>by
  refine x0 (intsA_zs l ts) fun ps h1 h2=>?_
  refine ⟨(Int.ofNat v,t)::ps,?_,by rw [List.map_cons,h2]; rfl⟩
  have h1:=congrArg Array.toList h1
  show (Value.int (Int.ofNat v) t::intsA l ts).toArray=_
  rw [show intsA l ts=_ from h1]; rfl
theorem pick1_get {j:Nat} {D:List (Nat×Obj)} {x:Nat×Obj} (h:pick [j] D= [x]):getD D j=some x:=by
 unfold pick at h
 cases q:getD D j with
 | none=>rw [q] at h; cases h
 | some y=>rw [q] at h; exact congrArg some (List.cons.inj h).1
theorem nmO_get (o:Obj) (j:Nat) (hj:j<7): ∃ t,((strsP (zipT names7 (toksS (seqOf o)))).toArray)[j]? =some (.str (names7.getD j sAccept) t):=by
 have e:=zipT_fst names7 (toksS (seqOf o))
 generalize zipT names7 (toksS (seqOf o))=ps at e
 have l:ps.length=7:=by have:=congrArg List.length e; simpa [names7] using this
 obtain ⟨x,hx⟩: ∃ x,ps[j]? =some x:=⟨ps[j]'(by lia),by simp⟩
 refine ⟨x.2,?_⟩
 rw [List.getElem?_toArray,strsP_get ps j,hx]
 have:names7[j]? =some x.1:=by rw [←e,List.getElem?_map,hx]; rfl
 show some (Value.str x.1 x.2)=_
 rw [List.getD,this]; rfl
theorem looseMu_own {sh:Shared} {mu:Nat→Prop} {D:List (Nat×Obj)} (F: ∀ (i:Nat) (x:Nat×Obj),D[i]? =some x→sh.heap.get? x.1=some x.2) (h:all_ looseB D=true) (hmu: ∀ b,mu b→inD D b) (ht: ∃ xs,sh.heap.get? 273=some (tabO xs)) (hh: ∀ b,inD D b→277≤b∨b=273):LooseMu sh mu:=by
 refine ⟨fun b o hb ho=>?_,ht,fun b hb=>hh b (hmu b hb)⟩
 refine x12 (inD_idx (hmu b hb)) fun i y hy hr1=>?_; subst hr1
 have e:=F i y hy
 rw [ho] at e
 have e:=Option.some.inj e
 subst e
 have:=all_at h y (List.mem_of_getElem? hy)
 unfold looseB at this
 cases q:loose y.2 with
 | true=>exact .inl rfl
 | false=>
  rw [q] at this
  exact .inr (Nat.eq_of_beq_eq_true this)
theorem all_app {f:Nat×Obj→Bool} : ∀ {D E:List (Nat×Obj)},all_ f D=true→all_ f E=true→all_ f (apL D E)=true
 | [],_,_,h=>h
 | x::l,E,h,h'=>by
  unfold all_ at h
  show all_ f (x::apL l E)=true
  unfold all_
  cases q:f x with
  | false=>rw [q] at h; cases h
  | true=>rw [q] at h; exact all_app h h'
noncomputable def zsRows (zs:List Int):List Int:=zs.take 5++ [0,8,16,24,5]
noncomputable def zsRules (zs:List Int):List Int:=(zs.drop 5).take 2++ [6,8,15]
theorem c3_app (a b:List Int):c3 (a++b)=c3 a+c3 b:=by unfold c3; simp
theorem c3_len (a:List Int):c3 a≤a.length:=by
 unfold c3
 induction a with
 | nil=>simp
 | cons z l ih=>
  have:k3 z≤1:=by unfold k3; split<;>lia
  simp only [List.map_cons,List.sum_cons,List.length_cons]; lia
theorem rules_c3 (zs:List Int):c3 (zsRules zs)≤3:=by
 unfold zsRules
 rw [c3_app]
 have h1:=c3_len ((zs.drop 5).take 2)
 have h2:((zs.drop 5).take 2).length≤2:=List.length_take_le _ _
 have h3:c3 [6,8,15]=1:=by decide+kernel
 lia
theorem rules_len (zs:List Int):(zsRules zs).length≤5:=by
 unfold zsRules
 have h2:((zs.drop 5).take 2).length≤2:=List.length_take_le _ _
 simp only [List.length_append,List.length_cons,List.length_nil]
 lia
theorem rows_len (zs:List Int):(zsRows zs).length≤10:=by
 unfold zsRows
 have h2:(zs.take 5).length≤5:=List.length_take_le _ _
 simp only [List.length_append,List.length_cons,List.length_nil]
 lia
theorem FinS.ext0 {prog:Program} {w:World} {os:Beg} {sh sh':Shared} (O:FinS prog w os sh) (X:Ext none_ sh sh'):FinS prog w os sh':=
 ⟨X.os.trans O.osE,fun b o e h1 h2 h3 h4=>X.keep _ _ (O.keep b o e h1 h2 h3 h4) id,X.keep _ _ O.slo id,O.tab.ext X id fun zz zz zz zz=>id,O.t40.ext73 (X.weak fun zz h=>h.elim),O.t273.imp fun zz h=>X.keep _ _ h id⟩
section
variable {prog:Program} {w:World} {A:Around}
theorem law_spec (Rm:RoomE 7 3 A) {sh:Shared} {sl n:Nat} {vs:Array Value} {zs:List Int} (T:Top w sh) (hl:sh.heap.get? sl=some (listO vs n)) (hL:277≤sl) (hz:IsZs vs zs) (len:zs.length≤63) (tab:Tab sh) (t40:Tab40 prog w sh) (t273:sh.heap.get? 273=some (tabO #[])):
  codeAny (model prog w) A (callL sl) (fun r sh'=>r= .ok (.ret (.bool true))∧sh'.gens= #[]∧FinS prog w ⟨sh.os,sh.heap,sl,n,vs⟩ sh') sh:=by
 let p:LgP:=⟨prog,w.params,sl,n,vs⟩
 have F:Facts 0 sh (lgD p):=.cons hl (Nat.zero_le _) (ne_cons (show (273:Nat)≠sl by lia) ne_nil) (.cons t273 (Nat.zero_le _) ne_nil .nil)
 have hi0:Hi (lgD p):=by
  rintro b (rfl | rfl | hb)
  ·exact .inl hL
  ·exact .inr rfl
  ·exact hb.elim
 have hz7:277≤sh.heap.objs.size:=T.l7
 have vsz:vs.size≤1000:=by rw [hz.size]; lia
 have lm0:LooseMu sh (inD (lgD p)):=looseMu_of F (by kernel_rfl) (fun zz h=>h) ⟨_,t273⟩ hi0
 refine walk_codeG T Rm.room rfl F hi0.allK 400 [0,0,3,3,0,0,4,4,3,1,1,1,1] fun K t hK zz=>?_
 have q:=lgT_0 p K t
 revert q
 show lgT p (itw w.params) (runC prog w.params 400 (callL sl) [0,0,3,3,0,0,4,4,3,1,1,1,1] (lgD p) K t)→_
 generalize runC prog w.params 400 (callL sl) [0,0,3,3,0,0,4,4,3,1,1,1,1] (lgD p) K t=R
 intro q
 refine CSw.ok (fun x=>277≤x) q Rm.room T.size (fun s sh1 B pre S T1 RB=>?_) fun x1 R' l1 q=>?_
 ·refine x6 (S.all0 pre) fun o1 zz o2 zz zz=>?_
  have l7:277≤sh1.heap.objs.size:=T1.l7
  refine codeAny_mono (getslice2 .none (.int _ _) S.gens T1.toks o1 o2 vsz) fun r' sh' hq=>x4 hq fun h1 h2 h3=>⟨_,h1,l7,h2.weak fun b hb=>hb.elim,.cons (by rw [←pick05]; exact h3) l7 ne_nil .nil,fun y hy=>.inl ?_⟩
  rw [List.mem_singleton.mp hy]; exact Nat.le_refl _
 refine CSw.ok (fun x=>277≤x.1∧IsZs x.2 (zsRows zs)) q Rm.room T.size (fun s sh1 B pre S T1 RB=>?_) fun x2 R' hx2 q=>?_
 ·refine x6 (S.all0 pre) fun o1 zz o2 zz zz=>?_
  have l7:277≤sh1.heap.objs.size:=T1.l7
  have z1:=hz.take 5
  have z2:=intsA_zs [0,8,16,24,5] (itks (seqOf (dOf s 8)))
  refine codeAny_mono (add_spec S.gens T1.toks o1 o2 (by rw [z1.size,z2.size]; have:=List.length_take_le 5 zs; simp; lia)) fun r' sh' hq=>x4 hq fun h1 h2 h3=>⟨(_,_),h1,⟨l7,z1.app z2⟩,h2.weak fun b hb=>hb.elim,.cons h3 l7 ne_nil .nil,fun y hy=>.inl ?_⟩
  rw [List.mem_singleton.mp hy]; exact Nat.le_refl _
 obtain ⟨l2,zx2⟩:=hx2
 refine CSw.okR (fun s sh1 x sh'=>277≤aOf s 11∧∃ news,x.ys=refsA news∧RowsAt sh' news ((zsRows zs).map rowZ)∧news.Nodup) q Rm.room T.size (fun s sh1 B pre S T1 RB=>?_) fun xl s sh1 s' sh2 R' pre S hT X1 S' hD T2 q=>?_
 ·refine x39 pre fun p1 g3 g5 g9 g10 g11 g12 zz e9 p2 zz zz zz=>?_; clear pre
  refine x14 (S.all0 p1) fun o11 zz o9 zz o10 zz o12 zz o3 zz o5 zz zz=>?_
  refine x3 (S.all0 p2) fun ot zz zz=>?_
  have his:=S.hi rfl hi0 hz7
  have ge: ∀ {j:Nat} {o:Obj},(getD s.D j).isSome=true→sh1.heap.get? (aOf s j)=some o→o.cls≠ .none→277≤aOf s j:=fun g ho hc=>ge_cls his (inD_of (aOf_get g)) ho ⟨_,ot⟩ hc
  have l11:=ge g11 o11 (by intro h; cases h)
  have l10:=ge g10 o10 (by intro h; cases h)
  have l12:=ge g12 o12 (by intro h; cases h)
  have l3:=ge g3 o3 (by intro h; cases h)
  have l5:=ge g5 o5 (by intro h; cases h)
  let r:RwP:= {prog:=prog,P:=w.params,it:=aOf s 10,ol:=x2.1,i:=0,on:=0,zs:=x2.2,cf:=aOf s 12,hs:=hsOf (dOf s 12),ts:=tsOf (dOf s 12),ep:=epOf (dOf s 12),acc:=aOf s 11,ys:= #[],m:=0,cn:=aOf s 3,nl:=aOf s 5,n:=0,xs:=(strsP (zipT names7 (toksS (seqOf (dOf s 5))))).toArray,fr:=aOf s 2,z:=0,tz:=0,j:=0,nm:=⟨#[]⟩,tn:=0}
  have H:OwnAll 277 sh1 (rwD r none):=⟨⟨o11,l11⟩,⟨o9,l2⟩,⟨o10,l10⟩,⟨o12,l12⟩,⟨o3,l3⟩,⟨o5,l5⟩,trivial⟩
  refine codeAny_mono (rw_loop (prog:=prog) (RB.mono (by decide)) (p:=r) rfl rfl zx2 (nmO_get _) (by have:=rows_len zs; lia) T1 rfl rfl H (by show x2.1≠aOf s 11; rw [←e9]; exact apart_of S g9 g11 (by decide)) (by show aOf s 5≠x2.1; rw [←e9]; exact apart_of S g5 g9 (by decide)) (by show aOf s 5≠aOf s 11; exact apart_of S g5 g11 (by decide))) fun r' sh' hq=>?_
  refine x30 hq fun h1 h2 news m e hs ts ep h3 h4 h5 h6 h7=>?_; clear hq
  refine ⟨⟨_,m,e,hs,ts,ep⟩,h1,⟨l11,news,rfl,h3,h4⟩,h2.weak fun b hb=>?_,(Facts.of (lo:=277) (D:= [(aOf s 11,listO (refsA news) m),(aOf s 12,dicO (xE e) hs ts ep)]) ⟨⟨h6,l11⟩,⟨h7,l12⟩,trivial⟩ (by kernel_rfl)).raise fun zz zz=>Nat.zero_le _,fun y hy=>.inr ?_⟩
  ·rcases hb with rfl | rfl | rfl
   ·exact chA_at g11 (csN_at (by lia) (by simp))
   ·exact chA_at g10 (csN_at (by lia) (by simp))
   ·exact chA_at g12 (csN_at (by lia) (by simp))
  ·rcases List.mem_cons.mp hy with rfl | hy
   ·exact chA_at g11 (csN_at (by lia) (by simp))
   ·rw [List.mem_singleton.mp hy]
    exact chA_at g12 (csN_at (by lia) (by simp))
 refine x73 hT fun l11 news ey rN ndN=>?_; clear hT
 refine x39 pre fun p1 g3 g5 g9 g10 g11 g12 zz e9 p2 pl p0 k0=>?_; clear pre
 have his':Hi s'.D:=S'.hi rfl hi0 hz7
 have ot2:sh2.heap.get? 273=some (tabO #[]):=by
  refine x3 (S.all0 p2) fun ot zz zz=>?_
  refine X1.keep _ _ ot fun hb=>?_
  refine x10 (chA_idx hb) fun j x h1 h2 h3=>?_
  have g:=pick1_get p2
  rw [getD_eq] at g
  have:=S.apart j 1 x _ h1 g h3.symm
  subst this
  cases h2
 have X02:=S'.ext (sh₀:=sh) rfl rfl
 have lm2:LooseMu sh2 (inD s'.D):=looseMu_own S'.own (by rw [hD]; exact all_app pl (by kernel_rfl)) (fun zz h=>h) ⟨_,ot2⟩ his'
 have X01:=S.only (sh:=sh) rfl rfl rfl F k0
 have his1:=S.hi rfl hi0 hz7
 have slN: ¬ chA (csN [10,11,12] 13) s.D sl:=fun hb=>by
  refine x10 (chA_idx hb) fun j x h1 h2 h3=>?_
  have g:=pick1_get p0
  rw [getD_eq] at g
  have:=S.apart j 0 x _ h1 g h3.symm
  subst this
  cases h2
 have O2:Out prog w ⟨sh.os,sh.heap,sl,n,vs⟩ news ((zsRows zs).map rowZ) false 0 sh2:=⟨S'.os,fun b o e h1 h2 h3 h4=>X1.keep _ _ (X01.keep _ _ e fun hb=>hb.elim h4 fun hb=>hb.elim) fun hb=>by
  refine x10 (chA_idx hb) fun j x g1 zz hr2=>?_; subst hr2
  exact (his1 x.1 (inD_of g1)).elim (fun h=>absurd h1 (Nat.not_lt.mpr h)) h4,X1.keep _ _ (X01.keep _ _ hl fun hb=>hb.elim (fun (h:sl=273)=>by lia) fun hb=>hb.elim) slN,hL,lm0.tab73 X02 tab,lm0.tab40 X02 t40,rN,fun h=>by cases h⟩
 refine CSw.ok (fun x=>277≤x) q Rm.room T2.size (fun s sh1 B pre S T1 RB=>?_) fun x4 R' l4 q=>?_
 ·refine x6 (S.all0 pre) fun o1 zz o2 zz zz=>?_
  have l7:277≤sh1.heap.objs.size:=T1.l7
  refine codeAny_mono (getslice2 (.int _ _) (.int _ _) S.gens T1.toks o1 o2 vsz) fun r' sh' hq=>x4 hq fun h1 h2 h3=>⟨_,h1,l7,h2.weak fun b hb=>hb.elim,.cons (by rw [←pick57]; exact h3) l7 ne_nil .nil,fun y hy=>.inl ?_⟩
  rw [List.mem_singleton.mp hy]; exact Nat.le_refl _
 refine CSw.ok (fun x=>277≤x.1∧IsZs x.2 (zsRules zs)) q Rm.room T2.size (fun s sh1 B pre S T1 RB=>?_) fun x5 R' hx5 q=>?_
 ·refine x6 (S.all0 pre) fun o1 zz o2 zz zz=>?_
  have l7:277≤sh1.heap.objs.size:=T1.l7
  have z1:=hz.slice 5 2
  have z2:=intsA_zs [6,8,15] (itks (seqOf (dOf s 14)))
  refine codeAny_mono (add_spec S.gens T1.toks o1 o2 (by rw [z1.size,z2.size]; have:=List.length_take_le 2 (zs.drop 5); simp; lia)) fun r' sh' ⟨h1,h2,h3⟩=>⟨(_,_),h1,⟨l7,z1.app z2⟩,h2.weak fun b hb=>hb.elim,.cons h3 l7 ne_nil .nil,fun y hy=>.inl ?_⟩
  rw [List.mem_singleton.mp hy]; exact Nat.le_refl _
 obtain ⟨l5,zx5⟩:=hx5
 have rl:=rules_len zs
 refine CSw.ok (fun x=>x.1=(zsRules zs).length) q Rm.room T2.size (fun s sh1 B pre S T1 RB=>?_) fun xn R' hxn q=>?_
 ·refine x3 (S.all0 pre) fun o1 zz zz=>?_
  have z:=len_spec (prog:=prog) T1 RB o1 l5 (by rw [zx5.size]; lia)
  rw [zx5.size] at z
  exact codeAny_mono z fun r' sh' hq=>x0 hq fun t h1 h2=>⟨(_,t),h1,rfl,h2,.nil,fun y hy=>by cases hy⟩
 refine CSw.ok (fun x=>277≤x) q Rm.room T2.size (fun s sh1 B pre S T1 RB=>?_) fun ri R' li q=>?_
 ·refine x3 (S.all0 pre) fun o1 zz zz=>?_
  have l7:277≤sh1.heap.objs.size:=T1.l7
  refine codeAny_mono (riter_spec T1.gens T1.toks o1 (by lia)) fun r' sh' ⟨h1,h2,h3⟩=>?_
  refine ⟨_,h1,l7,h2.weak fun b hb=>hb.elim,.cons h3 l7 ne_nil .nil,fun y hy=>.inl ?_⟩
  rw [List.mem_singleton.mp hy]; exact Nat.le_refl _
 obtain ⟨qn,q⟩:=q
 refine CN.okE (fun zz sh'=>FinS prog w ⟨sh.os,sh.heap,sl,n,vs⟩ sh') qn q Rm T2.size (fun s sh1 B pre S T1 RB=>?_) fun zz sh3 R' hT T3 F3 q=>?_
 ·refine x74 pre fun p1 e17 g2 g4 g10 zz p0=>?_; clear pre
  refine x3 (S.all0 p0) fun os0 zz zz=>?_
  have X1:Ext (fun b=>inD s'.D b∧b≠sl) sh2 sh1:=(S.ext (sh₀:=sh2) rfl rfl).mono fun b o ho hb=>by
   by_cases e:b=sl
   ·right
    rw [e] at ho ⊢
    rw [show sh2.heap.get? sl=some (listO vs n) from O2.slo] at ho
    rw [←ho]
    exact os0
   ·exact .inl ⟨hb,e⟩
  have O1:=O2.ext (mu:=fun b=>inD s'.D b∧b≠sl) ⟨fun b o hb=>lm2.at_ b o hb.1,lm2.tab,fun b hb=>lm2.hi b hb.1⟩ (fun h=>h.2 rfl) X1
  have hsz2:277≤sh2.heap.objs.size:=T2.l7
  have his:=S.hi rfl his' hsz2
  have F1:Facts 0 sh1 (pick [17,2,4,10,15,1] s.D):=S.pickF rfl
  rw [p1] at F1
  have tb:=tab_base F1
  have lfr:=ge_cls his (inD_of (aOf_get g2)) (F1.at0 (y:=(aOf s 2,frL (lgLaw p xn.1 xl x5 s) [] (lgY s).hs (lgY s).ts (lgY s).ep)) (mx 1 rfl)).1 tb (by intro h; cases h)
  have lct:=ge_cls his (inD_of (aOf_get g4)) (F1.at0 (y:=(aOf s 4,cellX none)) (mx 2 rfl)).1 tb (by intro h; cases h)
  have llr:=ge_cls his (inD_of (aOf_get g10)) (F1.at0 (y:=(aOf s 10,listO xl.ys xl.m)) (mx 3 rfl)).1 tb (by intro h; cases h)
  have X:LwFix w (lgLaw p xn.1 xl x5 s) news ((zsRows zs).map rowZ) (zsRules zs):=⟨rfl,ey,zx5,fun r hr=>by
   refine x0 (List.mem_map.mp hr) fun z zz hr3=>?_; subst hr3
   exact rowZ_ok z,by rw [List.length_map]; have:=rows_len zs; have:=rules_c3 zs; lia,rl,ndN,by show 277≤aOf s 17; rw [e17]; exact li,lfr,lct,llr,l5⟩
  have z:=law_loop (os:=⟨sh.os,sh.heap,sl,n,vs⟩) RB X (f:=false) (y:=lgY s) (sh:=sh1) ⟨T1,F1,O1⟩ rfl (by show Int.ofNat (xn.1+1)=_; rw [hxn])
  have ec:lawC ri (aOf s 2) (aOf s 4) (aOf s 3)=lawC (lgLaw p xn.1 xl x5 s).it (lgLaw p xn.1 xl x5 s).fr (lgLaw p xn.1 xl x5 s).ct (lgLaw p xn.1 xl x5 s).cn:=by
   show _=lawC (aOf s 17) _ _ _
   rw [e17]; rfl
  rw [ec]
  exact codeAny_mono z fun r' sh' ⟨h1,h2,h3⟩=>⟨(),h1,h3,h2,.nil,trivial⟩
 exact CEnd.ok q fun sh' zz S=>⟨rfl,S.gens,hT.ext0 ((S.ext (sh₀:=sh3) rfl rfl).weak fun b hb=>hb)⟩
end
theorem kC0_tab (p:CkP) (x:CkX):dOf ⟨kC0 p x,0,0,0,0,[]⟩ 0=tabO (fldL (dOf ⟨kC0 p x,0,0,0,0,[]⟩ 0)).toArray:=by kernel_rfl
theorem Tab40.tab {prog:Program} {w:World} {sh:Shared} (T:Tab40 prog w sh): ∃ xs,sh.heap.get? 40=Option.some (tabO xs):=by
 cases T with
 | none h=>exact ⟨_,h⟩
 | some p x e1 e2 F G=>
  have m:(40,dOf ⟨kC0 p x,0,0,0,0,[]⟩ 0)∈kC0 p x:=Eq.mpr (congrArg (fun l=>(40,dOf ⟨kC0 p x,0,0,0,0,[]⟩ 0)∈l) (kC0_eq p x)) List.mem_cons_self
  have c:=kC0_tab p x
  revert m c
  generalize dOf ⟨kC0 p x,0,0,0,0,[]⟩ 0=o
  intro m c
  exact ⟨_,c▸(F.at0 m).1⟩
theorem IsZs_of {vs:List Value} {ns:List Int} (h:PyProof.Rows.IntsAre vs ns):IsZs vs.toArray ns:=by
 induction h with
 | nil=>exact ⟨[],rfl,rfl⟩
 | cons i t r ih=>
  refine x0 ih fun ps h1 h2=>?_; clear ih
  refine ⟨(i,t)::ps,?_,by rw [List.map_cons,h2]⟩
  have h1:=congrArg Array.toList h1
  simp only at h1
  rw [h1]
  rfl
section
variable {prog:Program} {w:World}
theorem law_goal {s:Shared} {n:Nat} {vs:List Value} {zs:List Int} (T:Top w s) (hs:s.heap.objs.size=277+1) (hl:s.heap.get? 277=some (listO vs.toArray n)) (hz:PyProof.Rows.IntsAre vs zs) (len:zs.length≤63)
  (h40:s.heap.get? 40=some (tabO #[])) (h73:s.heap.get? 73=some (tabO #[])) (h273:s.heap.get? 273=some (tabO #[])) (c40:isCodeTable s.heap 40) (c73:isCodeTable s.heap 73) (c273:isCodeTable s.heap 273)
  {Q:Value→Shared→Prop} {E:Value→Shared→Prop} (h: ∀ s',OldK s.heap s'.heap→s'.os=s.os→s'.gens= #[]→Q (.bool true) s'):
  wpAny (model prog w) callerA (call (.ref 276) [.ref 277]) Q E s:=by
 have Rm:RoomE 7 3 callerA:=⟨by decide,by decide,rfl⟩
 refine wpAny_call (codeAny_mono (law_spec (prog:=prog) Rm T hl (Nat.le_refl _) (IsZs_of hz) len (.none h73) (.none h40) h273) fun r s' hq=>?_)
 refine x4 hq fun hr1 hg F=>?_; clear hq; subst hr1
 refine h s' ?_ F.osE hg
 have old: ∀ b o,s.heap.get? b=some o→asItWas s.heap s'.heap b o:=fun b o e=>by
  have tab: ∀ P,s.heap.get? P=some (tabO #[])→isCodeTable s.heap P→(∃ xs,s'.heap.get? P=some (tabO xs))→b=P→asItWas s.heap s'.heap b o:=by
   rintro P h0 c ⟨xs,hx⟩ rfl
   rw [h0] at e
   rw [←Option.some.inj e]
   refine .inr (.inl ⟨c,rfl,#[],xs,rfl,?_⟩)
   rw [hx,Array.empty_append]
   rfl
  by_cases e1:b=40
  ·exact tab 40 h40 c40 F.t40.tab e1
  by_cases e2:b=73
  ·exact tab 73 h73 c73 F.tab.obj e2
  by_cases e3:b=273
  ·exact tab 273 h273 c273 F.t273 e3
  left
  have hb:=Heap.lt_size e
  rw [hs] at hb
  by_cases e4:b=277
  ·rw [e4] at e ⊢
   rw [hl] at e
   rw [←e]
   exact F.slo
  ·exact F.keep b o e (Nat.lt_of_le_of_ne (Nat.le_of_lt_succ hb) e4) e1 e2 e3
 refine ⟨old,fun b o e=>?_⟩
 rcases old b o e with x | ⟨_,_,vs,more,_,x⟩ | ⟨_,_,⟨o',es,n,x,_⟩,_⟩
 ·exact ⟨_,x⟩
 ·exact ⟨_,x⟩
 ·exact ⟨_,x⟩
end
end Mine
namespace Mine
open PySem PySem.W PySem.W.X PyProof.Rows
noncomputable def LawXP (mg:Str→Option Value) (_:Heap):Prop:=mg lawN=some (.ref 276)
theorem xt_law (s:Shared) (h:Xt s=true):LawXP (s.heap.nsMap mainGlobals) s.heap:=by
 unfold Xt at h
 unfold LawXP
 split at h
 ·next v hv=>
  rw [hv]
  split at h
  ·rw [Nat.eq_of_beq_eq_true h]
  ·cases h
 ·cases h
theorem said:PySem.Challenge.rw_ik0055_01.wellSaid=true:=by
 rw [PySem.W.Fast.te9446332074065402090]
 kernel_rfl
noncomputable def lawD:DefRec:=((defOf qv lawN).getD (⟨q [],⟨[],[],none,[],[],none,[]⟩,[],⟨.function,[],false,false,[]⟩,⟨0,0,0,0⟩⟩,[])).1
theorem law_def:defOf qv PySem.Challenge.rw_ik0055_01.row.name=some (lawD,[]):=by kernel_rfl
theorem law_the:PySem.Challenge.rw_ik0055_01.row.prog.theDef PySem.Challenge.rw_ik0055_01.row.name=some (lawD.params,lawD.body,lawD.scope):=by kernel_rfl
theorem law_kw:kwWritten? lawD.params.kwonlyargs lawD.params.kw_defaults=some []:=by kernel_rfl
theorem law_name:lawD.name=lawN:=by kernel_rfl
theorem top_at {w:World} {sh:Shared} (H:KT.Holds sh.heap 1 0 (kt w.params)) (hg:sh.gens= #[]) (hs:sh.heap.objs.size=277+1) (ht:849≤sh.toks):Top w sh:=
 ⟨hg,fun a o e=>by
  have:=H.get e
  rwa [Nat.one_mul,Nat.add_zero] at this,by lia,ht⟩
theorem kt_of {w:World} {s:Shared} (T:Top w s) {a:Nat} {o:Obj} (e:(kt w.params).get a=some o):s.heap.get? a=some o:=T.kt _ _ e
theorem code_at {w:World} {s:Shared} (T:Top w s) {c P:Nat} (o:Obj) (e:(kt w.params).get c=some o) (hc:o.cls= .type "code") (hd:o.data= .fields (fldL o).toArray) (hv:(fldL o).toArray[11]? =some (.ref P)):isCodeTable s.heap P:=
 ⟨c,o,_,kt_of T e,hc,hd,hv⟩
theorem law_end {prog:Program} {w:World} {s:Shared} {n:Nat} {vs:List Value} {zs:List Int} (T:Top w s) (hs:s.heap.objs.size=277+1) (hl:s.heap.get? 277=some (listO vs.toArray n)) (hz:PyProof.Rows.IntsAre vs zs) (len:zs.length≤63)
  (h40:s.heap.get? 40=some (tabO #[])) (h73:s.heap.get? 73=some (tabO #[])) (h273:s.heap.get? 273=some (tabO #[]))
  {Q:Value→Shared→Prop} {E:Value→Shared→Prop} (h: ∀ s',OldK s.heap s'.heap→s'.os=s.os→s'.gens= #[]→Q (.bool true) s'):
  wpAny (model prog w) callerA (call (.ref 276) [.ref 277]) Q E s:=
 law_goal T hs hl hz len h40 h73 h273 (code_at T (c:=44) (o44 w.params) (by kernel_rfl) (by kernel_rfl) (by kernel_rfl) (by kernel_rfl)) (code_at T (c:=77) (o77 w.params) (by kernel_rfl) (by kernel_rfl) (by kernel_rfl) (by kernel_rfl)) (code_at T (c:=275) (o275 w.params) (by kernel_rfl) (by kernel_rfl) (by kernel_rfl) (by kernel_rfl)) h
end Mine
open PySem PySem.W PyProof.Rows PySem.W.X PySem.W.ZRun
set_option maxHeartbeats 0 in
theorem PySem.Challenge.cw_ik0055_01_holds : PySem.Challenge.rw_ik0055_01.Holds := by
  refine holds_law Mine.said fun said => ?_
  refine holds_openX (q := Mine.qv) (loose := Mine.qlo) (Xt := Mine.Xt) (XP := Mine.LawXP) (Yf := obsZ Mine.asL) (Ya := valZ Mine.KF 277 849) (N := 6000) (d := Mine.lawD) Mine.left Mine.xt_law (fun zz zz zz h zz => h) Mine.law_def Mine.law_the Mine.law_kw (fun s zz => recFacts_nil rfl) (by rfl) said (by decide +kernel) ⟨rfl, rfl, rfl, rfl, rfl, by decide +kernel⟩ (by w_witness2) ?_
  intro w s₀ s₁ mg mb G y fa o pm cd doc dV kV ho hd hcd hD hmg hg args vals as L hpre hlay hrd hwl hlo
  obtain ⟨za, _, ZN, ZT⟩ := z_facts Mine.asL_ok y
  rw [Mine.law_name] at hmg
  have hx : mg Mine.lawN = some (.ref 276) := G.X
  rw [hx] at hmg
  obtain rfl := Value.ref.inj (Option.some.inj hmg)
  clear hmg hx hD hcd hd ho G y
  have zt := Mine.zt_of za
  clear za
  wrow_args hpre hlay hrd hwl hlo
  obtain ⟨hat, hsz⟩ := script_at L
  have htk := script_toks L ZT
  rw [ZN] at hat hsz
  subst hat
  rename Heap.IsList _ _ _ => hIL
  rename PyProof.Rows.IntsAre _ _ => hInts
  rename ¬ _ => hLen
  have hol := script_obj L hIL
  have keeps := L.keeps
  have T : Mine.Top w s₁ := Mine.top_at (KT.Holds.keeps keeps zt.2.2.2) hg hsz htk
  exact Mine.law_end T hsz hol hInts (by omega) (keeps _ _ zt.1) (keeps _ _ zt.2.1) (keeps _ _ zt.2.2.1) fun s' hk ho hg' =>
    ⟨.inl ⟨_, .bool true, [], rfl, fun zz => rfl, ReadsW.bool true, by first | rfl | wrow_post, fun zz => ⟨List.nodup_nil, fun zz hm => (nomatch hm)⟩⟩, hk, ho, .of_eq hg'⟩
