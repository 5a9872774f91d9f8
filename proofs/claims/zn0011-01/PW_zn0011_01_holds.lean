import PyProof.Rows.All
import PyProof.ExcFactsAll.ValueError
import PyProof.StrLawsIn
import PyProof.GenRules
import PyProof.GenQ
import PyProof.Rows.Catch
import KE.KEqSeq
import KE.KEqDict
import KE.KSortTup
import OpenK.ZHead
import Wide.FinOn
import OpenK.AllK
import Wide.All
import Lean
import PySem.Challenge.RW_zn0011_01
open PySem PySem.W PySem.Calls PyProof.Rows
set_option Elab.async false
set_option maxRecDepth 100000
set_option linter.unusedVariables false
set_option autoImplicit false
set_option genInjectivity false
set_option genSizeOf false
set_option maxHeartbeats 1000000
set_option synthInstance.maxSize 4000
set_option synthInstance.maxHeartbeats 400000
set_option linter.unusedSectionVars false
namespace Mine
set_option compiler.extract_closed false
set_option hygiene false
@[irreducible] noncomputable def w1 {a:Type} (ne:Nonempty (a)) (P:a→Prop):a:=@Classical.epsilon _ ne fun z=>¬ P z
theorem dr1 {a:Type} [ne:Nonempty (a)] {P:a→Prop} (h:P (w1 ne P)):∀ x0,P x0:=by unfold w1 at h;exact fun x0=>Classical.byContradiction fun n=>@Classical.epsilon_spec _ (fun z=>¬ P z) ⟨x0,n⟩ h
@[irreducible] noncomputable def w2 {a b:Type} (ne:Nonempty (a×b)) (P:a→b→Prop):a×b:=@Classical.epsilon _ ne fun z=>¬ P z.1 z.2
theorem dr2 {a b:Type} [ne:Nonempty (a×b)] {P:a→b→Prop} (h:P (w2 ne P).1 (w2 ne P).2):∀ x0 x1,P x0 x1:=by unfold w2 at h;exact fun x0 x1=>Classical.byContradiction fun n=>@Classical.epsilon_spec _ (fun z=>¬ P z.1 z.2) ⟨(x0,x1),n⟩ h
@[irreducible] noncomputable def w3 {a b c:Type} (ne:Nonempty (a×b×c)) (P:a→b→c→Prop):a×b×c:=@Classical.epsilon _ ne fun z=>¬ P z.1 z.2.1 z.2.2
theorem dr3 {a b c:Type} [ne:Nonempty (a×b×c)] {P:a→b→c→Prop} (h:P (w3 ne P).1 (w3 ne P).2.1 (w3 ne P).2.2):∀ x0 x1 x2,P x0 x1 x2:=by unfold w3 at h;exact fun x0 x1 x2=>Classical.byContradiction fun n=>@Classical.epsilon_spec _ (fun z=>¬ P z.1 z.2.1 z.2.2) ⟨(x0,x1,x2),n⟩ h
@[irreducible] noncomputable def w4 {a b c d:Type} (ne:Nonempty (a×b×c×d)) (P:a→b→c→d→Prop):a×b×c×d:=@Classical.epsilon _ ne fun z=>¬ P z.1 z.2.1 z.2.2.1 z.2.2.2
theorem dr4 {a b c d:Type} [ne:Nonempty (a×b×c×d)] {P:a→b→c→d→Prop} (h:P (w4 ne P).1 (w4 ne P).2.1 (w4 ne P).2.2.1 (w4 ne P).2.2.2):∀ x0 x1 x2 x3,P x0 x1 x2 x3:=by unfold w4 at h;exact fun x0 x1 x2 x3=>Classical.byContradiction fun n=>@Classical.epsilon_spec _ (fun z=>¬ P z.1 z.2.1 z.2.2.1 z.2.2.2) ⟨(x0,x1,x2,x3),n⟩ h
@[irreducible] noncomputable def w5 {a b c d e:Type} (ne:Nonempty (a×b×c×d×e)) (P:a→b→c→d→e→Prop):a×b×c×d×e:=@Classical.epsilon _ ne fun z=>¬ P z.1 z.2.1 z.2.2.1 z.2.2.2.1 z.2.2.2.2
theorem dr5 {a b c d e:Type} [ne:Nonempty (a×b×c×d×e)] {P:a→b→c→d→e→Prop} (h:P (w5 ne P).1 (w5 ne P).2.1 (w5 ne P).2.2.1 (w5 ne P).2.2.2.1 (w5 ne P).2.2.2.2):∀ x0 x1 x2 x3 x4,P x0 x1 x2 x3 x4:=by unfold w5 at h;exact fun x0 x1 x2 x3 x4=>Classical.byContradiction fun n=>@Classical.epsilon_spec _ (fun z=>¬ P z.1 z.2.1 z.2.2.1 z.2.2.2.1 z.2.2.2.2) ⟨(x0,x1,x2,x3,x4),n⟩ h
@[irreducible] noncomputable def w6 {a b c d e f:Type} (ne:Nonempty (a×b×c×d×e×f)) (P:a→b→c→d→e→f→Prop):a×b×c×d×e×f:=@Classical.epsilon _ ne fun z=>¬ P z.1 z.2.1 z.2.2.1 z.2.2.2.1 z.2.2.2.2.1 z.2.2.2.2.2
theorem dr6 {a b c d e f:Type} [ne:Nonempty (a×b×c×d×e×f)] {P:a→b→c→d→e→f→Prop} (h:P (w6 ne P).1 (w6 ne P).2.1 (w6 ne P).2.2.1 (w6 ne P).2.2.2.1 (w6 ne P).2.2.2.2.1 (w6 ne P).2.2.2.2.2):∀ x0 x1 x2 x3 x4 x5,P x0 x1 x2 x3 x4 x5:=by unfold w6 at h;exact fun x0 x1 x2 x3 x4 x5=>Classical.byContradiction fun n=>@Classical.epsilon_spec _ (fun z=>¬ P z.1 z.2.1 z.2.2.1 z.2.2.2.1 z.2.2.2.2.1 z.2.2.2.2.2) ⟨(x0,x1,x2,x3,x4,x5),n⟩ h
@[irreducible] noncomputable def w7 {a b c d e f g:Type} (ne:Nonempty (a×b×c×d×e×f×g)) (P:a→b→c→d→e→f→g→Prop):a×b×c×d×e×f×g:=@Classical.epsilon _ ne fun z=>¬ P z.1 z.2.1 z.2.2.1 z.2.2.2.1 z.2.2.2.2.1 z.2.2.2.2.2.1 z.2.2.2.2.2.2
theorem dr7 {a b c d e f g:Type} [ne:Nonempty (a×b×c×d×e×f×g)] {P:a→b→c→d→e→f→g→Prop} (h:P (w7 ne P).1 (w7 ne P).2.1 (w7 ne P).2.2.1 (w7 ne P).2.2.2.1 (w7 ne P).2.2.2.2.1 (w7 ne P).2.2.2.2.2.1 (w7 ne P).2.2.2.2.2.2):∀ x0 x1 x2 x3 x4 x5 x6,P x0 x1 x2 x3 x4 x5 x6:=by unfold w7 at h;exact fun x0 x1 x2 x3 x4 x5 x6=>Classical.byContradiction fun n=>@Classical.epsilon_spec _ (fun z=>¬ P z.1 z.2.1 z.2.2.1 z.2.2.2.1 z.2.2.2.2.1 z.2.2.2.2.2.1 z.2.2.2.2.2.2) ⟨(x0,x1,x2,x3,x4,x5,x6),n⟩ h
@[irreducible] noncomputable def w8 {a b c d e f g h:Type} (ne:Nonempty (a×b×c×d×e×f×g×h)) (P:a→b→c→d→e→f→g→h→Prop):a×b×c×d×e×f×g×h:=@Classical.epsilon _ ne fun z=>¬ P z.1 z.2.1 z.2.2.1 z.2.2.2.1 z.2.2.2.2.1 z.2.2.2.2.2.1 z.2.2.2.2.2.2.1 z.2.2.2.2.2.2.2
theorem dr8 {a b c d e f g h:Type} [ne:Nonempty (a×b×c×d×e×f×g×h)] {P:a→b→c→d→e→f→g→h→Prop} (h:P (w8 ne P).1 (w8 ne P).2.1 (w8 ne P).2.2.1 (w8 ne P).2.2.2.1 (w8 ne P).2.2.2.2.1 (w8 ne P).2.2.2.2.2.1 (w8 ne P).2.2.2.2.2.2.1 (w8 ne P).2.2.2.2.2.2.2):∀ x0 x1 x2 x3 x4 x5 x6 x7,P x0 x1 x2 x3 x4 x5 x6 x7:=by unfold w8 at h;exact fun x0 x1 x2 x3 x4 x5 x6 x7=>Classical.byContradiction fun n=>@Classical.epsilon_spec _ (fun z=>¬ P z.1 z.2.1 z.2.2.1 z.2.2.2.1 z.2.2.2.2.1 z.2.2.2.2.2.1 z.2.2.2.2.2.2.1 z.2.2.2.2.2.2.2) ⟨(x0,x1,x2,x3,x4,x5,x6,x7),n⟩ h
@[irreducible] noncomputable def w9 {a b c d e f g h i:Type} (ne:Nonempty (a×b×c×d×e×f×g×h×i)) (P:a→b→c→d→e→f→g→h→i→Prop):a×b×c×d×e×f×g×h×i:=@Classical.epsilon _ ne fun z=>¬ P z.1 z.2.1 z.2.2.1 z.2.2.2.1 z.2.2.2.2.1 z.2.2.2.2.2.1 z.2.2.2.2.2.2.1 z.2.2.2.2.2.2.2.1 z.2.2.2.2.2.2.2.2
theorem dr9 {a b c d e f g h i:Type} [ne:Nonempty (a×b×c×d×e×f×g×h×i)] {P:a→b→c→d→e→f→g→h→i→Prop} (h:P (w9 ne P).1 (w9 ne P).2.1 (w9 ne P).2.2.1 (w9 ne P).2.2.2.1 (w9 ne P).2.2.2.2.1 (w9 ne P).2.2.2.2.2.1 (w9 ne P).2.2.2.2.2.2.1 (w9 ne P).2.2.2.2.2.2.2.1 (w9 ne P).2.2.2.2.2.2.2.2):∀ x0 x1 x2 x3 x4 x5 x6 x7 x8,P x0 x1 x2 x3 x4 x5 x6 x7 x8:=by unfold w9 at h;exact fun x0 x1 x2 x3 x4 x5 x6 x7 x8=>Classical.byContradiction fun n=>@Classical.epsilon_spec _ (fun z=>¬ P z.1 z.2.1 z.2.2.1 z.2.2.2.1 z.2.2.2.2.1 z.2.2.2.2.2.1 z.2.2.2.2.2.2.1 z.2.2.2.2.2.2.2.1 z.2.2.2.2.2.2.2.2) ⟨(x0,x1,x2,x3,x4,x5,x6,x7,x8),n⟩ h
@[irreducible] noncomputable def w10 {a b c d e f g h i j:Type} (ne:Nonempty (a×b×c×d×e×f×g×h×i×j)) (P:a→b→c→d→e→f→g→h→i→j→Prop):a×b×c×d×e×f×g×h×i×j:=@Classical.epsilon _ ne fun z=>¬ P z.1 z.2.1 z.2.2.1 z.2.2.2.1 z.2.2.2.2.1 z.2.2.2.2.2.1 z.2.2.2.2.2.2.1 z.2.2.2.2.2.2.2.1 z.2.2.2.2.2.2.2.2.1 z.2.2.2.2.2.2.2.2.2
theorem dr10 {a b c d e f g h i j:Type} [ne:Nonempty (a×b×c×d×e×f×g×h×i×j)] {P:a→b→c→d→e→f→g→h→i→j→Prop} (h:P (w10 ne P).1 (w10 ne P).2.1 (w10 ne P).2.2.1 (w10 ne P).2.2.2.1 (w10 ne P).2.2.2.2.1 (w10 ne P).2.2.2.2.2.1 (w10 ne P).2.2.2.2.2.2.1 (w10 ne P).2.2.2.2.2.2.2.1 (w10 ne P).2.2.2.2.2.2.2.2.1 (w10 ne P).2.2.2.2.2.2.2.2.2):∀ x0 x1 x2 x3 x4 x5 x6 x7 x8 x9,P x0 x1 x2 x3 x4 x5 x6 x7 x8 x9:=by unfold w10 at h;exact fun x0 x1 x2 x3 x4 x5 x6 x7 x8 x9=>Classical.byContradiction fun n=>@Classical.epsilon_spec _ (fun z=>¬ P z.1 z.2.1 z.2.2.1 z.2.2.2.1 z.2.2.2.2.1 z.2.2.2.2.2.1 z.2.2.2.2.2.2.1 z.2.2.2.2.2.2.2.1 z.2.2.2.2.2.2.2.2.1 z.2.2.2.2.2.2.2.2.2) ⟨(x0,x1,x2,x3,x4,x5,x6,x7,x8,x9),n⟩ h
@[irreducible] noncomputable def w11 {a b c d e f g h i j k:Type} (ne:Nonempty (a×b×c×d×e×f×g×h×i×j×k)) (P:a→b→c→d→e→f→g→h→i→j→k→Prop):a×b×c×d×e×f×g×h×i×j×k:=@Classical.epsilon _ ne fun z=>¬ P z.1 z.2.1 z.2.2.1 z.2.2.2.1 z.2.2.2.2.1 z.2.2.2.2.2.1 z.2.2.2.2.2.2.1 z.2.2.2.2.2.2.2.1 z.2.2.2.2.2.2.2.2.1 z.2.2.2.2.2.2.2.2.2.1 z.2.2.2.2.2.2.2.2.2.2
theorem dr11 {a b c d e f g h i j k:Type} [ne:Nonempty (a×b×c×d×e×f×g×h×i×j×k)] {P:a→b→c→d→e→f→g→h→i→j→k→Prop} (h:P (w11 ne P).1 (w11 ne P).2.1 (w11 ne P).2.2.1 (w11 ne P).2.2.2.1 (w11 ne P).2.2.2.2.1 (w11 ne P).2.2.2.2.2.1 (w11 ne P).2.2.2.2.2.2.1 (w11 ne P).2.2.2.2.2.2.2.1 (w11 ne P).2.2.2.2.2.2.2.2.1 (w11 ne P).2.2.2.2.2.2.2.2.2.1 (w11 ne P).2.2.2.2.2.2.2.2.2.2):∀ x0 x1 x2 x3 x4 x5 x6 x7 x8 x9 x10,P x0 x1 x2 x3 x4 x5 x6 x7 x8 x9 x10:=by unfold w11 at h;exact fun x0 x1 x2 x3 x4 x5 x6 x7 x8 x9 x10=>Classical.byContradiction fun n=>@Classical.epsilon_spec _ (fun z=>¬ P z.1 z.2.1 z.2.2.1 z.2.2.2.1 z.2.2.2.2.1 z.2.2.2.2.2.1 z.2.2.2.2.2.2.1 z.2.2.2.2.2.2.2.1 z.2.2.2.2.2.2.2.2.1 z.2.2.2.2.2.2.2.2.2.1 z.2.2.2.2.2.2.2.2.2.2) ⟨(x0,x1,x2,x3,x4,x5,x6,x7,x8,x9,x10),n⟩ h
@[irreducible] noncomputable def w12 {a b c d e f g h i j k l:Type} (ne:Nonempty (a×b×c×d×e×f×g×h×i×j×k×l)) (P:a→b→c→d→e→f→g→h→i→j→k→l→Prop):a×b×c×d×e×f×g×h×i×j×k×l:=@Classical.epsilon _ ne fun z=>¬ P z.1 z.2.1 z.2.2.1 z.2.2.2.1 z.2.2.2.2.1 z.2.2.2.2.2.1 z.2.2.2.2.2.2.1 z.2.2.2.2.2.2.2.1 z.2.2.2.2.2.2.2.2.1 z.2.2.2.2.2.2.2.2.2.1 z.2.2.2.2.2.2.2.2.2.2.1 z.2.2.2.2.2.2.2.2.2.2.2
theorem dr12 {a b c d e f g h i j k l:Type} [ne:Nonempty (a×b×c×d×e×f×g×h×i×j×k×l)] {P:a→b→c→d→e→f→g→h→i→j→k→l→Prop} (h:P (w12 ne P).1 (w12 ne P).2.1 (w12 ne P).2.2.1 (w12 ne P).2.2.2.1 (w12 ne P).2.2.2.2.1 (w12 ne P).2.2.2.2.2.1 (w12 ne P).2.2.2.2.2.2.1 (w12 ne P).2.2.2.2.2.2.2.1 (w12 ne P).2.2.2.2.2.2.2.2.1 (w12 ne P).2.2.2.2.2.2.2.2.2.1 (w12 ne P).2.2.2.2.2.2.2.2.2.2.1 (w12 ne P).2.2.2.2.2.2.2.2.2.2.2):∀ x0 x1 x2 x3 x4 x5 x6 x7 x8 x9 x10 x11,P x0 x1 x2 x3 x4 x5 x6 x7 x8 x9 x10 x11:=by unfold w12 at h;exact fun x0 x1 x2 x3 x4 x5 x6 x7 x8 x9 x10 x11=>Classical.byContradiction fun n=>@Classical.epsilon_spec _ (fun z=>¬ P z.1 z.2.1 z.2.2.1 z.2.2.2.1 z.2.2.2.2.1 z.2.2.2.2.2.1 z.2.2.2.2.2.2.1 z.2.2.2.2.2.2.2.1 z.2.2.2.2.2.2.2.2.1 z.2.2.2.2.2.2.2.2.2.1 z.2.2.2.2.2.2.2.2.2.2.1 z.2.2.2.2.2.2.2.2.2.2.2) ⟨(x0,x1,x2,x3,x4,x5,x6,x7,x8,x9,x10,x11),n⟩ h
@[irreducible] noncomputable def w13 {a b c d e f g h i j k l m:Type} (ne:Nonempty (a×b×c×d×e×f×g×h×i×j×k×l×m)) (P:a→b→c→d→e→f→g→h→i→j→k→l→m→Prop):a×b×c×d×e×f×g×h×i×j×k×l×m:=@Classical.epsilon _ ne fun z=>¬ P z.1 z.2.1 z.2.2.1 z.2.2.2.1 z.2.2.2.2.1 z.2.2.2.2.2.1 z.2.2.2.2.2.2.1 z.2.2.2.2.2.2.2.1 z.2.2.2.2.2.2.2.2.1 z.2.2.2.2.2.2.2.2.2.1 z.2.2.2.2.2.2.2.2.2.2.1 z.2.2.2.2.2.2.2.2.2.2.2.1 z.2.2.2.2.2.2.2.2.2.2.2.2
theorem dr13 {a b c d e f g h i j k l m:Type} [ne:Nonempty (a×b×c×d×e×f×g×h×i×j×k×l×m)] {P:a→b→c→d→e→f→g→h→i→j→k→l→m→Prop} (h:P (w13 ne P).1 (w13 ne P).2.1 (w13 ne P).2.2.1 (w13 ne P).2.2.2.1 (w13 ne P).2.2.2.2.1 (w13 ne P).2.2.2.2.2.1 (w13 ne P).2.2.2.2.2.2.1 (w13 ne P).2.2.2.2.2.2.2.1 (w13 ne P).2.2.2.2.2.2.2.2.1 (w13 ne P).2.2.2.2.2.2.2.2.2.1 (w13 ne P).2.2.2.2.2.2.2.2.2.2.1 (w13 ne P).2.2.2.2.2.2.2.2.2.2.2.1 (w13 ne P).2.2.2.2.2.2.2.2.2.2.2.2):∀ x0 x1 x2 x3 x4 x5 x6 x7 x8 x9 x10 x11 x12,P x0 x1 x2 x3 x4 x5 x6 x7 x8 x9 x10 x11 x12:=by unfold w13 at h;exact fun x0 x1 x2 x3 x4 x5 x6 x7 x8 x9 x10 x11 x12=>Classical.byContradiction fun n=>@Classical.epsilon_spec _ (fun z=>¬ P z.1 z.2.1 z.2.2.1 z.2.2.2.1 z.2.2.2.2.1 z.2.2.2.2.2.1 z.2.2.2.2.2.2.1 z.2.2.2.2.2.2.2.1 z.2.2.2.2.2.2.2.2.1 z.2.2.2.2.2.2.2.2.2.1 z.2.2.2.2.2.2.2.2.2.2.1 z.2.2.2.2.2.2.2.2.2.2.2.1 z.2.2.2.2.2.2.2.2.2.2.2.2) ⟨(x0,x1,x2,x3,x4,x5,x6,x7,x8,x9,x10,x11,x12),n⟩ h
@[irreducible] noncomputable def w14 {a b c d e f g h i j k l m n:Type} (ne:Nonempty (a×b×c×d×e×f×g×h×i×j×k×l×m×n)) (P:a→b→c→d→e→f→g→h→i→j→k→l→m→n→Prop):a×b×c×d×e×f×g×h×i×j×k×l×m×n:=@Classical.epsilon _ ne fun z=>¬ P z.1 z.2.1 z.2.2.1 z.2.2.2.1 z.2.2.2.2.1 z.2.2.2.2.2.1 z.2.2.2.2.2.2.1 z.2.2.2.2.2.2.2.1 z.2.2.2.2.2.2.2.2.1 z.2.2.2.2.2.2.2.2.2.1 z.2.2.2.2.2.2.2.2.2.2.1 z.2.2.2.2.2.2.2.2.2.2.2.1 z.2.2.2.2.2.2.2.2.2.2.2.2.1 z.2.2.2.2.2.2.2.2.2.2.2.2.2
theorem dr14 {a b c d e f g h i j k l m n:Type} [ne:Nonempty (a×b×c×d×e×f×g×h×i×j×k×l×m×n)] {P:a→b→c→d→e→f→g→h→i→j→k→l→m→n→Prop} (h:P (w14 ne P).1 (w14 ne P).2.1 (w14 ne P).2.2.1 (w14 ne P).2.2.2.1 (w14 ne P).2.2.2.2.1 (w14 ne P).2.2.2.2.2.1 (w14 ne P).2.2.2.2.2.2.1 (w14 ne P).2.2.2.2.2.2.2.1 (w14 ne P).2.2.2.2.2.2.2.2.1 (w14 ne P).2.2.2.2.2.2.2.2.2.1 (w14 ne P).2.2.2.2.2.2.2.2.2.2.1 (w14 ne P).2.2.2.2.2.2.2.2.2.2.2.1 (w14 ne P).2.2.2.2.2.2.2.2.2.2.2.2.1 (w14 ne P).2.2.2.2.2.2.2.2.2.2.2.2.2):∀ x0 x1 x2 x3 x4 x5 x6 x7 x8 x9 x10 x11 x12 x13,P x0 x1 x2 x3 x4 x5 x6 x7 x8 x9 x10 x11 x12 x13:=by unfold w14 at h;exact fun x0 x1 x2 x3 x4 x5 x6 x7 x8 x9 x10 x11 x12 x13=>Classical.byContradiction fun n=>@Classical.epsilon_spec _ (fun z=>¬ P z.1 z.2.1 z.2.2.1 z.2.2.2.1 z.2.2.2.2.1 z.2.2.2.2.2.1 z.2.2.2.2.2.2.1 z.2.2.2.2.2.2.2.1 z.2.2.2.2.2.2.2.2.1 z.2.2.2.2.2.2.2.2.2.1 z.2.2.2.2.2.2.2.2.2.2.1 z.2.2.2.2.2.2.2.2.2.2.2.1 z.2.2.2.2.2.2.2.2.2.2.2.2.1 z.2.2.2.2.2.2.2.2.2.2.2.2.2) ⟨(x0,x1,x2,x3,x4,x5,x6,x7,x8,x9,x10,x11,x12,x13),n⟩ h
instance:Nonempty World:=⟨aWorld 1⟩
instance:Nonempty Around:=⟨{}⟩
instance:Nonempty Model:=⟨model PySem.Challenge.pw_zn0011_01 (aWorld 1)⟩
instance:Nonempty SortSt:=⟨SortSt.mk' (sortPriv% PySem.Builtin.KeyKind.general) #[] #[] 0 none⟩
instance:Nonempty OpenRow:=⟨PySem.Challenge.rw_zn0011_01.row⟩
instance:Nonempty DefRec:=⟨⟨"",default,[],default,default⟩⟩
instance:Nonempty GenState:=⟨.finished⟩
instance:Nonempty Shared:=⟨{}⟩
instance:Nonempty SortKind:=⟨sortPriv% PySem.Builtin.KeyKind.general⟩
instance:Nonempty Heap:=⟨({}:Shared).heap⟩
instance:Nonempty Drawn:=⟨({}:Shared).drawn⟩
instance:Nonempty OsState:=⟨({}:Shared).os⟩
local macro_rules
 | `(tactic| exists $p,$x:ident,$xs,*)=>`(tactic| (generalize ($p).1=$x;exists ($p).2,$xs,*))
local macro_rules
 | `(tactic| exists $p,$x:ident)=>`(tactic| generalize $p=$x)
theorem cT (h:True:=by rfl):True:=h
theorem e8 (h:True:=by intro Z;rfl):True:=h
theorem fb (h:True:=by decide):True:=h
theorem mE (h:True:=by decide +kernel):True:=h
theorem r5 (h:True:=by intro Z Z;with_unfolding_all rfl):True:=h
theorem tn (h:True:=by with_unfolding_all rfl):True:=h
theorem tu (h:True:=by intro Z Z;rfl):True:=h
theorem uw (h:True:=by intro Z Z Z;with_unfolding_all rfl):True:=h
theorem bc {p:Prop} (h:(p→False)→False):p:=Classical.byContradiction h
theorem ai {a b:Prop} {G:Prop} (e:a∧b) (k:a→b→G):G:=k e.1 e.2
theorem br {a b c:Prop} {G:Prop} (e:a∧b∧c) (k:a→b→c→G):G:=k e.1 e.2.1 e.2.2
theorem dS {a b c d:Prop} {G:Prop} (e:a∧b∧c∧d) (k:a→b→c→d→G):G:=k e.1 e.2.1 e.2.2.1 e.2.2.2
theorem mI {a b c d f:Prop} {G:Prop} (e:a∧b∧c∧d∧f) (k:a→b→c→d→f→G):G:=k e.1 e.2.1 e.2.2.1 e.2.2.2.1 e.2.2.2.2
theorem oW {a b c d f g:Prop} {G:Prop} (e:a∧b∧c∧d∧f∧g) (k:a→b→c→d→f→g→G):G:=k e.1 e.2.1 e.2.2.1 e.2.2.2.1 e.2.2.2.2.1 e.2.2.2.2.2
theorem ex11.{l} {α:Sort l} {a:α→Prop} {G:Prop} (e:∃ x,a x) (k:∀ x,a x→G):G:=e.elim fun x e=>k x e
theorem ex12.{l} {α:Sort l} {a b:α→Prop} {G:Prop} (e:∃ x,a x∧b x) (k:∀ x,a x→b x→G):G:=e.elim fun x e=>k x e.1 e.2
theorem ex13.{l} {α:Sort l} {a b c:α→Prop} {G:Prop} (e:∃ x,a x∧b x∧c x) (k:∀ x,a x→b x→c x→G):G:=e.elim fun x e=>k x e.1 e.2.1 e.2.2
theorem ex14.{l} {α:Sort l} {a b c d:α→Prop} {G:Prop} (e:∃ x,a x∧b x∧c x∧d x) (k:∀ x,a x→b x→c x→d x→G):G:=e.elim fun x e=>k x e.1 e.2.1 e.2.2.1 e.2.2.2
theorem ex15.{l} {α:Sort l} {a b c d f:α→Prop} {G:Prop} (e:∃ x,a x∧b x∧c x∧d x∧f x) (k:∀ x,a x→b x→c x→d x→f x→G):G:=e.elim fun x e=>k x e.1 e.2.1 e.2.2.1 e.2.2.2.1 e.2.2.2.2
theorem ex21.{l,m} {α:Sort l} {β:α→Sort m} {a:∀ x,β x→Prop} {G:Prop} (e:∃ x y,a x y) (k:∀ x y,a x y→G):G:=e.elim fun x e=>e.elim fun y e=>k x y e
theorem ex22.{l,m} {α:Sort l} {β:Sort m} {a b:α→β→Prop} {G:Prop} (e:∃ x,∃ y,a x y∧b x y) (k:∀ x y,a x y→b x y→G):G:=e.elim fun x e=>e.elim fun y e=>k x y e.1 e.2
theorem ex23.{l,m} {α:Sort l} {β:Sort m} {a b c:α→β→Prop} {G:Prop} (e:∃ x,∃ y,a x y∧b x y∧c x y) (k:∀ x y,a x y→b x y→c x y→G):G:=e.elim fun x e=>e.elim fun y e=>k x y e.1 e.2.1 e.2.2
theorem ex24.{l,m} {α:Sort l} {β:Sort m} {a b c d:α→β→Prop} {G:Prop} (e:∃ x,∃ y,a x y∧b x y∧c x y∧d x y) (k:∀ x y,a x y→b x y→c x y→d x y→G):G:=e.elim fun x e=>e.elim fun y e=>k x y e.1 e.2.1 e.2.2.1 e.2.2.2
theorem ex25.{l,m} {α:Sort l} {β:Sort m} {a b c d f:α→β→Prop} {G:Prop} (e:∃ x,∃ y,a x y∧b x y∧c x y∧d x y∧f x y) (k:∀ x y,a x y→b x y→c x y→d x y→f x y→G):G:=e.elim fun x e=>e.elim fun y e=>k x y e.1 e.2.1 e.2.2.1 e.2.2.2.1 e.2.2.2.2
theorem ex31.{l,m,n} {α:Sort l} {β:Sort m} {γ:Sort n} {a:α→β→γ→Prop} {G:Prop} (e:∃ x,∃ y,∃ z,a x y z) (k:∀ x y z,a x y z→G):G:=e.elim fun x e=>e.elim fun y e=>e.elim fun z e=>k x y z e
theorem ex32.{l,m,n} {α:Sort l} {β:Sort m} {γ:Sort n} {a b:α→β→γ→Prop} {G:Prop} (e:∃ x,∃ y,∃ z,a x y z∧b x y z) (k:∀ x y z,a x y z→b x y z→G):G:=e.elim fun x e=>e.elim fun y e=>e.elim fun z e=>k x y z e.1 e.2
theorem ex33.{l,m,n} {α:Sort l} {β:Sort m} {γ:Sort n} {a b c:α→β→γ→Prop} {G:Prop} (e:∃ x,∃ y,∃ z,a x y z∧b x y z∧c x y z) (k:∀ x y z,a x y z→b x y z→c x y z→G):G:=e.elim fun x e=>e.elim fun y e=>e.elim fun z e=>k x y z e.1 e.2.1 e.2.2
theorem ex34.{l,m,n} {α:Sort l} {β:Sort m} {γ:Sort n} {a b c d:α→β→γ→Prop} {G:Prop} (e:∃ x,∃ y,∃ z,a x y z∧b x y z∧c x y z∧d x y z) (k:∀ x y z,a x y z→b x y z→c x y z→d x y z→G):G:=e.elim fun x e=>e.elim fun y e=>e.elim fun z e=>k x y z e.1 e.2.1 e.2.2.1 e.2.2.2
theorem ex36.{l,m,n} {α:Sort l} {β:Sort m} {γ:Sort n} {a b c d f g:α→β→γ→Prop} {G:Prop} (e:∃ x,∃ y,∃ z,a x y z∧b x y z∧c x y z∧d x y z∧f x y z∧g x y z) (k:∀ x y z,a x y z→b x y z→c x y z→d x y z→f x y z→g x y z→G):G:=e.elim fun x e=>e.elim fun y e=>e.elim fun z e=>k x y z e.1 e.2.1 e.2.2.1 e.2.2.2.1 e.2.2.2.2.1 e.2.2.2.2.2
theorem ex42.{l,m,n,o} {α:Sort l} {β:Sort m} {γ:Sort n} {δ:Sort o} {a b:α→β→γ→δ→Prop} {G:Prop} (e:∃ x,∃ y,∃ z,∃ u,a x y z u∧b x y z u) (k:∀ x y z u,a x y z u→b x y z u→G):G:=e.elim fun x e=>e.elim fun y e=>e.elim fun z e=>e.elim fun u e=>k x y z u e.1 e.2
theorem ex43.{l,m,n,o} {α:Sort l} {β:Sort m} {γ:Sort n} {δ:Sort o} {a b c:α→β→γ→δ→Prop} {G:Prop} (e:∃ x,∃ y,∃ z,∃ u,a x y z u∧b x y z u∧c x y z u) (k:∀ x y z u,a x y z u→b x y z u→c x y z u→G):G:=e.elim fun x e=>e.elim fun y e=>e.elim fun z e=>e.elim fun u e=>k x y z u e.1 e.2.1 e.2.2
theorem ex44.{l,m,n,o} {α:Sort l} {β:Sort m} {γ:Sort n} {δ:Sort o} {a b c d:α→β→γ→δ→Prop} {G:Prop} (e:∃ x,∃ y,∃ z,∃ u,a x y z u∧b x y z u∧c x y z u∧d x y z u) (k:∀ x y z u,a x y z u→b x y z u→c x y z u→d x y z u→G):G:=e.elim fun x e=>e.elim fun y e=>e.elim fun z e=>e.elim fun u e=>k x y z u e.1 e.2.1 e.2.2.1 e.2.2.2
theorem ex45.{l,m,n,o} {α:Sort l} {β:Sort m} {γ:Sort n} {δ:Sort o} {a b c d f:α→β→γ→δ→Prop} {G:Prop} (e:∃ x,∃ y,∃ z,∃ u,a x y z u∧b x y z u∧c x y z u∧d x y z u∧f x y z u) (k:∀ x y z u,a x y z u→b x y z u→c x y z u→d x y z u→f x y z u→G):G:=e.elim fun x e=>e.elim fun y e=>e.elim fun z e=>e.elim fun u e=>k x y z u e.1 e.2.1 e.2.2.1 e.2.2.2.1 e.2.2.2.2
theorem mL {α:Type} {a:α} {s t:List α} (h:a∈s):a∈s++t:=List.mem_append.mpr (.inl h)
theorem mR {α:Type} {a:α} {s t:List α} (h:a∈t):a∈s++t:=List.mem_append.mpr (.inr h)
theorem mC {α:Type} {a b:α} {s:List α} {G:Prop} (h:a∈b::s) (l:a=b→G) (r:a∈s→G):G:=(List.mem_cons.mp h).elim l r
theorem mA {α:Type} {a:α} {s t:List α} {G:Prop} (h:a∈s++t) (l:a∈s→G) (r:a∈t→G):G:=(List.mem_append.mp h).elim l r
theorem bQ {a b G:Prop} (h:a∨b) (x:a→G) (y:b→G):G:=h.elim x y
theorem ly {a b c G:Prop} (h:a∨b∨c) (x:a→G) (y:b→G) (z:c→G):G:=h.elim x (bQ · y z)
theorem oQ {a b c d G:Prop} (h:a∨b∨c∨d) (x:a→G) (y:b→G) (z:c→G) (u:d→G):G:=h.elim x (ly · y z u)
theorem tv {a b c d e G:Prop} (h:a∨b∨c∨d∨e) (x:a→G) (y:b→G) (z:c→G) (u:d→G) (v:e→G):G:=h.elim x (oQ · y z u v)
theorem tw {a b c d e f G:Prop} (h:a∨b∨c∨d∨e∨f) (x:a→G) (y:b→G) (z:c→G) (u:d→G) (v:e→G) (w:f→G):G:=h.elim x (tv · y z u v w)
theorem nO {α:Type} {a:α} {G:Prop} (e:none=some a):G:=nomatch e
theorem nB {G:Prop} (e:false=true):G:=nomatch e
theorem nN {a b:Nat} {G:Prop} (e:a=b) (h:Nat.beq a b=false):G:=absurd e (Nat.ne_of_beq_eq_false h)
theorem sE {α:Type} {a b:α} {G:Prop} (e:some a=some b) (k:a=b→G):G:=k (Option.some.inj e)
theorem nM {α:Type} {a:α} {G:Prop} (e:a∈[]):G:=(List.not_mem_nil e).elim
theorem mS {α:Type} {a b:α} (e:a∈[b]):a=b:=List.mem_singleton.mp e
theorem iS {α:Type} {o:Option α} {G:Prop} (e:o.isSome=true) (k:∀ a,o=some a→G):G:=ex11 (Option.isSome_iff_exists.mp e) k
theorem mM {α β:Type} {f:α→β} {b:β} {l:List α} {G:Prop} (e:b∈l.map f) (k:∀ a,a∈l→f a=b→G):G:=ex12 (List.mem_map.mp e) k
theorem mO {α β:Type} {f:α→β} {b:β} {o:Option α} {G:Prop} (e:o.map f=some b) (k:∀ a,o=some a→f a=b→G):G:=ex12 (Option.map_eq_some_iff.mp e) k
theorem r7 {c:Prop} [Decidable c] {x y:Prop} (n:c) (h:x):ite c x y:=by rw [if_pos n];exact h
theorem mF {c:Prop} [Decidable c] {x y:Prop} (n:¬ c) (h:y):ite c x y:=by rw [if_neg n];exact h
theorem wT {α:Type} {M:Model} {A:Around} {E:Value→Shared→Prop} {Q:α→Shared→Prop} {s:Shared} {c:Prop} [Decidable c] {x y:Sem α} (n:c) (h:wpAny M A x Q E s):wpAny M A (ite c x y) Q E s:=by rw [if_pos n];exact h
theorem wF {α:Type} {M:Model} {A:Around} {E:Value→Shared→Prop} {Q:α→Shared→Prop} {s:Shared} {c:Prop} [Decidable c] {x y:Sem α} (n:¬ c) (h:wpAny M A y Q E s):wpAny M A (ite c x y) Q E s:=by rw [if_neg n];exact h
inductive D where
 | none
 | bool (b:Bool)
 | int (i:Int)
 | str (x:Str)
 | tup (ds:List D)
 | lst (ds:List D)
 | dci (kvs:List (Int×D))
 | dcs (kvs:List (Str×D))
 | byt (b:Array UInt8)
 | rng (n:Nat)
 | val (u:Value)
instance:Nonempty D:=⟨.none⟩
noncomputable abbrev WP (prog:Program) (w:World) {α:Type} (A:Around) (t:Sem α) (Q:α→Shared→Prop) (s:Shared):Prop :=
 wpAny (model prog w) A t Q (fun Z Z=>False) s
noncomputable abbrev ii (vs:List Value) (n:Nat):Obj:={ cls:=.type "tuple",data:=.seq vs.toArray n }
noncomputable abbrev bo (vs:List Value) (n:Nat):Obj:={ cls:=.type "list",data:=.seq vs.toArray n }
section rd
variable (prog:Program) (w:World) (h:Heap) (X:List Addr)
mutual
noncomputable def Rd:D→Value→Prop
 | .none,v=>v=.none
 | .bool b,v=>v=.bool b
 | .int i,v=>∃ t,v=.int i t
 | .str x,v=>∃ t,v=.str x t
 | .tup ds,v=>∃ a vs n,v=.ref a∧a∉X∧h.get? a=some (ii vs n)∧RdL ds vs
 | .lst ds,v=>∃ a vs n,v=.ref a∧a∉X∧h.get? a=some (bo vs n)∧RdL ds vs
 | .byt b,v=>∃ t,v=.bytes b t
 | .val u,v=>v=u
 | .rng n,v=>∃ a t u t',v=.ref a∧a∉X∧IsRange h a 0 n 1 t u t'
 | .dci kvs,v=>∃ a ps,v=.ref a∧a∉X∧(h.DictOf (intKind prog w) a ps∧(a == sysModules)=false)∧RdI kvs ps
 | .dcs kvs,v=>∃ a ps,v=.ref a∧a∉X∧(h.DictOf (strKind prog w) a ps∧(a == sysModules)=false)∧RdS kvs ps
noncomputable def RdL:List D→List Value→Prop
 | [],vs=>vs=[]
 | d::ds,vs=>∃ v r,vs=v::r∧Rd d v∧RdL ds r
noncomputable def RdI:List (Int×D)→List (Int×Value)→Prop
 | [],ps=>ps=[]
 | (k,d)::ds,ps=>∃ v r,ps=(k,v)::r∧Rd d v∧RdI ds r
noncomputable def RdS:List (Str×D)→List (Str×Value)→Prop
 | [],ps=>ps=[]
 | (k,d)::ds,ps=>∃ v r,ps=(k,v)::r∧Rd d v∧RdS ds r
end
end rd
section mono
variable {prog:Program} {w:World} {h h':Heap} {X X':List Addr}
theorem bt {K:Type} [DecidableEq K] {knd:KeyKind prog w K} {a:Addr} {ps:List (K×Value)} (x:h.DictOf knd a ps) (e:∀ o,h.get? a=some o→h'.get? a=some o):h'.DictOf knd a ps:=by
 refine ex32 x fun o es ep ho r=>?_;clear x
 exact ⟨o,es,ep,e o ho,r⟩
theorem jA {K:Type} [DecidableEq K] {knd:KeyKind prog w K} {a:Addr} {ps:List (K×Value)} (x:h.DictOf knd a ps):∃ o,h.get? a=some o:=by
 refine ex32 x fun o es ep ho r=>?_;clear x
 exact ⟨o,ho⟩
theorem cY {K:Type} [DecidableEq K] {knd:KeyKind prog w K} {a:Addr} {ps:List (K×Value)} {G:Prop} (x:h.DictOf knd a ps) (k:∀ o,h.get? a=some o→G):G:=ex11 (jA x) k
theorem RdL.consE {d:D} {ds:List D} {vs:List Value} {G:Prop} (x:RdL prog w h X (d::ds) vs) (k:∀ v r,vs=v::r→Rd prog w h X d v→RdL prog w h X ds r→G):G:=ex23 (by unfold RdL at x;exact x) k
theorem RdI.consE {e:Int} {d:D} {ds:List (Int×D)} {vs:List (Int×Value)} {G:Prop} (x:RdI prog w h X ((e,d)::ds) vs) (k:∀ v r,vs=(e,v)::r→Rd prog w h X d v→RdI prog w h X ds r→G):G:=ex23 (by unfold RdI at x;exact x) k
theorem RdS.consE {e:Str} {d:D} {ds:List (Str×D)} {vs:List (Str×Value)} {G:Prop} (x:RdS prog w h X ((e,d)::ds) vs) (k:∀ v r,vs=(e,v)::r→Rd prog w h X d v→RdS prog w h X ds r→G):G:=ex23 (by unfold RdS at x;exact x) k
variable (hk:∀ a o,a∉X→h.get? a=some o→a∉X'∧h'.get? a=some o)
include hk
mutual
theorem Rd.mv:∀ (d:D) (v:Value),Rd prog w h X d v→Rd prog w h' X' d v
 | .none,_,x=>x
 | .bool _,_,x=>x
 | .int _,_,x=>x
 | .str _,_,x=>x
 | .byt _,_,x=>x
 | .val _,_,x=>x
 | .rng n,_,x=>by
  unfold Rd at x ⊢
  refine ex43 x fun a t u t' e hx hg=>?_;clear x
  exact ⟨a,t,u,t',e,(hk a _ hx hg).1,(hk a _ hx hg).2⟩
 | .tup ds,_,x=>by
  unfold Rd at x ⊢
  refine ex34 x fun a vs n e hx hg r=>?_;clear x
  exact ⟨a,vs,n,e,(hk a _ hx hg).1,(hk a _ hx hg).2,RdL.mv ds vs r⟩
 | .lst ds,_,x=>by
  unfold Rd at x ⊢
  refine ex34 x fun a vs n e hx hg r=>?_;clear x
  exact ⟨a,vs,n,e,(hk a _ hx hg).1,(hk a _ hx hg).2,RdL.mv ds vs r⟩
 | .dci ds,_,x=>by
  unfold Rd at x ⊢
  refine ex24 x fun a ps e hx Z1 r=>?_;clear x;refine ai Z1 fun hg hy=>?_;clear Z1
  refine cY hg fun o ho=>?_
  exact ⟨a,ps,e,(hk a _ hx ho).1,⟨bt hg fun o ho=>(hk a o hx ho).2,hy⟩,RdI.mv ds ps r⟩
 | .dcs ds,_,x=>by
  unfold Rd at x ⊢
  refine ex24 x fun a ps e hx Z1 r=>?_;clear x;refine ai Z1 fun hg hy=>?_;clear Z1
  refine cY hg fun o ho=>?_
  exact ⟨a,ps,e,(hk a _ hx ho).1,⟨bt hg fun o ho=>(hk a o hx ho).2,hy⟩,RdS.mv ds ps r⟩
theorem RdL.mv:∀ (ds:List D) (vs:List Value),RdL prog w h X ds vs→RdL prog w h' X' ds vs
 | [],_,x=>x
 | d::ds,_,x=>by
  unfold RdL at x ⊢
  refine ex23 x fun v r e y z=>?_;clear x
  exact ⟨v,r,e,Rd.mv d v y,RdL.mv ds r z⟩
theorem RdI.mv:∀ (ds:List (Int×D)) (vs:List (Int×Value)),RdI prog w h X ds vs→RdI prog w h' X' ds vs
 | [],_,x=>x
 | (k,d)::ds,_,x=>by
  unfold RdI at x ⊢
  refine ex23 x fun v r e y z=>?_;clear x
  exact ⟨v,r,e,Rd.mv d v y,RdI.mv ds r z⟩
theorem RdS.mv:∀ (ds:List (Str×D)) (vs:List (Str×Value)),RdS prog w h X ds vs→RdS prog w h' X' ds vs
 | [],_,x=>x
 | (k,d)::ds,_,x=>by
  unfold RdS at x ⊢
  refine ex23 x fun v r e y z=>?_;clear x
  exact ⟨v,r,e,Rd.mv d v y,RdS.mv ds r z⟩
end
end mono
structure Keep (X:List Addr) (s s':Shared):Prop where
 heap:∀ a o,a∉X→s.heap.get? a=some o→s'.heap.get? a=some o
 live:∀ a,(s.heap.get? a).isSome=true→(s'.heap.get? a).isSome=true
 gens:∀ (i:Nat) (x:GenState),s.gens[i]?=some x→s'.gens[i]?=some x
 bare:AllBare s.gens→AllBare s'.gens
 os:s'.os=s.os
theorem Keep.refl (X:List Addr) (s:Shared):Keep X s s:=⟨fun Z Z Z e=>e,fun Z e=>e,fun Z Z e=>e,id,rfl⟩
theorem Keep.trans {X:List Addr} {s s' s'':Shared} (a:Keep X s s') (b:Keep X s' s''):Keep X s s'' :=
 ⟨fun x o hx e=>b.heap x o hx (a.heap x o hx e),fun x e=>b.live x (a.live x e),fun i x e=>b.gens i x (a.gens i x e),fun e=>b.bare (a.bare e),b.os.trans a.os⟩
theorem Keep.more {X Y:List Addr} {s s':Shared} (a:Keep X s s') (h:∀ x∈X,x∈Y):Keep Y s s' :=
 ⟨fun x o hx e=>a.heap x o (fun hm=>hx (h x hm)) e,a.live,a.gens,a.bare,a.os⟩
theorem Keep.any {X:List Addr} {s s':Shared} (a:Keep [] s s'):Keep X s s':=a.more fun Z hm=>nomatch hm
theorem Keep.drop {X:List Addr} {s s':Shared} (a:Keep X s s') (h:∀ x∈X,s.heap.get? x=none):Keep [] s s' :=
 ⟨fun x o Z e=>a.heap x o (fun hm=>by rw [h x hm] at e;exact nO e) e,a.live,a.gens,a.bare,a.os⟩
theorem Keep.dropTo {X Y:List Addr} {s s':Shared} (a:Keep X s s') (h:∀ x∈X,x∈Y∨s.heap.get? x=none):Keep Y s s' :=
 ⟨fun x o hy e=>a.heap x o (fun hm=>(h x hm).elim hy fun z=>by rw [z] at e;exact nO e) e,a.live,a.gens,a.bare,a.os⟩
theorem Keep.none_back {X:List Addr} {s s':Shared} (a:Keep X s s') {x:Addr} (h:s'.heap.get? x=none):s.heap.get? x=none:=by
 cases e:s.heap.get? x with
 | none=>rfl
 | some o=>have:=a.live x (by rw [e];rfl);rw [h] at this;exact nB this
theorem Keep.ext {X:List Addr} {s:Shared} {h':Heap} {tk:Nat} (hh:∀ a o,s.heap.get? a=some o→h'.get? a=some o) :
  Keep X s { s with heap:=h',toks:=tk }:=⟨fun a o Z e=>hh a o e,fun a e=>by
   cases q:s.heap.get? a with
   | none=>rw [q] at e;exact nB e
   | some o=>show (h'.get? a).isSome=true;rw [hh a o q];rfl,fun Z Z e=>e,id,rfl⟩
theorem Keep.toks {X:List Addr} {s:Shared} {tk:Nat}:Keep X s { s with toks:=tk }:=⟨fun Z Z Z e=>e,fun Z e=>e,fun Z Z e=>e,id,rfl⟩
theorem Keep.push {X:List Addr} {s:Shared} {o:Obj} {tk:Nat}:Keep X s { s with heap:=s.heap.push o,toks:=tk } :=
 Keep.ext fun Z Z e=>Heap.get?_push_of_some _ e
theorem af (h:Heap):h.get? h.objs.size=none:=by
 cases e:h.get? h.objs.size with
 | none=>rfl
 | some o=>exact absurd (Heap.lt_size e) (Nat.lt_irrefl _)
theorem aU {h:Heap} {a:Addr} (ha:h.objs.size≤a):h.get? a=none:=by
 cases e:h.get? a with
 | none=>rfl
 | some o=>exact absurd (Heap.lt_size e) (Nat.not_lt.mpr ha)
theorem Keep.extBut {X:List Addr} {s:Shared} {h':Heap} {tk:Nat} (hh:Heap.ExtBut s.heap.objs.size s.heap h'):Keep X s { s with heap:=h',toks:=tk } :=
 Keep.ext fun a o e=>hh a o (fun z=>by rw [z,af] at e;exact nO e) e
theorem Keep.sameBut {X:List Addr} {s:Shared} {a:Addr} {h':Heap} {tk:Nat} (hs:Heap.SameBut a s.heap h') (ha:a∈X) (hl:(h'.get? a).isSome=true):Keep X s { s with heap:=h',toks:=tk } :=
 ⟨fun b Z hb e=>(hs.2 b fun z=>hb (z ▸ ha)).trans e,fun b e=>by
  by_cases z:b=a
  ·subst z;exact hl
  ·show (h'.get? b).isSome=true;rw [hs.2 b z];exact e,fun Z Z e=>e,id,rfl⟩
theorem bV {h:Heap} {a:Addr} {m:Str→Option Value} (x:h.Ns a m):(h.get? a).isSome=true:=by
 refine ex32 x fun o Z Z ho Z=>?_;clear x;rw [ho];rfl
theorem bI {h:Heap} {a:Addr} {v:Option Value} (x:h.IsCell a v):(h.get? a).isSome=true:=by
 refine ex12 x fun o ho Z=>?_;clear x;rw [ho];rfl
noncomputable def Liv (X:List Addr) (h:Heap):Prop:=∀ a∈X,(h.get? a).isSome=true
theorem Liv.keep {X Y:List Addr} {s s':Shared} (l:Liv X s.heap) (k:Keep Y s s'):Liv X s'.heap:=fun a ha=>k.live a (l a ha)
theorem Liv.fresh {X:List Addr} {h:Heap} (l:Liv X h) {a:Addr} (e:h.get? a=none):a∉X:=fun hm=>by have:=l a hm;rw [e] at this;exact nB this
section
variable {prog:Program} {w:World} {X Y:List Addr} {s s':Shared}
theorem Rd.keep {d:D} {v:Value} (x:Rd prog w s.heap X d v) (k:Keep X s s'):Rd prog w s'.heap X d v :=
 Rd.mv (fun a o ha e=>⟨ha,k.heap a o ha e⟩) d v x
theorem RdL.keep {ds:List D} {vs:List Value} (x:RdL prog w s.heap X ds vs) (k:Keep X s s'):RdL prog w s'.heap X ds vs :=
 RdL.mv (fun a o ha e=>⟨ha,k.heap a o ha e⟩) ds vs x
theorem Rd.less {h:Heap} {d:D} {v:Value} (x:Rd prog w h X d v) (hs:∀ a∈Y,a∈X):Rd prog w h Y d v :=
 Rd.mv (fun a o ha e=>⟨fun hm=>ha (hs a hm),e⟩) d v x
theorem RdL.less {h:Heap} {ds:List D} {vs:List Value} (x:RdL prog w h X ds vs) (hs:∀ a∈Y,a∈X):RdL prog w h Y ds vs :=
 RdL.mv (fun a o ha e=>⟨fun hm=>ha (hs a hm),e⟩) ds vs x
theorem Rd.beyond {h:Heap} {d:D} {v:Value} (x:Rd prog w h X d v) (hs:∀ a∈Y,a∈X∨h.get? a=none):Rd prog w h Y d v :=
 Rd.mv (fun a o ha e=>⟨fun hm=>(hs a hm).elim ha fun hl=>(by rw [hl] at e;exact nO e),e⟩) d v x
theorem RdL.beyond {h:Heap} {ds:List D} {vs:List Value} (x:RdL prog w h X ds vs) (hs:∀ a∈Y,a∈X∨h.get? a=none):RdL prog w h Y ds vs :=
 RdL.mv (fun a o ha e=>⟨fun hm=>(hs a hm).elim ha fun hl=>(by rw [hl] at e;exact nO e),e⟩) ds vs x
theorem RdL.length {h:Heap}:∀ {ds:List D} {vs:List Value},RdL prog w h X ds vs→vs.length=ds.length
 | [],_,x=>by unfold RdL at x;subst x;rfl
 | d::ds,_,x=>by
  refine RdL.consE x fun v r Z1 Z z=>?_;clear x;subst Z1
  rw [List.length_cons,List.length_cons,RdL.length z]
theorem RdL.get {h:Heap}:∀ {ds:List D} {vs:List Value},RdL prog w h X ds vs→∀ {i:Nat} {d:D},ds[i]?=some d→∃ v,vs[i]?=some v∧Rd prog w h X d v
 | [],_,_,_,_,e=>by exact nO e
 | d::ds,_,x,i,d',e=>by
  refine RdL.consE x fun v r Z1 y z=>?_;clear x;subst Z1
  cases i with
  | zero=>(refine sE e fun e=>?_;subst e);exact ⟨v,rfl,y⟩
  | succ i=>exact RdL.get z (by simpa using e)
theorem RdL.append {h:Heap}:∀ {ds es:List D} {vs us:List Value},RdL prog w h X ds vs→RdL prog w h X es us→RdL prog w h X (ds++es) (vs++us)
 | [],_,_,_,x,y=>by unfold RdL at x;subst x;exact y
 | d::ds,es,_,us,x,y=>by
  refine RdL.consE x fun v r Z1 a b=>?_;clear x;subst Z1
  show RdL prog w h X (d::(ds++es)) (v::(r++us))
  unfold RdL
  exact ⟨v,_,rfl,a,RdL.append b y⟩
theorem RdL.nil {h:Heap}:RdL prog w h X [] []:=by unfold RdL;rfl
theorem RdL.cons {h:Heap} {d:D} {ds:List D} {v:Value} {vs:List Value} (a:Rd prog w h X d v) (b:RdL prog w h X ds vs):RdL prog w h X (d::ds) (v::vs):=by
 unfold RdL;exact ⟨v,vs,rfl,a,b⟩
theorem RdL.one {h:Heap} {d:D} {v:Value} (a:Rd prog w h X d v):RdL prog w h X [d] [v]:=.cons a .nil
theorem RdL.take {h:Heap}:∀ {ds:List D} {vs:List Value},RdL prog w h X ds vs→∀ n,RdL prog w h X (ds.take n) (vs.take n)
 | [],_,x,n=>by unfold RdL at x;subst x;rw [List.take_nil,List.take_nil];exact .nil
 | d::ds,_,x,n=>by
  refine RdL.consE x fun v r Z1 a b=>?_;clear x;subst Z1
  cases n with
  | zero=>exact .nil
  | succ n=>exact .cons a (RdL.take b n)
theorem RdL.drop {h:Heap}:∀ {ds:List D} {vs:List Value},RdL prog w h X ds vs→∀ n,RdL prog w h X (ds.drop n) (vs.drop n)
 | [],_,x,n=>by unfold RdL at x;subst x;rw [List.drop_nil,List.drop_nil];exact .nil
 | d::ds,_,x,n=>by
  refine RdL.consE x fun v r Z1 a b=>?_;clear x;subst Z1
  cases n with
  | zero=>exact .cons a b
  | succ n=>exact RdL.drop b n
theorem Rd.int_ {h:Heap} {i:Int} {t:Tok}:Rd prog w h X (.int i) (.int i t):=by unfold Rd;exact ⟨t,rfl⟩
theorem Rd.str_ {h:Heap} {x:Str} {t:Tok}:Rd prog w h X (.str x) (.str x t):=by unfold Rd;exact ⟨t,rfl⟩
theorem Rd.bool_ {h:Heap} {b:Bool}:Rd prog w h X (.bool b) (.bool b):=by unfold Rd;rfl
theorem Rd.none_ {h:Heap}:Rd prog w h X .none .none:=by unfold Rd;rfl
theorem Rd.int_inv {h:Heap} {i:Int} {v:Value} (x:Rd prog w h X (.int i) v):∃ t,v=.int i t:=by unfold Rd at x;exact x
theorem Rd.str_inv {h:Heap} {i:Str} {v:Value} (x:Rd prog w h X (.str i) v):∃ t,v=.str i t:=by unfold Rd at x;exact x
theorem Rd.bool_inv {h:Heap} {i:Bool} {v:Value} (x:Rd prog w h X (.bool i) v):v=.bool i:=by unfold Rd at x;exact x
theorem Rd.none_inv {h:Heap} {v:Value} (x:Rd prog w h X .none v):v=.none:=by unfold Rd at x;exact x
theorem Rd.byt_ {h:Heap} {b:Array UInt8} {t:Tok}:Rd prog w h X (.byt b) (.bytes b t):=by unfold Rd;exact ⟨t,rfl⟩
theorem Rd.byt_inv {h:Heap} {b:Array UInt8} {v:Value} (x:Rd prog w h X (.byt b) v):∃ t,v=.bytes b t:=by unfold Rd at x;exact x
theorem Rd.val_ {h:Heap} {u:Value}:Rd prog w h X (.val u) u:=by unfold Rd;rfl
theorem Rd.val_inv {h:Heap} {u v:Value} (x:Rd prog w h X (.val u) v):v=u:=by unfold Rd at x;exact x
theorem Rd.rng_ {h:Heap} {n:Nat} {a:Addr} {t u t':Tok} (hx:a∉X) (hg:IsRange h a 0 n 1 t u t'):Rd prog w h X (.rng n) (.ref a):=by unfold Rd;exact ⟨a,t,u,t',rfl,hx,hg⟩
theorem Rd.rng_inv {h:Heap} {n:Nat} {v:Value} (x:Rd prog w h X (.rng n) v):∃ a t u t',v=.ref a∧a∉X∧IsRange h a 0 n 1 t u t':=by unfold Rd at x;exact x
theorem Rd.tup_inv {h:Heap} {ds:List D} {v:Value} (x:Rd prog w h X (.tup ds) v):∃ a vs n,v=.ref a∧a∉X∧h.get? a=some (ii vs n)∧RdL prog w h X ds vs:=by unfold Rd at x;exact x
theorem Rd.lst_inv {h:Heap} {ds:List D} {v:Value} (x:Rd prog w h X (.lst ds) v):∃ a vs n,v=.ref a∧a∉X∧h.get? a=some (bo vs n)∧RdL prog w h X ds vs:=by unfold Rd at x;exact x
theorem Rd.dci_inv {h:Heap} {ds:List (Int×D)} {v:Value} (x:Rd prog w h X (.dci ds) v):∃ a ps,v=.ref a∧a∉X∧(h.DictOf (intKind prog w) a ps∧(a == sysModules)=false)∧RdI prog w h X ds ps:=by unfold Rd at x;exact x
theorem Rd.dcs_inv {h:Heap} {ds:List (Str×D)} {v:Value} (x:Rd prog w h X (.dcs ds) v):∃ a ps,v=.ref a∧a∉X∧(h.DictOf (strKind prog w) a ps∧(a == sysModules)=false)∧RdS prog w h X ds ps:=by unfold Rd at x;exact x
theorem Rd.intE {h:Heap} {i:Int} {v:Value} {G:Prop} (x:Rd prog w h X (.int i) v) (k:∀ t,v=.int i t→G):G:=ex11 x.int_inv k
theorem Rd.strE {h:Heap} {i:Str} {v:Value} {G:Prop} (x:Rd prog w h X (.str i) v) (k:∀ t,v=.str i t→G):G:=ex11 x.str_inv k
theorem Rd.bytE {h:Heap} {i:Array UInt8} {v:Value} {G:Prop} (x:Rd prog w h X (.byt i) v) (k:∀ t,v=.bytes i t→G):G:=ex11 x.byt_inv k
theorem Rd.tupE {h:Heap} {ds:List D} {v:Value} {G:Prop} (x:Rd prog w h X (.tup ds) v) (k:∀ a vs n,v=.ref a→a∉X→h.get? a=some (ii vs n)→RdL prog w h X ds vs→G):G:=ex34 x.tup_inv k
theorem Rd.lstE {h:Heap} {ds:List D} {v:Value} {G:Prop} (x:Rd prog w h X (.lst ds) v) (k:∀ a vs n,v=.ref a→a∉X→h.get? a=some (bo vs n)→RdL prog w h X ds vs→G):G:=ex34 x.lst_inv k
theorem Rd.dciE {h:Heap} {ds:List (Int×D)} {v:Value} {G:Prop} (x:Rd prog w h X (.dci ds) v) (k:∀ a ps,v=.ref a→a∉X→(h.DictOf (intKind prog w) a ps∧(a == sysModules)=false)→RdI prog w h X ds ps→G):G:=ex24 x.dci_inv k
theorem Rd.dcsE {h:Heap} {ds:List (Str×D)} {v:Value} {G:Prop} (x:Rd prog w h X (.dcs ds) v) (k:∀ a ps,v=.ref a→a∉X→(h.DictOf (strKind prog w) a ps∧(a == sysModules)=false)→RdS prog w h X ds ps→G):G:=ex24 x.dcs_inv k
theorem Rd.tup_ {h:Heap} {ds:List D} {a:Addr} {vs:List Value} {n:Nat} (hx:a∉X) (hg:h.get? a=some (ii vs n)) (r:RdL prog w h X ds vs):Rd prog w h X (.tup ds) (.ref a):=by unfold Rd;exact ⟨a,vs,n,rfl,hx,hg,r⟩
theorem Rd.lst_ {h:Heap} {ds:List D} {a:Addr} {vs:List Value} {n:Nat} (hx:a∉X) (hg:h.get? a=some (bo vs n)) (r:RdL prog w h X ds vs):Rd prog w h X (.lst ds) (.ref a):=by unfold Rd;exact ⟨a,vs,n,rfl,hx,hg,r⟩
theorem Rd.dci_ {h:Heap} {ds:List (Int×D)} {a:Addr} {ps:List (Int×Value)} (hx:a∉X) (hg:h.DictOf (intKind prog w) a ps∧(a == sysModules)=false) (r:RdI prog w h X ds ps):Rd prog w h X (.dci ds) (.ref a):=by unfold Rd;exact ⟨a,ps,rfl,hx,hg,r⟩
theorem Rd.dcs_ {h:Heap} {ds:List (Str×D)} {a:Addr} {ps:List (Str×Value)} (hx:a∉X) (hg:h.DictOf (strKind prog w) a ps∧(a == sysModules)=false) (r:RdS prog w h X ds ps):Rd prog w h X (.dcs ds) (.ref a):=by unfold Rd;exact ⟨a,ps,rfl,hx,hg,r⟩
end
inductive Bd where
 | d (d:D)
 | v (v:Value)
instance:Nonempty Bd:=⟨.d .none⟩
noncomputable def BdOk (prog:Program) (w:World) (h:Heap) (X:List Addr):Bd→Value→Prop
 | .d d,v=>Rd prog w h X d v
 | .v u,v=>v=u
noncomputable def VarAt (h:Heap) (env:Env) (x:Str) (v:Value):Prop :=
 (env.kindOf x=some .local∧∃ m,h.Ns env.locals m∧m x=some v) ∨
 ((env.kindOf x=some .cell∨(env.kindOf x=some .free∧(x == ("__classdict__":Str))=false))∧∃ c,env.cells.lookup x=some c∧h.IsCell c (some v))
noncomputable def AttOk:List DictEntry→List (Str×Value)→Prop
 | [],[]=>True
 | e::es,p::ps=>(∃ t,e.key=.str p.1 t)∧e.val=p.2∧AttOk es ps
 | _,_=>False
inductive OD where
 | lst (ds:List D)
 | dci (kvs:List (Int×D))
 | dcs (kvs:List (Str×D))
 | att (ps:List (Str×Value))
 | raw (o:Obj)
 | sd (o:Obj)
instance:Nonempty OD:=⟨.lst []⟩
noncomputable def OwnAt (prog:Program) (w:World) (h:Heap) (X:List Addr) (a:Addr):OD→Prop
 | .lst ds=>∃ vs n,h.get? a=some (bo vs n)∧RdL prog w h X ds vs
 | .dci kvs=>∃ ps,h.DictOf (intKind prog w) a ps∧RdI prog w h X kvs ps
 | .dcs kvs=>∃ ps,h.DictOf (strKind prog w) a ps∧RdS prog w h X kvs ps
 | .att ps=>∃ es n,h.get? a=some { cls:=.type "dict",data:=.dict (List.toArray es) n }∧AttOk es ps
 | .raw o=>h.get? a=some o
 | .sd o=>∃ sl,h.get? a=some { o with slots:=sl }
theorem OwnAt.mv {prog:Program} {w:World} {h h':Heap} {X X':List Addr} {a:Addr} (hk:∀ b o,b∉X→h.get? b=some o→b∉X'∧h'.get? b=some o) (ha:∀ o,h.get? a=some o→h'.get? a=some o) :
  ∀ {od:OD},OwnAt prog w h X a od→OwnAt prog w h' X' a od
:=by
 intro od x
 cases od with
 | lst ds=>exact ex22 x fun vs n e r=>⟨vs,n,ha _ e,RdL.mv hk ds vs r⟩
 | dci kvs=>exact ex12 x fun ps e r=>⟨ps,bt e ha,RdI.mv hk kvs ps r⟩
 | dcs kvs=>exact ex12 x fun ps e r=>⟨ps,bt e ha,RdS.mv hk kvs ps r⟩
 | att ps=>exact ex22 x fun es n e r=>⟨es,n,ha _ e,r⟩
 | raw o=>exact ha _ x
 | sd o=>exact ex11 x fun sl e=>⟨sl,ha _ e⟩
theorem OwnAt.live {prog:Program} {w:World} {h:Heap} {X:List Addr} {a:Addr}:∀ {od:OD},OwnAt prog w h X a od→(h.get? a).isSome=true
 | .lst ds,⟨vs,n,e,r⟩=>by rw [e];rfl
 | .dci kvs,⟨ps,e,r⟩=>by refine cY e fun o ho=>?_;rw [ho];rfl
 | .dcs kvs,⟨ps,e,r⟩=>by refine cY e fun o ho=>?_;rw [ho];rfl
 | .att ps,⟨es,n,e,r⟩=>by rw [e];rfl
 | .raw o,e=>by rw [show h.get? a=some o from e];rfl
 | .sd o,⟨sl,e⟩=>by rw [e];rfl
noncomputable def TQ:Addr:=107
noncomputable def oX:List Stmt:=match (PySem.Challenge.pw_zn0011_01.main.body[8]?:Option Stmt) with | some (.ClassDef _ _ _ b ..)=>b | _=>[]
noncomputable def oY:List Stmt:=match (PySem.Challenge.pw_zn0011_01.main.body[14]?:Option Stmt) with | some (.FunctionDef _ _ b ..)=>b | _=>[]
noncomputable def kC (i:Nat):Option Stmt:=bif Nat.blt i 100 then PySem.Challenge.pw_zn0011_01.main.body[i]? else bif Nat.blt i 200 then oX[Nat.sub i 100]? else oY[Nat.sub i 200]?
noncomputable def fnName (i:Nat):Str:=match kC i with | some (.FunctionDef n ..)=>n | _=>""
noncomputable def fnParams (i:Nat):Arguments:=match kC i with | some (.FunctionDef _ a ..)=>a | _=>⟨[],[],none,[],[],none,[]⟩
noncomputable def fnBody (i:Nat):List Stmt:=match kC i with | some (.FunctionDef _ _ b ..)=>b | _=>[]
noncomputable def fnScope (i:Nat):Scope:=match kC i with | some (.FunctionDef _ _ _ _ _ _ s ..)=>s | _=>default
structure FnAt (h:Heap) (a:Addr) (name qual:Str) (params:Arguments) (body:List Stmt) (scope:Scope):Prop where
 lo:a < 178
 ok:∃ doc pm c oc vs t,h.get? a=some ⟨.type "function",none,.func (fnOf name qual params body scope .none .none doc pm none (.ref c) .none),#[]⟩∧c < 178∧c≠TQ∧h.get? c=some oc∧oc.data=.fields vs∧vs[1]?=some (.str qual t)
 ne:a≠TQ
noncomputable def defTab:List (Addr×Nat):=[(21,1),(28,2),(35,3),(42,6),(91,10),(98,12),(105,13),(112,14),(119,15),(126,16),(133,17),(140,18),(145,19),(150,20),(157,21),(162,22),(167,23),(172,24),(177,25)]
noncomputable def bltTab:List (Str×Value):=[("len",.builtin "len"),("range",.type "range"),("sum",.builtin "sum"),("min",.builtin "min"),("max",.builtin "max"),("chr",.builtin "chr"),("ord",.builtin "ord"),
 ("bytes",.type "bytes"),("bytearray",.type "bytearray"),("tuple",.type "tuple"),("list",.type "list"),("sorted",.builtin "sorted"),("isinstance",.builtin "isinstance"),("iter",.builtin "iter"),
 ("ValueError",.type "ValueError"),("zip",.type "zip")]
noncomputable def globTab:List (Str×Value):=([("_netrclex",.ref 80),("CHAR_MAX",.int 127 229)]:List (Str×Value))++defTab.map fun p=>(fnName p.2,.ref p.1)
noncomputable def fnQual (i:Nat):Str:=bif Nat.blt i 100 then fnName i else "_netrclex."++fnName i
noncomputable def methTab:List (Addr×Nat):=[(56,100),(63,101),(70,102),(77,103)]
noncomputable abbrev CL:Addr:=80
noncomputable def kOk (K:Frag):Bool:=makesIn K CL && readsIn K CL (.type "type") && plainOver K CL && (clsIn K CL).any (·.hasDict) &&
 (methTab.all fun p=>findIn K (.ref CL) (fnName p.2) == some (some (.ref p.1)) && typeIn K (.ref p.1) == some (.type "function")) &&
 (findIn K (.ref CL) "__getattribute__" == some (some (.builtin "object.__getattribute__"))) && (findIn K (.ref CL) "__getattr__" == some none) &&
 (findIn K (.ref CL) "__setattr__" == some (some (.builtin "object.__setattr__"))) &&
 ((["lineno", "instream", "whitespace", "pushback", "read"]:List Str).all fun x=>findIn K (.ref CL) x == some none)
noncomputable def BmAt (h:Heap) (mg:Str→Option Value):Prop:=∃ bm o,mg "__builtins__"=some (.ref bm)∧bm < 178∧bm≠builtinsNs∧bm≠mainGlobals∧bm≠TQ∧h.get? bm=some o∧o.cls=.type "module"∧o.dict=some builtinsNs∧o.data=.plain
structure TopOk (h:Heap):Prop where
 g:∃ mg,h.Ns mainGlobals mg∧(∀ p∈globTab,mg p.1=some p.2)∧∀ p∈bltTab,mg p.1=none
 b:∃ mb,h.Ns builtinsNs mb∧∀ p∈bltTab,mb p.1=some p.2
 lim:h.NoLimit
 fn:∀ p∈defTab,FnAt h p.1 (fnName p.2) (fnName p.2) (fnParams p.2) (fnBody p.2) (fnScope p.2)
 fm:∀ p∈methTab,FnAt h p.1 (fnName p.2) (fnQual p.2) (fnParams p.2) (fnBody p.2) (fnScope p.2)
 k:∃ K:Frag,K.In h∧(∀ a o,K.lookup a=some o→a < 178∧a≠TQ)∧kOk K=true
 bm:∃ mg,h.Ns mainGlobals mg∧BmAt h mg
 lx:∃ doc pm,h.get? 112=some ⟨.type "function",none,.func (fnOf (fnName 14) (fnName 14) (fnParams 14) (fnBody 14) (fnScope 14) .none .none doc pm none (.ref 111) .none),#[]⟩
 ch:CodeHd h 111 TQ
theorem FnAt.mv {h h':Heap} {a:Addr} {n q:Str} {p:Arguments} {b:List Stmt} {sc:Scope} (x:FnAt h a n q p b sc) (hk:∀ a o,a < 178→a≠TQ→h.get? a=some o→h'.get? a=some o):FnAt h' a n q p b sc:=by
 obtain ⟨lo,⟨doc,pm,c,oc,vs,t,h1,h2,h3,h4,h5,h6⟩,ne⟩:=x
 exact ⟨lo,⟨doc,pm,c,oc,vs,t,hk _ _ lo ne h1,h2,h3,hk _ _ h2 h3 h4,h5,h6⟩,ne⟩
theorem aW {h h':Heap} {a:Addr} {m:Str→Option Value} (x:h.Ns a m) (e:∀ o,h.get? a=some o→h'.get? a=some o):h'.Ns a m:=by
 refine ex32 x fun o es ep ho r=>?_;clear x
 exact ⟨o,es,ep,e o ho,r⟩
theorem TopOk.mv {h h':Heap} (x:TopOk h) (hk:∀ a o,a < 178→a≠TQ→h.get? a=some o→h'.get? a=some o):TopOk h':=by
 obtain ⟨⟨mg,g1,g2⟩,⟨mb,b1,b2⟩,⟨mc,c1,c2⟩,fn,fm,⟨K,k1,k2,k3⟩,⟨mg',m1,bm,o,m2,m3,m4,m5,m6,m7,m8⟩,⟨doc,pm,l1⟩,⟨o',vs,file,tf,flags,tg,inF,text,tt,d1,d2⟩⟩:=x
 exact ⟨⟨mg,aW g1 fun o e=>hk _ _ (by decide) (by decide) e,g2⟩,⟨mb,aW b1 fun o e=>hk _ _ (by decide) (by decide) e,b2⟩,
  ⟨mc,aW c1 fun o e=>hk _ _ (by decide) (by decide) e,c2⟩,fun p hp=>(fn p hp).mv hk,fun p hp=>(fm p hp).mv hk,⟨K,fun a o e=>hk _ _ (k2 a o e).1 (k2 a o e).2 (k1 a o e),k2,k3⟩,
  ⟨mg',aW m1 fun o e=>hk _ _ (by decide) (by decide) e,bm,o,m2,m3,m4,m5,m6,hk _ _ m3 m6 m7,m8⟩,⟨doc,pm,hk _ _ (by decide) (by decide) l1⟩,⟨o',vs,file,tf,flags,tg,inF,text,tt,hk _ _ (by decide) (by decide) d1,d2⟩⟩
structure EnvOk (env:Env) (X:List Addr):Prop where
 kind:env.scope.kind=.function
 glob:env.globals=mainGlobals
 blt:env.builtins=builtinsNs
 loc:env.locals∈X
 cel:∀ p∈env.cells,p.2∈X∧p.2≠env.locals
 inj:env.cells.Pairwise (fun x y=>x.2≠y.2)
structure Cx (prog:Program) (w:World) (env:Env) (X:List Addr) (τ:List (Str×Bd)) (ω:List (Addr×OD)) (s:Shared):Prop where
 ok:EnvOk env X
 ns:∃ m,s.heap.Ns env.locals m
 cells:∀ p∈env.cells,∃ v,s.heap.IsCell p.2 v
 vars:∀ x b,τ.lookup x=some b→∃ v,VarAt s.heap env x v∧BdOk prog w s.heap X b v
 top:TopOk s.heap
 xlt:Liv X s.heap
 xhi:∀ a∈X,178≤a
 own:∀ p∈ω,OwnAt prog w s.heap X p.1 p.2∧p.1∈X∧p.1≠env.locals∧∀ c∈env.cells,c.2≠p.1
theorem aA {h h':Heap} {c:Addr} {v:Option Value} (x:h.IsCell c v) (e:∀ o,h.get? c=some o→h'.get? c=some o):h'.IsCell c v:=by
 refine ex12 x fun o ho hd=>?_;clear x
 exact ⟨o,e o ho,hd⟩
theorem VarAt.mv {h h':Heap} {env:Env} {x:Str} {v:Value} (a:VarAt h env x v) (e:∀ b o,h.get? b=some o→h'.get? b=some o):VarAt h' env x v:=by
 rcases a with ⟨a,m,b,c⟩ | ⟨a,c,b,d⟩
 ·exact .inl ⟨a,m,aW b fun o=>e _ o,c⟩
 ·exact .inr ⟨a,c,b,aA d fun o=>e _ o⟩
theorem BdOk.keep {prog:Program} {w:World} {X:List Addr} {s s':Shared}:∀ {b:Bd} {v:Value},BdOk prog w s.heap X b v→Keep X s s'→BdOk prog w s'.heap X b v
 | .d d,_,x,k=>Rd.keep (d:=d) x k
 | .v _,_,x,_=>x
variable {prog:Program} {w:World} {A:Around} {env:Env} {M X:List Addr} {τ:List (Str×Bd)} {ω:List (Addr×OD)} {s s' s₀ s₁:Shared}
theorem Cx.keep (c:Cx prog w env X τ ω s) (k:Keep [] s s'):Cx prog w env X τ ω s':=by
 obtain ⟨ok,⟨m,ns⟩,cells,vars,top,xlt,xhi,own⟩:=c
 have kk:∀ b o,s.heap.get? b=some o→s'.heap.get? b=some o:=fun b o e=>k.heap b o (fun h=>nomatch h) e
 refine ⟨ok,⟨m,aW ns fun o=>kk _ o⟩,fun p hp=>?_,fun x b e=>?_,top.mv fun a o Z Z e=>kk a o e,xlt.keep k,xhi,fun p hp=>⟨(own p hp).1.mv (fun b o hb e=>⟨hb,kk b o e⟩) fun o=>kk _ o,(own p hp).2⟩⟩
 ·refine ex11 (cells p hp) fun v hv=>?_
  exact ⟨v,aA hv fun o=>kk _ o⟩
 ·refine ex12 (vars x b e) fun v h1 h2=>?_
  exact ⟨v,h1.mv kk,h2.keep k.any⟩
theorem Cx.fresh (c:Cx prog w env X τ ω s):s.heap.objs.size∉X:=c.xlt.fresh (af _)
noncomputable def Ev (prog:Program) (w:World) (A:Around) (env:Env) (e:Expr) (s:Shared) (P:Shared→Value→Prop):Prop :=
 ∀ s',Keep [] s s'→WP prog w A (eval e env) (fun v s''=>Keep [] s' s''∧P s'' v) s'
noncomputable abbrev EvD (prog:Program) (w:World) (A:Around) (env:Env) (X:List Addr) (s:Shared) (e:Expr) (d:D):Prop :=
 Ev prog w A env e s fun s v=>Rd prog w s.heap X d v
noncomputable abbrev EvV (prog:Program) (w:World) (A:Around) (env:Env) (s:Shared) (e:Expr) (u:Value):Prop :=
 Ev prog w A env e s fun Z v=>v=u
noncomputable def EvT (prog:Program) (w:World) (A:Around) (env:Env) (s:Shared) (e:Expr) (b:Bool):Prop :=
 ∀ s',Keep [] s s'→WP prog w A (isTrue e env (eval e env)) (fun c s''=>Keep [] s' s''∧c=b) s'
theorem Ev.keep {e:Expr} {P:Shared→Value→Prop} (x:Ev prog w A env e s P) (k:Keep [] s s'):Ev prog w A env e s' P:=fun s'' k'=>x s'' (k.trans k')
theorem EvT.keep {e:Expr} {b:Bool} (x:EvT prog w A env s e b) (k:Keep [] s s'):EvT prog w A env s' e b:=fun s'' k'=>x s'' (k.trans k')
theorem Ev.imp {e:Expr} {P P':Shared→Value→Prop} (x:Ev prog w A env e s P) (h:∀ s v,P s v→P' s v):Ev prog w A env e s P':=fun s' k =>
 wpAny_mono (x s' k) (fun v s'' p=>⟨p.1,h _ _ p.2⟩) fun Z Z z=>z
theorem Ev.go {e:Expr} {P:Shared→Value→Prop} {Q:Value→Shared→Prop} (x:Ev prog w A env e s P) (h:∀ v s',Keep [] s s'→P s' v→Q v s'):WP prog w A (eval e env) Q s :=
 wpAny_mono (x s (Keep.refl _ _)) (fun v s' p=>h v s' p.1 p.2) fun Z Z z=>z
theorem EvT.go {e:Expr} {b:Bool} {Q:Bool→Shared→Prop} (x:EvT prog w A env s e b) (h:∀ s',Keep [] s s'→Q b s'):WP prog w A (isTrue e env (eval e env)) Q s :=
 wpAny_mono (x s (Keep.refl _ _)) (fun v s' p=>p.2 ▸ h s' p.1) fun Z Z z=>z
theorem ij {x:Str} {v:Value} {Q:Value→Shared→Prop} (ok:EnvOk env X) (hv:VarAt s.heap env x v) (h:Q v s):WP prog w A (loadName env x) Q s:=by
 rcases hv with ⟨hk,m,hn,hm⟩ | ⟨hk,c,hc,hd⟩
 ·exact wpAny_loadName_local ok.kind hk hn hm h
 ·rcases hk with hk | ⟨hk,hn⟩
  ·exact wpAny_loadName_cell ok.kind hk hc hd h
  ·exact wpAny_loadName_free ok.kind hk hc hd h hn
theorem mJ {x:Str} {p:Pos} {b:Bd} (c:Cx prog w env X τ ω s) (hb:τ.lookup x=some b) (hd:autoParam ((x == ("__debug__":Str))=false) fb._auto_1) :
  Ev prog w A env (.Name x p) s fun s v=>BdOk prog w s.heap X b v:=fun s' k=>by
 refine ex12 ((c.keep k).vars x b hb) fun v h1 h2=>?_
 exact wpAny_Name (ij c.ok h1 ⟨Keep.refl _ _,h2⟩) hd
theorem aa {x:Str} {p:Pos} (d:D) (c:Cx prog w env X τ ω s) (hb:τ.lookup x=some (.d d)) (hd:autoParam ((x == ("__debug__":Str))=false) fb._auto_1) :
  EvD prog w A env X s (.Name x p) d:=mJ c hb hd
theorem az {x:Str} {p:Pos} (u:Value) (c:Cx prog w env X τ ω s) (hb:τ.lookup x=some (.v u)) (hd:autoParam ((x == ("__debug__":Str))=false) fb._auto_1) :
  EvV prog w A env s (.Name x p) u:=mJ c hb hd
theorem ak {α β:Type} [BEq α] [LawfulBEq α] {x:α} {y:β}:∀ {l:List (α×β)},l.lookup x=some y→(x,y)∈l
 | [],e=>by exact nO e
 | (a,b)::r,e=>by
  rw [List.lookup_cons] at e
  cases h:x == a with
  | true=>rw [h] at e;refine sE e fun e=>?_;subst e;rw [eq_of_beq h];exact .head _
  | false=>rw [h] at e;exact .tail _ (ak e)
theorem bj {x:Str} {p:Pos} (u:Value) (c:Cx prog w env X τ ω s) (hx:env.kindOf x=some .globalImplicit) (hu:globTab.lookup x=some u) (hd:autoParam ((x == ("__debug__":Str))=false) fb._auto_1) :
  EvV prog w A env s (.Name x p) u:=fun s' k=>by
 refine ex13 ((c.keep k).top.g) fun mg g1 g2 Z=>?_
 refine Calls.Name_function_global c.ok.kind hx (Calls.loadGlobal_global (by rw [c.ok.glob];exact g1) (g2 _ (ak hu)) ⟨Keep.refl _ _,rfl⟩) hd
theorem aY {x:Str} {p:Pos} (u:Value) (c:Cx prog w env X τ ω s) (hx:env.kindOf x=some .globalImplicit) (hu:bltTab.lookup x=some u) (hd:autoParam ((x == ("__debug__":Str))=false) fb._auto_1) :
  EvV prog w A env s (.Name x p) u:=fun s' k=>by
 refine ex13 ((c.keep k).top.g) fun mg g1 Z g2=>?_
 refine ex12 ((c.keep k).top.b) fun mb b1 b2=>?_
 refine Calls.Name_function_global c.ok.kind hx (Calls.loadGlobal_builtin (by rw [c.ok.glob];exact g1) (g2 _ (ak hu)) (by rw [c.ok.blt];exact b1) (b2 _ (ak hu)) ⟨Keep.refl _ _,rfl⟩) hd
theorem ag {i:Int} {k:Nat} {p:Pos}:EvD prog w A env X s (.Constant (.int i) k p) (.int i):=fun s' Z=>wpAny_Constant_int ⟨Keep.toks,Rd.int_⟩
theorem aX {x:Str} {k:Nat} {p:Pos}:EvD prog w A env X s (.Constant (.str x) k p) (.str x):=fun s' Z=>wpAny_Constant_str ⟨Keep.toks,Rd.str_⟩
theorem ft {b:Bool} {k:Nat} {p:Pos}:EvD prog w A env X s (.Constant (.bool b) k p) (.bool b):=fun s' Z=>wpAny_Constant_bool ⟨Keep.refl _ _,Rd.bool_⟩
theorem fu {k:Nat} {p:Pos}:EvD prog w A env X s (.Constant .none k p) .none:=fun s' Z=>wpAny_Constant_none ⟨Keep.refl _ _,Rd.none_⟩
structure Gd (X:List Addr) (s:Shared):Prop where
 top:TopOk s.heap
 liv:Liv X s.heap
 hi:∀ a∈X,178≤a
theorem TopOk.size {h:Heap} (t:TopOk h):178≤h.objs.size:=by
 obtain ⟨_,⟨doc,pm,c,oc,vs,t,h1,_⟩,_⟩:=t.fn (177,25) (by unfold defTab;simp)
 exact Heap.lt_size h1
theorem Gd.keep (g:Gd X s) (k:Keep [] s s'):Gd X s' :=
 ⟨g.top.mv fun a o Z Z e=>k.heap a o (fun h=>nomatch h) e,g.liv.keep k,g.hi⟩
theorem Cx.gd (c:Cx prog w env X τ ω s):Gd X s:=⟨c.top,c.xlt,c.xhi⟩
theorem Gd.fresh (g:Gd X s):s.heap.objs.size∉X:=g.liv.fresh (af _)
noncomputable def cv (prog:Program) (w:World) (A:Around) (X:List Addr) (f:Value→Value→Sem Value) (a b c:D):Prop :=
 ∀ s u v,Gd X s→Rd prog w s.heap X a u→Rd prog w s.heap X b v→WP prog w A (f u v) (fun r s'=>Keep [] s s'∧Rd prog w s'.heap X c r) s
theorem aF {op:Operator} {l r:Expr} {p:Pos} {a b d:D} (c:Cx prog w env X τ ω s) (hl:EvD prog w A env X s l a) (hr:EvD prog w A env X s r b) (ho:cv prog w A X (binaryOp op) a b d) :
  EvD prog w A env X s (.BinOp l op r p) d:=fun s' k=>by
 refine wpAny_BinOp ((hl.keep k).go fun u s₁ k₁ h₁=>(hr.keep (k.trans k₁)).go fun v s₂ k₂ h₂=>?_)
 have c₂:=c.keep ((k.trans k₁).trans k₂)
 exact wpAny_mono (ho s₂ u v c₂.gd (h₁.keep k₂.any) h₂) (fun x s₃ h=>⟨(k₁.trans k₂).trans h.1,h.2⟩) fun Z Z z=>z
theorem r8 {op:CmpOp} {l r:Expr} {p:Pos} {a b d:D} (c:Cx prog w env X τ ω s) (hl:EvD prog w A env X s l a) (hr:EvD prog w A env X s r b) (ho:cv prog w A X (compareOp op) a b d)
  (hm:autoParam (behindInMarks op r=false) tn._auto_1):EvD prog w A env X s (.Compare l [op] [r] p) d:=fun s' k=>by
 refine wpAny_Compare1 ((hl.keep k).go fun u s₁ k₁ h₁=>(hr.keep (k.trans k₁)).go fun v s₂ k₂ h₂=>?_) hm
 have c₂:=c.keep ((k.trans k₁).trans k₂)
 exact wpAny_mono (ho s₂ u v c₂.gd (h₁.keep k₂.any) h₂) (fun x s₃ h=>⟨(k₁.trans k₂).trans h.1,h.2⟩) fun Z Z z=>z
theorem aZ {op:CmpOp} {l r:Expr} {p:Pos} {a b:D} {t:Bool} (c:Cx prog w env X τ ω s) (hl:EvD prog w A env X s l a) (hr:EvD prog w A env X s r b) (ho:cv prog w A X (compareOp op) a b (.bool t))
  (hm:autoParam (behindInMarks op r=false) tn._auto_1):EvT prog w A env s (.Compare l [op] [r] p) t:=fun s' k=>by
 refine wpAny_isTrue_Compare1 ((hl.keep k).go fun u s₁ k₁ h₁=>(hr.keep (k.trans k₁)).go fun v s₂ k₂ h₂=>?_) hm
 have c₂:=c.keep ((k.trans k₁).trans k₂)
 refine wpAny_mono (ho s₂ u v c₂.gd (h₁.keep k₂.any) h₂) (fun x s₃ h=>?_) fun Z Z z=>z
 rw [h.2.bool_inv]
 exact wpAny_truthy_bool ⟨(k₁.trans k₂).trans h.1,rfl⟩
inductive EvTs (prog:Program) (w:World) (A:Around) (env:Env) (s:Shared):List Expr→List Bool→Prop
 | nil:EvTs prog w A env s [] []
 | cons {x:Expr} {xs:List Expr} {t:Bool} {ts:List Bool}:EvT prog w A env s x t→EvTs prog w A env s xs ts→EvTs prog w A env s (x::xs) (t::ts)
theorem ux {t b o:Expr} {p:Pos} {c:Bool} {P:Shared→Value→Prop} (ht:EvT prog w A env s t c) (hb:c=true→Ev prog w A env b s P) (ho:c=false→Ev prog w A env o s P) :
  Ev prog w A env (.IfExp t b o p) s P:=fun s' k=>by
 refine wpAny_IfExp ((ht.keep k).go fun s₁ k₁=>?_)
 cases c with
 | true=>exact ((hb rfl).keep (k.trans k₁)).go fun v s₂ k₂ h=>⟨k₁.trans k₂,h⟩
 | false=>exact ((ho rfl).keep (k.trans k₁)).go fun v s₂ k₂ h=>⟨k₁.trans k₂,h⟩
theorem bR {a b:Int}:cv prog w A X (binaryOp .Add) (.int a) (.int b) (.int (a + b)):=fun s u v Z h1 h2=>by
 refine h1.intE fun t Z1=>?_;subst Z1;refine h2.intE fun t' Z1=>?_;subst Z1
 exact PyProof.Rows.add_int ⟨Keep.toks,Rd.int_⟩
theorem cO {a b:Int}:cv prog w A X (binaryOp .Sub) (.int a) (.int b) (.int (a - b)):=fun s u v Z h1 h2=>by
 refine h1.intE fun t Z1=>?_;subst Z1;refine h2.intE fun t' Z1=>?_;subst Z1
 exact PyProof.Rows.sub_int ⟨Keep.toks,Rd.int_⟩
theorem fv {a b:Int} (hb:b≠0):cv prog w A X (binaryOp .Mod) (.int a) (.int b) (.int (a.fmod b)):=fun s u v Z h1 h2=>by
 refine h1.intE fun t Z1=>?_;subst Z1;refine h2.intE fun t' Z1=>?_;subst Z1
 exact PyProof.Rows.mod_int hb ⟨Keep.toks,Rd.int_⟩
theorem cZ {a b:Int}:cv prog w A X (compareOp .Eq) (.int a) (.int b) (.bool (a == b)):=fun s u v Z h1 h2=>by
 refine h1.intE fun t Z1=>?_;subst Z1;refine h2.intE fun t' Z1=>?_;subst Z1
 exact PyProof.Rows.eq_int ⟨Keep.refl _ _,Rd.bool_⟩
theorem tz {a b:Int}:cv prog w A X (compareOp .NotEq) (.int a) (.int b) (.bool (a != b)):=fun s u v Z h1 h2=>by
 refine h1.intE fun t Z1=>?_;subst Z1;refine h2.intE fun t' Z1=>?_;subst Z1
 exact PyProof.Rows.ne_int ⟨Keep.refl _ _,Rd.bool_⟩
theorem tA {a b:Int}:cv prog w A X (compareOp .Lt) (.int a) (.int b) (.bool (decide (a < b))):=fun s u v Z h1 h2=>by
 refine h1.intE fun t Z1=>?_;subst Z1;refine h2.intE fun t' Z1=>?_;subst Z1
 exact PyProof.Rows.lt_int ⟨Keep.refl _ _,Rd.bool_⟩
theorem r9 {a b:Int}:cv prog w A X (compareOp .Gt) (.int a) (.int b) (.bool (decide (b < a))):=fun s u v Z h1 h2=>by
 refine h1.intE fun t Z1=>?_;subst Z1;refine h2.intE fun t' Z1=>?_;subst Z1
 exact PyProof.Rows.gt_int ⟨Keep.refl _ _,Rd.bool_⟩
theorem tB {a b:Int}:cv prog w A X (compareOp .GtE) (.int a) (.int b) (.bool (decide (b≤a))):=fun s u v Z h1 h2=>by
 refine h1.intE fun t Z1=>?_;subst Z1;refine h2.intE fun t' Z1=>?_;subst Z1
 exact PyProof.Rows.ge_int ⟨Keep.refl _ _,Rd.bool_⟩
theorem gE {h:Heap} {a:Addr} {m m':Str→Option Value} (x:h.Ns a m) (y:h.Ns a m') (n:Str):m n=m' n:=by
 refine ex34 x fun o es ep h1 h2 Z h4=>?_;clear x
 refine ex34 y fun o' es' ep' g1 g2 Z g4=>?_;clear y
 rw [h1] at g1;refine sE g1 fun g1=>?_;subst g1;rw [h2] at g2;cases g2
 rw [← h4 n,← g4 n]
theorem kD {l:List (Str×Addr)} (hp:l.Pairwise fun x y=>x.2≠y.2) {p q:Str×Addr} (h1:p∈l) (h2:q∈l) (e:p.2=q.2):p=q:=by
 induction l with
 | nil=>exact nM h1
 | cons x r ih =>
  rw [List.pairwise_cons] at hp
  refine mC h1 (fun e1=>?_) fun h1=>?_ <;> refine mC h2 (fun e2=>?_) fun h2=>?_
  ·rw [e1,e2]
  ·exact absurd (e1 ▸ e) (hp.1 _ h2)
  ·exact absurd (e2 ▸ e).symm (hp.1 _ h1)
  ·exact ih hp.2 h1 h2
noncomputable def Own (env:Env) (x:Str):Prop:=env.kindOf x=some .local∨(env.kindOf x=some .cell∧∃ c,env.cells.lookup x=some c∧env.locals < c)
structure Sx (prog:Program) (w:World) (s₀:Shared) (env:Env) (M X:List Addr) (τ:List (Str×Bd)) (ω:List (Addr×OD)) (s:Shared):Prop where
 cx:Cx prog w env X τ ω s
 base:Keep M s₀ s
 sub:∀ a∈M,a∈X
 mloc:env.locals∈M
 mcel:∀ p∈env.cells,env.locals < p.2→p.2∈M
 mown:∀ p∈ω,p.1∈M
theorem Sx.keep (S:Sx prog w s₀ env M X τ ω s) (k:Keep [] s s'):Sx prog w s₀ env M X τ ω s':=⟨S.cx.keep k,S.base.trans k.any,S.sub,S.mloc,S.mcel,S.mown⟩
theorem Cx.turn (c:Cx prog w env X τ ω s) {Y:List Addr} (k:Keep Y s s') (hy:∀ a∈Y,a∈X) (h1:∃ m,s'.heap.Ns env.locals m) (h2:∀ p∈env.cells,∃ v,s'.heap.IsCell p.2 v)
  {τ':List (Str×Bd)} {ω':List (Addr×OD)} (hv:∀ x b,τ'.lookup x=some b→∃ v,VarAt s'.heap env x v∧BdOk prog w s.heap X b v)
  (ho:∀ p∈ω',OwnAt prog w s'.heap X p.1 p.2∧p.1∈X∧p.1≠env.locals∧∀ c∈env.cells,c.2≠p.1):Cx prog w env X τ' ω' s':=by
 refine ⟨c.ok,h1,h2,fun x b e=>?_,c.top.mv fun a o hl Z e=>k.heap a o (fun hm=>absurd (c.xhi a (hy a hm)) (Nat.not_le.mpr hl)) e,c.xlt.keep k,c.xhi,ho⟩
 refine ex12 (hv x b e) fun v h3 h4=>?_
 exact ⟨v,h3,h4.keep (k.more hy)⟩
theorem Cx.ownKeep (c:Cx prog w env X τ ω s) {Y:List Addr} (k:Keep Y s s') (hy:∀ a∈Y,a∈X) (h:∀ p∈ω,∀ o,s.heap.get? p.1=some o→s'.heap.get? p.1=some o) :
  ∀ p∈ω,OwnAt prog w s'.heap X p.1 p.2∧p.1∈X∧p.1≠env.locals∧∀ c∈env.cells,c.2≠p.1:=fun p hp =>
 ⟨(c.own p hp).1.mv (fun b o hb e=>⟨hb,k.heap b o (fun hm=>hb (hy b hm)) e⟩) (h p hp),(c.own p hp).2⟩
theorem Sx.store (S:Sx prog w s₀ env M X τ ω s) {x:Str} {b:Bd} {v:Value} {Q:Unit→Shared→Prop}
  (hx:Own env x) (hb:BdOk prog w s.heap X b v)
  (h:∀ s',Keep M s s'→Sx prog w s₀ env M X ((x,b)::τ) ω s'→Q () s'):WP prog w A (storeName env x v) Q s:=by
 revert S hx hb h
 revert prog w A env M X τ ω s s₀ x b v Q;refine @(dr14 ?_);exists w14 _ _,prog,w,A,env,M,X,τ,ω,s,s₀,x,b,v,Q
 intro S hx hb h
 have c:=S.cx
 refine ex11 c.ns fun m hm=>?_
 rcases hx with hx | ⟨hx,hc⟩
 ·refine wpAny_storeName_local hx hm (fun h' hn hs=>?_) (by rw [c.ok.kind];rfl)
  have k:Keep M s { s with heap:=h',toks:=s.toks + 1 }:=Keep.sameBut hs S.mloc (bV hn)
  refine h _ k ⟨c.turn k S.sub ⟨_,hn⟩ (fun p hp=>?_) (fun y b' e=>?_) ?_,S.base.trans k,S.sub,S.mloc,S.mcel,S.mown⟩
  ·refine ex11 (c.cells p hp) fun v' hv'=>?_
   exact ⟨v',aA hv' fun o e=>(hs.2 _ (c.ok.cel p hp).2).trans e⟩
  ·by_cases hy:y=x
   ·subst hy
    rw [List.lookup_cons,beq_self_eq_true] at e
    refine sE e fun e=>?_;subst e
    exact ⟨v,.inl ⟨hx,_,hn,by simp⟩,hb⟩
   ·rw [List.lookup_cons,beq_eq_false_iff_ne.mpr hy] at e
    refine ex12 (c.vars y b' e) fun v' h1 h2=>?_
    refine ⟨v',?_,h2⟩
    rcases h1 with ⟨hk,m',hm',hv'⟩ | ⟨hk,a,ha,hv'⟩
    ·exact .inl ⟨hk,_,hn,by rw [if_neg hy,gE hm hm'];exact hv'⟩
    ·exact .inr ⟨hk,a,ha,aA hv' fun o e=>(hs.2 _ (c.ok.cel _ (ak ha)).2).trans e⟩
  ·exact c.ownKeep k S.sub fun p hp o e=>(hs.2 _ (c.own p hp).2.2.1).trans e
 ·refine ex12 hc fun a ha hlt=>?_;clear hc
  refine ex11 (c.cells _ (ak ha)) fun vO hvO=>?_
  have hal:=(c.ok.cel _ (ak ha)).2
  refine wpAny_storeName_cell c.ok.kind hx ha hvO fun h' hn hs=>?_
  have k:Keep M s { s with heap:=h' }:=Keep.sameBut (tk:=s.toks) hs (S.mcel _ (ak ha) hlt) (bI hn)
  refine h _ k ⟨c.turn k S.sub ⟨m,aW hm fun o e=>(hs.2 _ (Ne.symm hal)).trans e⟩ (fun p hp=>?_) (fun y b' e=>?_) ?_,S.base.trans k,S.sub,S.mloc,S.mcel,S.mown⟩
  ·by_cases hp2:p.2=a
   ·exact ⟨some v,hp2 ▸ hn⟩
   ·refine ex11 (c.cells p hp) fun v' hv'=>?_
    exact ⟨v',aA hv' fun o e=>(hs.2 _ hp2).trans e⟩
  ·by_cases hy:y=x
   ·subst hy
    rw [List.lookup_cons,beq_self_eq_true] at e
    refine sE e fun e=>?_;subst e
    exact ⟨v,.inr ⟨.inl hx,a,ha,hn⟩,hb⟩
   ·rw [List.lookup_cons,beq_eq_false_iff_ne.mpr hy] at e
    refine ex12 (c.vars y b' e) fun v' h1 h2=>?_
    refine ⟨v',?_,h2⟩
    rcases h1 with ⟨hk,m',hm',hv'⟩ | ⟨hk,a',ha',hv'⟩
    ·exact .inl ⟨hk,m',aW hm' fun o e=>(hs.2 _ (Ne.symm hal)).trans e,hv'⟩
    ·refine .inr ⟨hk,a',ha',aA hv' fun o e=>(hs.2 _ fun z=>hy ?_).trans e⟩
     have:=kD c.ok.inj (ak ha') (ak ha) z
     exact congrArg Prod.fst this
  ·exact c.ownKeep k S.sub fun p hp o e=>(hs.2 _ (Ne.symm ((c.own p hp).2.2.2 _ (ak ha)))).trans e
theorem Sx.names {τ':List (Str×Bd)} (S:Sx prog w s₀ env M X τ ω s) (h:∀ x b,τ'.lookup x=some b→τ.lookup x=some b):Sx prog w s₀ env M X τ' ω s:=by
 obtain ⟨⟨h1,h2,h3,h4,h5,h6,h7,h12⟩,h8,h9,h10,h11,h13⟩:=S
 exact ⟨⟨h1,h2,h3,fun x b e=>h4 x b (h x b e),h5,h6,h7,h12⟩,h8,h9,h10,h11,h13⟩
noncomputable def Covers (τ:List (Str×Bd)):List (Str×Bd)→Prop
 | []=>True
 | p::r=>τ.lookup p.1=some p.2∧Covers τ r
theorem cE {τ:List (Str×Bd)}:∀ {τ':List (Str×Bd)},Covers τ τ'→∀ x b,τ'.lookup x=some b→τ.lookup x=some b
 | [],_,_,_,e=>by exact nO e
 | p::r,h,x,b,e=>by
  rw [List.lookup_cons] at e
  cases hx:x == p.1 with
  | true=>rw [hx] at e;refine sE e fun e=>?_;subst e;rw [eq_of_beq hx];exact h.1
  | false=>rw [hx] at e;exact cE h.2 x b e
theorem Sx.cover {τ':List (Str×Bd)} (S:Sx prog w s₀ env M X τ ω s) (h:Covers τ τ'):Sx prog w s₀ env M X τ' ω s:=S.names (cE h)
theorem BdOk.beyond {X Y:List Addr} {h:Heap} (hs:∀ a∈Y,a∈X∨h.get? a=none):∀ {b:Bd} {v:Value},BdOk prog w h X b v→BdOk prog w h Y b v
 | .d _,_,x=>Rd.beyond x hs
 | .v _,_,x=>x
theorem BdOk.less {X Y:List Addr} {h:Heap} (hs:∀ a∈Y,a∈X):∀ {b:Bd} {v:Value},BdOk prog w h X b v→BdOk prog w h Y b v
 | .d _,_,x=>Rd.less x hs
 | .v _,_,x=>x
theorem Sx.own (S:Sx prog w s₀ env M X τ ω s) {a:Addr} (od:OD) (hn:s.heap.get? a=none) (k:Keep [] s s') (ho:OwnAt prog w s'.heap (a::X) a od) (hi:178≤a):Sx prog w s₀ env (a::M) (a::X) τ ((a,od)::ω) s':=by
 revert S hn k ho hi
 revert prog w env M X τ ω s s' s₀ a od;refine @(dr12 ?_);exists w12 _ _,prog,w,env,M,X,τ,ω,s,s',s₀,a,od
 intro S hn k ho hi
 have S':=S.keep k
 have hne:∀ b,(s.heap.get? b).isSome=true→a≠b:=fun b hb e=>by subst e;rw [hn] at hb;exact nB hb
 have hnb:∀ b∈a::X,b∈X∨s.heap.get? b=none:=fun b hb=>by
  refine mC hb (fun Z1=>?_) fun hb=>?_;subst Z1
  ·exact .inr hn
  ·exact .inl hb
 obtain ⟨⟨⟨o1,o2,o3,o4,o5,o6⟩,h2,h3,h4,h5,h6,h7,h12⟩,h8,h9,h10,h11,h13⟩:=S'
 refine ⟨⟨⟨o1,o2,o3,.tail _ o4,fun p hp=>⟨.tail _ (o5 p hp).1,(o5 p hp).2⟩,o6⟩,h2,h3,fun x b e=>?_,h5,fun b hb=>?_,fun b hb=>?_,fun p hp=>?_⟩,h8.more fun x hx=>.tail _ hx,fun b hb=>?_,.tail _ h10,fun p hp hlt=>.tail _ (h11 p hp hlt),fun p hp=>?_⟩
 ·refine ex12 (S.cx.vars x b e) fun v h12 h13=>?_
  exact ⟨v,h12.mv fun b o e=>k.heap b o (fun h=>nomatch h) e,(h13.beyond (Y:=a::X) hnb).keep k.any⟩
 ·refine mC hb (fun Z1=>?_) fun hb=>?_;subst Z1
  ·exact ho.live
  ·exact h6 b hb
 ·refine mC hb (fun Z1=>?_) fun hb=>?_;subst Z1
  ·exact hi
  ·exact h7 b hb
 ·refine mC hp (fun Z1=>?_) fun hp=>?_;subst Z1
  ·refine ex11 S.cx.ns fun m hm=>?_
   exact ⟨ho,.head _,hne _ (bV hm),fun c hc=>by
    refine ex11 (S.cx.cells c hc) fun v hv=>?_
    exact Ne.symm (hne _ (bI hv))⟩
  ·refine br (S.cx.own p hp) fun q1 q2 q3=>?_
   refine ⟨q1.mv (fun b o hb e=>⟨fun hm=>?_,k.heap b o (fun h=>nomatch h) e⟩) fun o e=>k.heap _ o (fun h=>nomatch h) e,.tail _ q2,q3⟩
   refine bQ (hnb b hm) (fun h=>?_) fun h=>?_
   ·exact hb h
   ·rw [h] at e;exact nO e
 ·refine mC hb (fun Z1=>?_) fun hb=>?_;subst Z1
  ·exact .head _
  ·exact .tail _ (h9 b hb)
 ·refine mC hp (fun Z1=>?_) fun hp=>?_;subst Z1
  ·exact .head _
  ·exact .tail _ (h13 p hp)
theorem Sx.owns {ω':List (Addr×OD)} (S:Sx prog w s₀ env M X τ ω s) (h:∀ p∈ω',p∈ω):Sx prog w s₀ env M X τ ω' s:=by
 obtain ⟨⟨h1,h2,h3,h4,h5,h6,h7,h12⟩,h8,h9,h10,h11,h13⟩:=S
 exact ⟨⟨h1,h2,h3,h4,h5,h6,h7,fun p hp=>h12 p (h p hp)⟩,h8,h9,h10,h11,fun p hp=>h13 p (h p hp)⟩
theorem Sx.put (S:Sx prog w s₀ env M X τ ω s) {a:Addr} {od od':OD} {ω1 ω2:List (Addr×OD)} (e:ω=ω1++(a,od)::ω2) (hne:∀ p∈ω1++ω2,p.1≠a) {h':Heap} {tk:Nat} (hs:Heap.SameBut a s.heap h')
  (ho:OwnAt prog w h' X a od'):Sx prog w s₀ env M X τ (ω1++(a,od')::ω2) { s with heap:=h',toks:=tk }:=by
 revert S e hne hs ho
 revert s₀ a od od' ω1 ω2 h' tk
 revert prog w env M X τ ω s;refine @(dr8 ?_);exists w8 _ _,prog,w,env,M,X,τ,ω,s
 intro s₀ a od od' ω1 ω2 h' tk
 revert s₀ a od od' ω1 ω2 h' tk;refine @(dr8 ?_);exists w8 _ _,s₀,a,od,od',ω1,ω2,h',tk
 intro S e hne hs ho
 have hm:(a,od)∈ω:=by rw [e];simp
 refine dS (S.cx.own _ hm) fun q1 q2 q3 q4=>?_
 have k:Keep [a] s { s with heap:=h',toks:=tk }:=Keep.sameBut hs (.head _) ho.live
 have hsub:∀ b∈[a],b∈X:=fun b hb=>by rw [mS hb];exact q2
 refine ex11 S.cx.ns fun m hm'=>?_
 have hself:∀ p∈ω1++ω2,p∈ω:=fun p hp=>by
  rw [e]
  refine mA hp (fun hp=>?_) fun hp=>?_
  ·exact mL hp
  ·exact mR (.tail _ hp)
 refine ⟨S.cx.turn k hsub ⟨m,aW hm' fun o e=>(hs.2 _ (Ne.symm q3)).trans e⟩ (fun p hp=>?_) (fun x b e=>?_) fun p hp=>?_,S.base.trans (k.more fun b hb=>by rw [mS hb];exact S.mown _ hm),S.sub,S.mloc,S.mcel,fun p hp=>?_⟩
 ·refine ex11 (S.cx.cells p hp) fun v hv=>?_
  exact ⟨v,aA hv fun o e=>(hs.2 _ (q4 p hp)).trans e⟩
 ·refine ex12 (S.cx.vars x b e) fun v h1 h2=>?_
  refine ⟨v,?_,h2⟩
  rcases h1 with ⟨hk,m',hm',hv'⟩ | ⟨hk,c,hc,hv'⟩
  ·exact .inl ⟨hk,m',aW hm' fun o e=>(hs.2 _ (Ne.symm q3)).trans e,hv'⟩
  ·exact .inr ⟨hk,c,hc,aA hv' fun o e=>(hs.2 _ (q4 _ (ak hc))).trans e⟩
 ·have:p∈ω1++ω2∨p=(a,od'):=by
   refine mA hp (fun hp=>?_) fun hp=>?_
   ·exact .inl (mL hp)
   ·refine mC hp (fun Z1=>?_) fun hp=>?_;subst Z1
    ·exact .inr rfl
    ·exact .inl (mR hp)
  rcases this with hp | rfl
  ·have z:=S.cx.own p (hself p hp)
   exact ⟨z.1.mv (fun b o hb e=>⟨hb,(hs.2 b fun z=>hb (z ▸ q2)).trans e⟩) fun o e=>(hs.2 _ (hne p hp)).trans e,z.2⟩
  ·exact ⟨ho,q2,q3,q4⟩
 ·refine mA hp (fun hp=>?_) fun hp=>?_
  ·exact S.mown p (hself p (mL hp))
  ·refine mC hp (fun Z1=>?_) fun hp=>?_;subst Z1
   ·exact S.mown (a,od) hm
   ·exact S.mown p (hself p (mR hp))
theorem Sx.hi_size (S:Sx prog w s₀ env M X τ ω s):178≤s.heap.objs.size:=by
 have h1:=S.cx.xhi _ (S.sub _ S.mloc)
 refine ex11 S.cx.ns fun m hm=>?_
 exact Nat.le_trans h1 (Nat.le_of_lt hm.lt)
noncomputable def c5 (prog:Program) (w:World) (A:Around) (env:Env) (rest:List Stmt) (Q:Flow→Shared→Prop) (f:Flow) (s:Shared):Prop:=match f with
 | .next=>WP prog w A (execs rest env) Q s
 | f=>Q f s
theorem aK {st:Stmt} {rest:List Stmt} {Q:Flow→Shared→Prop} (h:WP prog w A (exec st env) (c5 prog w A env rest Q) s):WP prog w A (execs (st::rest) env) Q s :=
 wpAny_execs_cons (wpAny_mono h (fun f s' p=>by cases f <;> exact p) fun Z Z z=>z)
theorem ax {Q:Flow→Shared→Prop} (h:Q .next s):WP prog w A (execs [] env) Q s:=wpAny_execs_nil h
theorem dT (S:Sx prog w s₀ env M X τ ω s) {x:Str} {px p:Pos} {e:Expr} {rest:List Stmt} {Q:Flow→Shared→Prop} (b:Bd) (hx:Own env x)
  (he:Ev prog w A env e s fun s v=>BdOk prog w s.heap X b v) (h:∀ s',Sx prog w s₀ env M X ((x,b)::τ) ω s'→WP prog w A (execs rest env) Q s')
  (hs:autoParam (swapsWith e (some (.Name x px)) p.line env=pure false) cT._auto_1):WP prog w A (execs (.Assign [.Name x px] e p::rest) env) Q s :=
 aK (wpAny_Assign_Name (he.go fun v s₁ k₁ h₁=>(S.keep k₁).store hx h₁ fun s' k S'=>h s' S') hs)
theorem ca (S:Sx prog w s₀ env M X τ ω s) {e:Expr} {p:Pos} {rest:List Stmt} {Q:Flow→Shared→Prop} {P:Shared→Value→Prop}
  (he:Ev prog w A env e s P) (h:∀ s' v,Sx prog w s₀ env M X τ ω s'→P s' v→Q (.ret v) s'):WP prog w A (execs (.Return (some e) p::rest) env) Q s :=
 aK (wpAny_Return_some (he.go fun v s₁ k₁ h₁=>h s₁ v (S.keep k₁) h₁))
theorem ik (S:Sx prog w s₀ env M X τ ω s) {t:Expr} {b o:List Stmt} {p:Pos} {rest:List Stmt} {Q:Flow→Shared→Prop} (c:Bool) (ht:EvT prog w A env s t c)
  (hb:c=true→∀ s',Sx prog w s₀ env M X τ ω s'→WP prog w A (execs b env) (c5 prog w A env rest Q) s')
  (ho:c=false→∀ s',Sx prog w s₀ env M X τ ω s'→WP prog w A (execs o env) (c5 prog w A env rest Q) s'):WP prog w A (execs (.If t b o p::rest) env) Q s :=
 aK (wpAny_If (ht.go fun s₁ k₁=>by
  cases c with
  | true=>exact hb rfl s₁ (S.keep k₁)
  | false=>exact ho rfl s₁ (S.keep k₁)))
theorem jB (S:Sx prog w s₀ env M X τ ω s) {x:Str} {px p:Pos} {op:Operator} {e:Expr} {rest:List Stmt} {Q:Flow→Shared→Prop} {a b d:D}
  (hx:Own env x) (ha:τ.lookup x=some (.d a)) (he:EvD prog w A env X s e b) (ho:cv prog w A X (inplaceOp op) a b d)
  (h:∀ s',Sx prog w s₀ env M X ((x,.d d)::τ) ω s'→WP prog w A (execs rest env) Q s'):WP prog w A (execs (.AugAssign (.Name x px) op e p::rest) env) Q s:=by
 refine aK (wpAny_AugAssign_Name ?_)
 refine ex12 (S.cx.vars x _ ha) fun v h1 h2=>?_
 refine ij S.cx.ok h1 (he.go fun u s₁ k₁ hu=>?_)
 have S1:=S.keep k₁
 refine wpAny_mono (ho s₁ v u S1.cx.gd (Rd.keep (d:=a) h2 k₁.any) hu) (fun r s₂ hr=>?_) fun Z Z z=>z
 exact (S1.keep hr.1).store hx (b:=.d d) hr.2 fun s' k S'=>h s' S'
theorem dL {a b:Int}:cv prog w A X (inplaceOp .Add) (.int a) (.int b) (.int (a + b)):=fun s u v Z h1 h2=>by
 refine h1.intE fun t Z1=>?_;subst Z1;refine h2.intE fun t' Z1=>?_;subst Z1
 exact PyProof.Rows.iadd_int ⟨Keep.toks,Rd.int_⟩
theorem kE (S:Sx prog w s₀ env M X τ ω s) {e:Expr} {p:Pos} {rest:List Stmt} {Q:Flow→Shared→Prop}
  (h:WP prog w A (eval e env) (fun Z s'=>WP prog w A (execs rest env) Q s') s) (hs:autoParam (swapsWith e none p.line env=pure false) cT._auto_1):WP prog w A (execs (.Expr e p::rest) env) Q s :=
 aK (wpAny_Expr_any h (by unfold interactive;rw [S.cx.ok.kind];rfl) hs)
inductive Args3 (prog:Program) (w:World) (h:Heap) (X:List Addr):List Bd→List Value→Prop
 | nil:Args3 prog w h X [] []
 | cons {b:Bd} {bs:List Bd} {v:Value} {vs:List Value}:BdOk prog w h X b v→Args3 prog w h X bs vs→Args3 prog w h X (b::bs) (v::vs)
theorem fw {prog:Program} {w:World} {h:Heap} {X:List Addr}:∀ {ns:List Str} {bs:List Bd} {vs:List Value},Args3 prog w h X bs vs→∀ x b,(ns.zip bs).lookup x=some b→∃ v,(ns.zip vs).lookup x=some v∧BdOk prog w h X b v
:=by
 intro ns
 induction ns with
 | nil=>intro Z Z Z Z Z e;exact nO e
 | cons n ns ih =>
  intro Z Z a x b e
  cases a with
  | nil=>exact nO e
  | cons h1 h2 =>
   rw [List.zip_cons_cons,List.lookup_cons] at e ⊢
   cases hx:x == n with
   | true=>rw [hx] at e;refine sE e fun e=>?_;subst e;exact ⟨_,rfl,h1⟩
   | false=>rw [hx] at e;exact ih h2 x b e
theorem fy {kindOf:Str→Option NameKind}:∀ {l:List (Str×Value)} {m:Str→Option Value} {x:Str} {v:Value},(l.map (·.1)).Nodup→(x,v)∈l→kindOf x=some .local→bindL kindOf l m x=some v
 | [],_,_,_,_,hm,_=>nomatch hm
 | (n,u)::r,m,x,v,hn,hm,hk=>by
  rw [List.map_cons,List.nodup_cons] at hn
  refine mC hm (fun e=>?_) fun hm=>?_
  ·cases e
   show bindL kindOf r _ n=some u
   rw [if_pos hk]
   have:∀ (r:List (Str×Value)) (m:Str→Option Value),n∉r.map (·.1)→m n=some u→bindL kindOf r m n=some u:=by
    intro r
    induction r with
    | nil=>intro m Z h;exact h
    | cons p r ih =>
     intro m h1 h2
     rw [List.map_cons,List.mem_cons,not_or] at h1
     refine ih _ h1.2 ?_
     by_cases hp:kindOf p.1=some .local
     ·simp only [hp,if_true];rw [if_neg h1.1];exact h2
     ·simp only [hp,if_false];exact h2
   exact this r _ hn.1 (by simp)
  ·show bindL kindOf r _ x=some v
   exact fy hn.2 hm hk
theorem fz {kindOf:Str→Option NameKind}:∀ {l:List (Str×Value)} {m:Str→Option Value} {x:Str} {v:Value},(l.map (·.1)).Nodup→(x,v)∈l→kindOf x=some .cell→bindC kindOf l m x=some v
 | [],_,_,_,_,hm,_=>nomatch hm
 | (n,u)::r,m,x,v,hn,hm,hk=>by
  rw [List.map_cons,List.nodup_cons] at hn
  have hnl:¬ kindOf x=some .local:=by rw [hk];intro z;cases z
  refine mC hm (fun e=>?_) fun hm=>?_
  ·cases e
   show bindC kindOf r _ n=some u
   rw [if_neg hnl]
   have:∀ (r:List (Str×Value)) (m:Str→Option Value),n∉r.map (·.1)→m n=some u→bindC kindOf r m n=some u:=by
    intro r
    induction r with
    | nil=>intro m Z h;exact h
    | cons p r ih =>
     intro m h1 h2
     rw [List.map_cons,List.mem_cons,not_or] at h1
     refine ih _ h1.2 ?_
     by_cases hp:kindOf p.1=some .local
     ·simp only [hp,if_true];exact h2
     ·simp only [hp,if_false];rw [if_neg h1.1];exact h2
   exact this r _ hn.1 (by simp)
  ·show bindC kindOf r _ x=some v
   exact fz hn.2 hm hk
theorem cP {n:Nat}:∀ {l:List (Str×NameKind)} {m:Nat} {acc:List (Str×Addr)},n≤m→(∀ p∈acc,n≤p.2)→∀ p∈cellsFrom m l acc,n≤p.2
 | [],_,_,_,ha,p,hp=>ha p hp
 | (x,k)::r,m,acc,hm,ha,p,hp=>by
  unfold cellsFrom at hp
  by_cases hk:(k == NameKind.cell)=true
  ·rw [if_pos hk] at hp
   refine cP (Nat.le_succ_of_le hm) (fun q hq=>?_) p hp
   refine mC hq (fun Z1=>?_) fun hq=>?_;subst Z1
   ·exact hm
   ·exact ha q hq
  ·rw [if_neg hk] at hp;exact cP hm ha p hp
noncomputable def dU:Flow→Value
 | .ret v=>v
 | _=>.none
theorem c6 {s s':Shared} {L:Addr} {m:Str→Option Value} (x:InCall s L m s'):Keep [] s s':=by
 obtain ⟨⟨h,tk,e⟩,_,k,_⟩:=x
 subst e
 exact Keep.ext k
theorem kF {α β:Type} [BEq α] [LawfulBEq α] {ns:List α} {vs:List β} {x:α} {v:β} (e:(ns.zip vs).lookup x=some v):(x,v)∈ns.zip vs:=ak e
theorem dW {α β:Type}:∀ {ns:List α} {vs:List β},ns.Nodup→((ns.zip vs).map (·.1)).Nodup
 | [],_,_=>by simp
 | n::ns,[],_=>by simp
 | n::ns,v::vs,h=>by
  rw [List.nodup_cons] at h
  rw [List.zip_cons_cons,List.map_cons,List.nodup_cons]
  refine ⟨fun hm=>h.1 ?_,dW h.2⟩
  refine mM hm fun p hp e=>?_
  have:=(List.of_mem_zip hp).1
  rw [e] at this;exact this
theorem cF {l:List (Str×Addr)} (hn:(l.map (·.1)).Nodup) {p:Str×Addr} (h:p∈l):l.lookup p.1=some p.2:=by
 induction l with
 | nil=>exact nM h
 | cons q r ih =>
  rw [List.map_cons,List.nodup_cons] at hn
  rw [List.lookup_cons]
  refine mC h (fun e=>?_) fun h=>?_
  ·rw [e,beq_self_eq_true]
  ·have:(p.1 == q.1)=false:=beq_eq_false_iff_ne.mpr fun e=>hn.1 (e ▸ List.mem_map_of_mem h)
   rw [this];exact ih hn.2 h
theorem cy:∀ (l:List (Str×NameKind)) (n m:Nat) (acc acc':List (Str×Addr)),acc.map (·.1)=acc'.map (·.1)→(cellsFrom n l acc).map (·.1)=(cellsFrom m l acc').map (·.1)
 | [],_,_,_,_,e=>e
 | (y,k)::r,n,m,acc,acc',e=>by
  unfold cellsFrom
  by_cases hk:(k == NameKind.cell)=true
  ·rw [if_pos hk,if_pos hk];exact cy r _ _ _ _ (by rw [List.map_cons,List.map_cons,e])
  ·rw [if_neg hk,if_neg hk];exact cy r _ _ _ _ e
theorem dX {l l':List (Str×Addr)} (e:l.map (·.1)=l'.map (·.1)) (x:Str):(l.lookup x).isSome=(l'.lookup x).isSome:=by
 induction l generalizing l' with
 | nil=>cases l' with
  | nil=>rfl
  | cons=>cases e
 | cons p r ih =>
  cases l' with
  | nil=>cases e
  | cons q r' =>
   rw [List.map_cons,List.map_cons,List.cons.injEq] at e
   rw [List.lookup_cons,List.lookup_cons,e.1]
   cases x == q.1 with
   | true=>rfl
   | false=>exact ih e.2
theorem fA {a:Addr} {nm qual:Str} {params:Arguments} {body:List Stmt} {scope:Scope} {args:List Value} {bs:List Bd} {names:List Str} {X0:List Addr} {Q:Value→Shared→Prop}
  (fa:FnAt s.heap a nm qual params body scope) (g:Gd X0 s) (hd:A.depth < recursionLimit) (hA:Args3 prog w s.heap X0 bs args)
  (h:∀ env M s₁,env.scope=scope→(∀ x∈M,s.heap.get? x=none)→(∀ p∈env.cells,env.locals < p.2)→(∀ x,(env.cells.lookup x).isSome=((cellsFrom 0 scope.names []).lookup x).isSome)→Sx prog w s env M (M++X0) (names.zip bs) [] s₁→s₁.gens=s.gens →
   WP prog w (A.deeper env) (execs body env) (fun f s'=>Q (dU f) s') s₁)
  (hbind:∀ doc pm c,bindArgs (fnOf nm qual params body scope .none .none doc pm none (.ref c) .none) ⟨args,[]⟩=pure (names.zip args))
  (hkind:((names.zip args).all fun y=>scope.names.lookup y.1 == some .local || scope.names.lookup y.1 == some .cell)=true)
  (hnd:names.Nodup) (hcn:((cellsFrom 0 scope.names []).map (·.1)).Nodup)
  (hk:scope.kind=.function) (hco:scope.isCoroutine=false) (hgen:scope.isGenerator=false):codeAny (model prog w) A (.call (.ref a) ⟨args,[]⟩) (fun r s'=>match r with | .ok (.ret v)=>Q v s' | .ok _=>False | .error _=>False) s:=by
 revert fa g hd hA h hbind hkind hnd hcn hk hco hgen
 revert body scope args bs names X0 Q
 revert prog w A s a nm qual params;refine @(dr8 ?_);exists w8 _ _,prog,w,A,s,a,nm,qual,params
 intro body scope args bs names X0 Q
 revert body scope args bs names X0 Q;refine @(dr7 ?_);exists w7 _ _,body,scope,args,bs,names,X0,Q
 intro fa g hd hA h hbind hkind hnd hcn hk hco hgen
 obtain ⟨top,hl,hh⟩:=g
 have hz:=top.size
 obtain ⟨lo,⟨doc,pm,c,oc,vs,t,h1,h2,h3,h4,h5,h6⟩,ne⟩:=fa
 refine codeAny_call_function (fd:=fnOf nm qual params body scope .none .none doc pm none (.ref c) .none) (body:=body) hd h1 rfl hco hgen rfl ⟨c,oc,vs,t,rfl,h4,h5,h6⟩ ?_
 rw [hbind]
 refine wpAny_pure (wpAny_newFunctionEnv_cells hk (kindsX hkind _) fun env he s₁ hs=>?_)
 have k:=c6 hs.toInCall
 have kk:∀ b o,s.heap.get? b=some o→s₁.heap.get? b=some o:=fun b o e=>k.heap b o (fun h=>nomatch h) e
 have hsc:env.scope=scope:=by rw [he];rfl
 have hcl:env.cells=cellsFrom (s.heap.objs.size + 1) scope.names []:=by rw [he];rfl
 have hlo:env.locals=s.heap.objs.size:=by rw [he];rfl
 have hge:∀ p∈env.cells,s.heap.objs.size + 1≤p.2:=by rw [hcl];exact cP (Nat.le_refl _) fun p hp=>nomatch hp
 have hnm:env.cells.map (·.1)=(cellsFrom 0 scope.names []).map (·.1):=by rw [hcl];exact cy _ _ _ _ _ rfl
 have hnew:∀ x∈env.locals::env.cells.map (·.2),s.heap.get? x=none:=fun x hx=>by
  refine mC hx (fun Z1=>?_) fun hx=>?_;subst Z1
  ·rw [hlo];exact af _
  ·refine mM hx fun p hp Z1=>?_;subst Z1
   exact aU (Nat.le_of_succ_le (hge p hp))
 have hcell:∀ p∈env.cells,∃ v,s₁.heap.IsCell p.2 v:=fun p hp=>⟨_,hs.cell p.1 p.2 (cF (by rw [hnm];exact hcn) hp)⟩
 have hlow:∀ x∈env.locals::env.cells.map (·.2),178≤x:=fun x hx=>by
  refine mC hx (fun Z1=>?_) fun hx=>?_;subst Z1
  ·rw [hlo];exact hz
  ·refine mM hx fun p hp Z1=>?_;subst Z1
   exact Nat.le_trans hz (Nat.le_of_succ_le (hge p hp))
 have hliv:Liv (env.locals::env.cells.map (·.2)) s₁.heap:=fun x hx=>by
  refine mC hx (fun Z1=>?_) fun hx=>?_;subst Z1
  ·exact bV hs.toInCall.ns
  ·refine mM hx fun p hp Z1=>?_;subst Z1
   refine ex11 (hcell p hp) fun v hv=>?_
   exact bI hv
 have hgn:s₁.gens=s.gens:=by
  refine ex21 hs.toInCall.same fun h₁ tk e=>?_
  rw [e]
 refine ⟨?_,codeAny_func (wpAny_mono (h env (env.locals::env.cells.map (·.2)) s₁ hsc hnew (fun p hp=>by rw [hlo];exact hge p hp) (fun x=>dX hnm x) ⟨⟨⟨by rw [hsc];exact hk,by rw [he];rfl,by rw [he];rfl,.head _,fun p hp=>⟨mL (.tail _ (List.mem_map_of_mem hp)),?_⟩,hs.apart⟩,⟨_,hs.toInCall.ns⟩,hcell,fun x b e=>?_,top.mv fun b o Z Z e=>kk b o e,fun x hx=>?_,fun x hx=>?_,fun p hp=>nomatch hp⟩,
  k.any,fun x hx=>mL hx,.head _,fun p hp Z=>.tail _ (List.mem_map_of_mem hp),fun p hp=>nomatch hp⟩ hgn) (fun f s' q=>?_) fun Z Z z=>z.elim)⟩
 ·refine ex12 top.lim fun mc c1 c2=>?_
  exact ⟨mc,aW c1 fun o=>kk _ o,c2⟩
 ·rw [hlo];exact Nat.ne_of_gt (hge p hp)
 ·refine ex12 (fw hA x b e) fun v hv hb=>?_
  have hm:=kF hv
  refine ⟨v,?_,(hb.beyond (Y:=(env.locals::env.cells.map (·.2))++X0) fun y hy=>?_).keep k.any⟩
  ·have hkx:=List.all_eq_true.mp hkind _ hm
   have hko:env.kindOf x=scope.names.lookup x:=by unfold Env.kindOf;rw [hsc]
   refine bQ (Bool.or_eq_true_iff.mp hkx) (fun q=>?_) fun q=>?_
   ·have q':env.kindOf x=some .local:=by rw [hko];simpa using q
    exact .inl ⟨q',_,hs.toInCall.ns,fy (dW hnd) hm q'⟩
   ·have q':env.kindOf x=some .cell:=by rw [hko];simpa using q
    have hsome:(env.cells.lookup x).isSome=true:=by
     rw [hcl]
     refine bQ (kindsX hkind (s.heap.objs.size + 1) _ hm) (fun z=>?_) fun z=>?_
     ·rw [← hko,q'] at z;cases z
     ·exact z.2
    refine iS hsome fun c' hc'=>?_
    exact .inr ⟨.inl q',c',hc',fz (dW hnd) hm q' ▸ hs.cell x c' hc'⟩
  ·refine mA hy (fun hy=>?_) fun hy=>?_
   ·exact .inr (hnew y hy)
   ·exact .inl hy
 ·refine mA hx (fun hx=>?_) fun hx=>?_
  ·exact hliv x hx
  ·exact hl.keep k x hx
 ·refine mA hx (fun hx=>?_) fun hx=>?_
  ·exact hlow x hx
  ·exact hh x hx
 ·cases f <;> exact q
theorem dY {a:Addr} {nm qual:Str} {params:Arguments} {body:List Stmt} {scope:Scope} {args:List Value} {bs:List Bd} {names:List Str} {X0:List Addr} {Q:Value→Shared→Prop}
  (fa:FnAt s.heap a nm qual params body scope) (g:Gd X0 s) (hd:A.depth < recursionLimit) (hA:Args3 prog w s.heap X0 bs args)
  (h:∀ env M s₁,env.scope=scope→(∀ x∈M,s.heap.get? x=none)→(∀ p∈env.cells,env.locals < p.2)→(∀ x,(env.cells.lookup x).isSome=((cellsFrom 0 scope.names []).lookup x).isSome)→Sx prog w s env M (M++X0) (names.zip bs) [] s₁→s₁.gens=s.gens →
   WP prog w (A.deeper env) (execs body env) (fun f s'=>Q (dU f) s') s₁)
  (hbind:∀ doc pm c,bindArgs (fnOf nm qual params body scope .none .none doc pm none (.ref c) .none) ⟨args,[]⟩=pure (names.zip args))
  (hkind:((names.zip args).all fun y=>scope.names.lookup y.1 == some .local || scope.names.lookup y.1 == some .cell)=true)
  (hnd:names.Nodup) (hcn:((cellsFrom 0 scope.names []).map (·.1)).Nodup)
  (hk:scope.kind=.function) (hco:scope.isCoroutine=false) (hgen:scope.isGenerator=false):WP prog w A (call (.ref a) args []) Q s:=by
 exact wpAny_call (fA fa g hd hA h hbind hkind hnd hcn hk hco hgen)
theorem oZ {α:Type} {P:List α→Prop} {n:Nat} (h:∀ u vs,vs.length=n→P (u::vs)) (vs:List α) (e:vs.length=n + 1):P vs:=by
 cases vs with
 | nil=>nomatch e
 | cons u vs=>exact h u vs (Nat.succ.inj e)
theorem mK {α:Type} {P:List α→Prop} (h:∀ u,P [u]) (vs:List α) (e:vs.length=1):P vs :=
 oZ (fun u vs e=>List.length_eq_zero_iff.mp e ▸ h u) vs e
theorem il {α:Type} {P:List α→Prop} (h:∀ u v,P [u,v]) (vs:List α) (e:vs.length=2):P vs:=by
 exact oZ (fun u vs e=>mK (P:=fun vs=>P (u::vs)) (h u) vs e) vs e
theorem qR {α:Type} {P:List α→Prop} (h:∀ u v z,P [u,v,z]) (vs:List α) (e:vs.length=3):P vs:=by
 exact oZ (fun u vs e=>il (P:=fun vs=>P (u::vs)) (h u) vs e) vs e
theorem tC {α:Type} {P:List α→Prop} (h:∀ u v z y,P [u,v,z,y]) (vs:List α) (e:vs.length=4):P vs:=by
 exact oZ (fun u vs e=>qR (P:=fun vs=>P (u::vs)) (h u) vs e) vs e
structure Ao (k:Nat) (A:Around):Prop where
 h:A.handled=none
 d:A.depth + k≤900
 u:A.units + 10 * k≤9000
theorem Ao.lim {k:Nat} {A:Around} (a:Ao k A):A.depth < recursionLimit:=by have:=a.d;show A.depth < 1000;lia
theorem Ao.deeper {k:Nat} {A:Around} {env:Env} (a:Ao (k + 1) A):Ao k (A.deeper env):=⟨a.h,by have:=a.d;show A.depth + 1 + k≤900;lia,by have:=a.u;show A.units + 3 + 10 * k≤9000;lia⟩
theorem Ao.less {k j:Nat} {A:Around} (a:Ao k A) (h:j≤k):Ao j A:=⟨a.h,by have:=a.d;lia,by have:=a.u;lia⟩
theorem Ao.in1 {k:Nat} {A:Around} (a:Ao (k + 1) A):Ao k A.in1:=⟨a.h,by have:=a.d;show A.depth + k≤900;exact Nat.le_of_lt this,by have:=a.u;show A.units + 1 + 10 * k≤9000;lia⟩
theorem Ao.room {k:Nat} {A:Around} (a:Ao k A):A.units + 64 < cLine:=by have:=a.u;show A.units + 64 < 9900;lia
noncomputable def Fn (prog:Program) (w:World) (k:Nat) (a:Addr) (ds:List D) (r:D):Prop :=
 ∀ (A:Around) (s:Shared) (X:List Addr) (vs:List Value),Ao k A→Gd X s→RdL prog w s.heap X ds vs→WP prog w A (call (.ref a) vs []) (fun v s'=>Keep [] s s'∧Rd prog w s'.heap X r v) s
noncomputable abbrev tD (prog:Program) (w:World) (A:Around) (env:Env) (X:List Addr) (s:Shared) (e:Expr) (b:Bd):Prop :=
 Ev prog w A env e s fun s v=>BdOk prog w s.heap X b v
inductive EvBs (prog:Program) (w:World) (A:Around) (env:Env) (X:List Addr) (s:Shared):List Expr→List Bd→Prop
 | nil:EvBs prog w A env X s [] []
 | cons {e:Expr} {es:List Expr} {b:Bd} {bs:List Bd}:(∀ rest,starEach (e::rest) env=(false,eval e env)::starEach rest env)→tD prog w A env X s e b→EvBs prog w A env X s es bs→EvBs prog w A env X s (e::es) (b::bs)
theorem al:EvBs prog w A env X s [] []:=.nil
theorem aH {e:Expr} {es:List Expr} {d:D} {bs:List Bd} (h:EvD prog w A env X s e d) (r:EvBs prog w A env X s es bs)
  (hs:autoParam (∀ rest,starEach (e::rest) env=(false,eval e env)::starEach rest env) e8._auto_1):EvBs prog w A env X s (e::es) (.d d::bs):=.cons hs h r
theorem qt {e:Expr} {es:List Expr} {d:Value} {bs:List Bd} (h:EvV prog w A env s e d) (r:EvBs prog w A env X s es bs)
  (hs:autoParam (∀ rest,starEach (e::rest) env=(false,eval e env)::starEach rest env) e8._auto_1):EvBs prog w A env X s (e::es) (.v d::bs):=.cons hs h r
theorem EvBs.keep {es:List Expr} {bs:List Bd} (h:EvBs prog w A env X s es bs) (k:Keep [] s s'):EvBs prog w A env X s' es bs:=by
 induction h with
 | nil=>exact .nil
 | cons a b _ ih=>exact .cons a (Ev.keep b k) ih
theorem EvBs.plain {es:List Expr} {bs:List Bd} (h:EvBs prog w A env X s es bs) (pos:Pos):(backTo pos (starEach es env)).any (·.1)=false:=by
 induction h with
 | nil=>rfl
 | cons a _ _ ih=>rw [a];exact ih
theorem EvBs.go {es:List Expr} {bs:List Bd} (h:EvBs prog w A env X s es bs) (pos:Pos) {Q:List Value→Shared→Prop} (hq:∀ vs s',Keep [] s s'→Args3 prog w s'.heap X bs vs→Q vs s') :
  WP prog w A (spliced (backTo pos (starEach es env))) Q s:=by
 induction es generalizing bs s Q with
 | nil=>cases h;exact Calls.spliced_nil (hq [] s (Keep.refl _ _) .nil)
 | cons e es ih =>
  cases h with
  | cons a b r =>
   rw [a]
   exact Calls.spliced_cons (b.go fun v s₁ k₁ h₁=>ih (r.keep k₁) fun vs s₂ k₂ h₂=>hq _ s₂ (k₁.trans k₂) (.cons (h₁.keep k₂.any) h₂))
theorem bW:∀ {ds:List D} {vs:List Value} {h:Heap},Args3 prog w h X (ds.map Bd.d) vs→RdL prog w h X ds vs
:=by
 intro ds
 induction ds with
 | nil=>intro Z Z x;cases x;exact RdL.nil
 | cons d ds ih=>intro Z Z x;cases x with | cons a r=>exact RdL.cons a (ih r)
theorem fB:∀ {ds:List D} {vs:List Value} {h:Heap},RdL prog w h X ds vs→Args3 prog w h X (ds.map Bd.d) vs
 | [],_,_,x=>by unfold RdL at x;subst x;exact .nil
 | d::ds,_,_,x=>by
  refine RdL.consE x fun v r Z1 a b=>?_;clear x;subst Z1
  exact .cons a (fB b)
noncomputable def Kp (prog:Program) (w:World) (f:Value) (h:Heap):Prop:=∃ k,(k=Keeper.frame∨k=Keeper.machine∨k=Keeper.boundFrame)∧Looks (model prog w) h (keeperOf f) k
theorem aJ {id:String} {h:Heap}:Kp prog w (.builtin id) h:=⟨.machine,.inr (.inl rfl),Looks.of_pure rfl⟩
theorem cz {id:String} {h:Heap}:Kp prog w (.type id) h:=⟨.machine,.inr (.inl rfl),Looks.of_pure rfl⟩
theorem fc {a:Addr} {o:Obj} {fd:FuncData} {h:Heap} (ho:h.get? a=some o) (hd:o.data=.func fd):Kp prog w (.ref a) h:=by
 refine ⟨.frame,.inl rfl,?_⟩
 show Looks (model prog w) h (load a >>= fun o=>_) _
 refine (Looks.ld (part:=none) ho).andThen ?_
 simp only [hd]
 exact Looks.now
theorem cG {a:Addr} {i:Nat} {h:Heap} (t:TopOk h) (hm:(a,i)∈defTab):Kp prog w (.ref a) h:=by
 obtain ⟨_,⟨doc,pm,c,oc,vs,t,h1,_⟩,_⟩:=t.fn _ hm
 exact fc h1 rfl
theorem cw {f:Value} {first:List Value} {es:List Expr} {bs:List Bd} {pos:Pos} {Q:Value→Shared→Prop} (hes:EvBs prog w A env X s es bs) (hk:∀ s',Keep [] s s'→Kp prog w f s'.heap)
  (h:∀ vs s',Keep [] s s'→Args3 prog w s'.heap X bs vs→WP prog w A (call f (first++vs) []) Q s'):WP prog w A (callWith pos f first (backTo pos (starEach es env)) []) Q s:=by
 refine callWith_of (P:=Kp prog w f) (by rw [hes.plain pos];rfl) (fun h x=>x) ?_
 cases hes with
 | nil=>exact evalArgs_nil3 ⟨hk s (Keep.refl _ _),h [] s (Keep.refl _ _) .nil⟩
 | cons a b r =>
  have hh:=EvBs.cons a b r
  have hg:=hh.go pos (Q:=fun vs s'=>Kp prog w f s'.heap∧WP prog w A (call f (first++vs) []) Q s') fun vs s' k x=>⟨hk s' k,h vs s' k x⟩
  rw [a] at hg ⊢
  exact Calls.evalArgs_plain hg
theorem bz {f:Str} {q pos:Pos} {es:List Expr} {bs:List Bd} {u:Value} {P:Shared→Value→Prop} (hf:EvV prog w A env s (.Name f q) u) (hes:EvBs prog w A env X s es bs)
  (hk:∀ s',Keep [] s s'→Kp prog w u s'.heap) (h:∀ vs s',Keep [] s s'→Args3 prog w s'.heap X bs vs→WP prog w A (call u vs []) (fun v s''=>Keep [] s' s''∧P s'' v) s') :
  Ev prog w A env (.Call (.Name f q) es [] pos) s P:=fun s' k=>by
 refine wpAny_Call_NameR ((hf.keep k).go fun v s₁ k₁ h₁=>?_)
 subst h₁
 refine cw (hes.keep (k.trans k₁)) (fun s₂ k₂=>hk s₂ ((k.trans k₁).trans k₂)) fun vs s₂ k₂ h₂=>?_
 exact wpAny_mono (h vs s₂ ((k.trans k₁).trans k₂) h₂) (fun v s₃ x=>⟨(k₁.trans k₂).trans x.1,x.2⟩) fun Z Z z=>z
theorem b5 {k i:Nat} {f:Str} {q pos:Pos} {es:List Expr} {ds:List D} {r:D} {a:Addr} (c:Cx prog w env X τ ω s) (ao:Ao k A) (F:Fn prog w k a ds r) (hm:(a,i)∈defTab)
  (hf:EvV prog w A env s (.Name f q) (.ref a)) (hes:EvBs prog w A env X s es (ds.map Bd.d)):EvD prog w A env X s (.Call (.Name f q) es [] pos) r :=
 bz hf hes (fun s' k=>cG (c.keep k).top hm) fun vs s' k h=>F A s' X vs ao (c.keep k).gd (bW h)
theorem c7 {k i:Nat} {a:Addr} {ds:List D} {r:D} {names:List Str} (hm:(a,i)∈defTab)
  (h:∀ (A:Around) (s:Shared) (X:List Addr) (env:Env) (M:List Addr) (s₁:Shared),Ao k A→Gd X s→env.scope=fnScope i→(∀ x∈M,s.heap.get? x=none)→(∀ p∈env.cells,env.locals < p.2)→(∀ x,(env.cells.lookup x).isSome=((cellsFrom 0 (fnScope i).names []).lookup x).isSome) →
   Sx prog w s env M (M++X) (names.zip (ds.map Bd.d)) [] s₁→WP prog w A (execs (fnBody i) env) (fun f s'=>Keep M s s'∧Rd prog w s'.heap X r (dU f)) s₁)
  (hbind:∀ (vs:List Value),vs.length=ds.length→∀ doc pm c,bindArgs (fnOf (fnName i) (fnName i) (fnParams i) (fnBody i) (fnScope i) .none .none doc pm none (.ref c) .none) ⟨vs,[]⟩=pure (names.zip vs))
  (hkind:autoParam ((names.all fun y=>(fnScope i).names.lookup y == some .local || (fnScope i).names.lookup y == some .cell)=true) mE._auto_1)
  (hnd:autoParam (names.Nodup) mE._auto_1) (hcn:autoParam (((cellsFrom 0 (fnScope i).names []).map (·.1)).Nodup) mE._auto_1)
  (hk:autoParam ((fnScope i).kind=.function) mE._auto_1) (hco:autoParam ((fnScope i).isCoroutine=false) mE._auto_1) (hgen:autoParam ((fnScope i).isGenerator=false) mE._auto_1):Fn prog w (k + 1) a ds r:=by
 intro A s X vs ao g hr
 refine dY (bs:=ds.map Bd.d) (names:=names) (g.top.fn _ hm) g ao.lim (fB hr) (fun env M s₁ hsc hnew hcl hcl' S Z=>?_) (hbind vs hr.length) ?_ hnd hcn hk hco hgen
 ·refine wpAny_mono (h (A.deeper env) s X env M s₁ ao.deeper g hsc hnew hcl hcl' S) (fun f s' q=>⟨q.1.drop hnew,q.2⟩) fun Z Z z=>z
 ·rw [List.all_eq_true] at hkind ⊢
  intro p hp
  exact hkind _ (List.of_mem_zip hp).1
theorem dZ {prog:Program} {w:World} {h:Heap} {X:List Addr} {b:Bd} {vs:List Value} (x:Args3 prog w h X [b] vs):∃ v,vs=[v]∧BdOk prog w h X b v:=by
 cases x with
 | cons a r=>cases r;exact ⟨_,rfl,a⟩
theorem tE {prog:Program} {w:World} {h:Heap} {X:List Addr} {d:D} {vs:List Value} (x:Args3 prog w h X [.d d] vs):∃ v,vs=[v]∧Rd prog w h X d v:=dZ x
theorem aO {prog:Program} {w:World} {h:Heap} {X:List Addr} {d:D} {vs:List Value} {G:Prop} (x:Args3 prog w h X [.d d] vs) (k:∀ v,vs=[v]→Rd prog w h X d v→G):G:=ex12 (dZ x) k
theorem mN {prog:Program} {w:World} {h:Heap} {X:List Addr} {d e:D} {vs:List Value} (x:Args3 prog w h X [.d d,.d e] vs):∃ u v,vs=[u,v]∧Rd prog w h X d u∧Rd prog w h X e v:=by
 cases x with
 | cons a r=>(refine aO r fun v Z1 h=>?_;subst Z1);exact ⟨_,_,rfl,a,h⟩
theorem aM:sizeLine=16777216:=rfl
theorem Rd.tup_new {ds:List D} {vs:List Value} {tk:Nat} (g:Gd X s) (h:RdL prog w s.heap X ds vs):Rd prog w (s.heap.push { cls:=.type "tuple",data:=.seq vs.toArray }) X (.tup ds) (.ref s.heap.objs.size) :=
 Rd.tup_ (n:=0) g.fresh (Heap.get?_push_size _ rfl) (RdL.mv (fun a o ha e=>⟨ha,Heap.get?_push_of_some _ e⟩) ds vs h)
theorem Rd.lst_new {ds:List D} {vs:List Value} {tk:Nat} (g:Gd X s) (h:RdL prog w s.heap X ds vs):Rd prog w (s.heap.push { cls:=.type "list",data:=.seq vs.toArray }) X (.lst ds) (.ref s.heap.objs.size) :=
 Rd.lst_ (n:=0) g.fresh (Heap.get?_push_size _ rfl) (RdL.mv (fun a o ha e=>⟨ha,Heap.get?_push_of_some _ e⟩) ds vs h)
theorem bp {es:List Expr} {k:Nat} {p:Pos} {ds:List D} (c:Cx prog w env X τ ω s) (h:EvBs prog w A env X s es (ds.map Bd.d)) (hsz:autoParam (ds.length≤1000) fb._auto_1):EvD prog w A env X s (.Tuple es k p) (.tup ds):=fun s' k'=>by
 refine PyProof.Rows.Tuple_ ((h.keep k').go p fun vs s₁ k₁ h₁=>?_)
 have hr:=bW h₁
 refine wpAny_newTuple ⟨k₁.trans (Keep.push (tk:=s₁.toks)),Rd.tup_new (tk:=0) (c.keep (k'.trans k₁)).gd hr⟩ ?_
 rw [hr.length,aM];exact Nat.le_add_left_of_le hsz
theorem gF {es:List Expr} {p:Pos} {ds:List D} (c:Cx prog w env X τ ω s) (h:EvBs prog w A env X s es (ds.map Bd.d)) (hsz:autoParam (ds.length≤1000) fb._auto_1):EvD prog w A env X s (.List es p) (.lst ds):=fun s' k'=>by
 refine PyProof.Rows.List_ ((h.keep k').go p fun vs s₁ k₁ h₁=>?_)
 have hr:=bW h₁
 refine wpAny_newList ⟨k₁.trans (Keep.push (tk:=s₁.toks)),Rd.lst_new (tk:=0) (c.keep (k'.trans k₁)).gd hr⟩ ?_
 rw [hr.length,aM];exact Nat.le_add_left_of_le hsz
theorem cH {v i:Expr} {p:Pos} {a b d:D} (c:Cx prog w env X τ ω s) (hv:EvD prog w A env X s v a) (hi:EvD prog w A env X s i b) (ho:cv prog w A X (subscriptTail v i) a b d) :
  EvD prog w A env X s (.Subscript v i p) d:=fun s' k=>by
 refine PyProof.Rows.Subscript_ ((hv.keep k).go fun u s₁ k₁ h₁=>(hi.keep (k.trans k₁)).go fun v' s₂ k₂ h₂=>?_)
 have c₂:=c.keep ((k.trans k₁).trans k₂)
 exact wpAny_mono (ho s₂ u v' c₂.gd (h₁.keep k₂.any) h₂) (fun x s₃ h=>⟨(k₁.trans k₂).trans h.1,h.2⟩) fun Z Z z=>z
theorem ah {h:Heap} {a:Addr} {vs:List Value} {n:Nat} (e:h.get? a=some (bo vs n)):h.IsList a vs.toArray:=⟨_,e,rfl,n,rfl⟩
theorem cb {h:Heap} {a:Addr} {vs:List Value} {n:Nat} (e:h.get? a=some (ii vs n)):IsTup h a vs.toArray:=⟨_,e,rfl,n,rfl⟩
theorem dM {v i:Expr} {ds:List D} {k:Int} {d:D} (h0:0≤k) (hd:ds[k.toNat]?=some d) (hl:ds.length≤16777216)
  (hs:autoParam (∀ o u:Value,subscripted i false o u=operate [o,u] (getItem o u)) r5._auto_1):cv prog w A X (subscriptTail v i) (.lst ds) (.int k) d:=fun s u x g h1 h2=>by
 refine h1.lstE fun a vs n Z1 hx hg hr=>?_;subst Z1
 refine h2.intE fun t Z1=>?_;subst Z1
 refine ex12 (hr.get hd) fun y hy hyr=>?_
 have hk:k.toNat < ds.length:=(List.getElem?_eq_some_iff.mp hd).1
 exact tail_any (ah hg).typeIs slot_list_getitem.lookup (wpAny_getItem_list (ah hg) h0 (by lia) (by simpa using hy) ⟨Keep.refl _ _,hyr⟩) (hs _ _)
theorem jC {v i:Expr} {ds:List D} {k:Int} {d:D} (h0:k < 0) (hd:ds[(k + ds.length).toNat]?=some d) (h1:0≤k + ds.length) (hl:ds.length≤16777216)
  (hs:autoParam (∀ o u:Value,subscripted i false o u=operate [o,u] (getItem o u)) r5._auto_1):cv prog w A X (subscriptTail v i) (.lst ds) (.int k) d:=fun s u x g h1' h2=>by
 refine h1'.lstE fun a vs n Z1 hx hg hr=>?_;subst Z1
 refine h2.intE fun t Z1=>?_;subst Z1
 refine ex12 (hr.get hd) fun y hy hyr=>?_
 have hlen:=hr.length
 exact tail_any (ah hg).typeIs slot_list_getitem.lookup (wpAny_getItem_list_neg (ah hg) h0 (by simp;lia) (by lia) (by simpa [hlen] using hy) ⟨Keep.refl _ _,hyr⟩) (hs _ _)
theorem dq {v i:Expr} {ds:List D} {k:Int} {d:D} (h0:0≤k) (hd:ds[k.toNat]?=some d) (hl:ds.length≤16777216)
  (hs:autoParam (∀ (o:Addr) (k:Int) (u:Tok),subscripted i false (.ref o) (.int k u)=operate [.ref o,.int k u] (getItem (.ref o) (.int k u))) uw._auto_1):cv prog w A X (subscriptTail v i) (.tup ds) (.int k) d:=fun s u x g h1 h2=>by
 refine h1.tupE fun a vs n Z1 hx hg hr=>?_;subst Z1
 refine h2.intE fun t Z1=>?_;subst Z1
 refine ex12 (hr.get hd) fun y hy hyr=>?_
 have hk:k.toNat < ds.length:=(List.getElem?_eq_some_iff.mp hd).1
 refine item_tupleT (cb hg) (by exact Int.le_trans (by decide) h0) (by lia) (j:=k.toNat) ?_ hy ⟨Keep.refl _ _,hyr⟩ (hs _ _ _)
 have hlen:=hr.length
 unfold seqIndex?
 have h3:¬ k < 0:=by lia
 have h4:(decide (0≤k) && decide (k < (vs.length:Int)))=true:=by
  rw [Bool.and_eq_true];exact ⟨decide_eq_true h0,decide_eq_true (by lia)⟩
 simp only [if_neg h3,h4,if_true]
theorem gG {f:Str} {q p:Pos} {e:Expr} {ds:List D} (c:Cx prog w env X τ ω s) (hf:EvV prog w A env s (.Name f q) (.builtin "len")) (he:EvBs prog w A env X s [e] [.d (.lst ds)]) (hl:ds.length≤16777216) :
  EvD prog w A env X s (.Call (.Name f q) [e] [] p) (.int ds.length) :=
 bz hf he (fun s' Z=>aJ) fun vs s' k h=>by
  refine aO h fun v Z1 h1=>?_;subst Z1
  refine h1.lstE fun a vs n Z1 hx hg hr=>?_;subst Z1
  refine PyProof.Rows.len_list (ah hg) (by simp [hr.length];lia) ⟨Keep.toks,?_⟩
  have:((vs.toArray.size:Nat):Int)=ds.length:=by simp [hr.length]
  rw [this];exact Rd.int_
theorem fC {f:Str} {q p:Pos} {e:Expr} {x:Str} (c:Cx prog w env X τ ω s) (hf:EvV prog w A env s (.Name f q) (.builtin "len")) (he:EvBs prog w A env X s [e] [.d (.str x)]) (hl:x.length≤16777216) :
  EvD prog w A env X s (.Call (.Name f q) [e] [] p) (.int x.length) :=
 bz hf he (fun s' Z=>aJ) fun vs s' k h=>by
  refine aO h fun v Z1 h1=>?_;subst Z1
  refine h1.strE fun t Z1=>?_;subst Z1
  exact PySem.P.len_str (by lia) ⟨Keep.toks,Rd.int_⟩
theorem iT {f:Str} {q p:Pos} {e:Expr} {ds:List D} (c:Cx prog w env X τ ω s) (hf:EvV prog w A env s (.Name f q) (.builtin "len")) (he:EvBs prog w A env X s [e] [.d (.tup ds)]) (hl:ds.length≤16777216) :
  EvD prog w A env X s (.Call (.Name f q) [e] [] p) (.int ds.length) :=
 bz hf he (fun s' Z=>aJ) fun vs s' k h=>by
  refine aO h fun v Z1 h1=>?_;subst Z1
  refine h1.tupE fun a vs n Z1 hx hg hr=>?_;subst Z1
  refine PyProof.Rows.len_tuple (cb hg) (by simp [hr.length];lia) ⟨Keep.toks,?_⟩
  have:((vs.toArray.size:Nat):Int)=ds.length:=by simp [hr.length]
  rw [this];exact Rd.int_
theorem ff {v i:Expr} {x:Str} {k:Int} (h0:0≤k) (h1:k < x.length) (hl:x.length≤16777216)
  (hs:∀ (o:Str) (t:Tok) (k:Int) (u:Tok),subscripted i false (.str o t) (.int k u)=operate [.str o t,.int k u] (getItem (.str o t) (.int k u)):=by intro Z Z Z Z;with_unfolding_all rfl)
  (ht:autoParam (∀ (o:Str) (t:Tok) (r:Value),letTemporaryGo v (.str o t) r=pure ()) uw._auto_1):cv prog w A X (subscriptTail v i) (.str x) (.int k) (.str (Txt.item x k)):=fun s u y g h2 h3=>by
 refine h2.strE fun t Z1=>?_;subst Z1
 refine h3.intE fun t' Z1=>?_;subst Z1
 exact PyProof.Rows.item_str (by unfold fitsSsize;simp;lia) (by lia) h1 (fun Z=>⟨Keep.toks,Rd.str_⟩) (hs _ _ _ _) (ht _ _)
noncomputable def optI (prog:Program) (w:World) (A:Around) (env:Env) (X:List Addr) (s:Shared):Option Expr→Option Int→Prop
 | none,none=>True
 | some e,some k=>EvD prog w A env X s e (.int k)
 | _,_=>False
theorem bJ {o:Option Expr} {k:Option Int} {Q:Value→Shared→Prop} (h:optI prog w A env X s o k) (hq:∀ v s',Keep [] s s'→IsPart v k→Q v s'):WP prog w A (evalPart o env) Q s:=by
 cases o with
 | none=>cases k with
  | none=>exact wpAny_evalPart_none (hq _ _ (Keep.refl _ _) .none)
  | some=>exact h.elim
 | some e=>cases k with
  | none=>exact h.elim
  | some k =>
   refine wpAny_evalPart_some (Ev.go h fun v s' k' hv=>?_)
   refine Rd.intE hv fun t Z1=>?_;subst Z1
   exact hq _ _ k' (.int _ _)
theorem optI.keep {o:Option Expr} {k:Option Int} (h:optI prog w A env X s o k) (kk:Keep [] s s'):optI prog w A env X s' o k:=by
 cases o <;> cases k <;> first | exact h | exact Ev.keep h kk
noncomputable def jD (ds:List D):Option Int→Option Int→List D
 | none,none=>ds
 | some a,none=>ds.drop a.toNat
 | none,some b=>ds.take b.toNat
 | some a,some b=>(ds.drop a.toNat).take (b.toNat - a.toNat)
theorem fD {v:Expr} {lo hi:Option Expr} {q p:Pos} {ds:List D} {a b:Option Int} (c:Cx prog w env X τ ω s) (hv:EvD prog w A env X s v (.lst ds)) (ha:optI prog w A env X s lo a) (hb:optI prog w A env X s hi b)
  (ha0:∀ x,a=some x→0≤x) (hb0:∀ x,b=some x→0≤x) (hab:a=none∨b=none) (hl:ds.length≤16777216)
  (ht:autoParam (∀ o r,letTemporaryGo v o r=pure ()) tu._auto_1) :
  EvD prog w A env X s (.Subscript v (.Slice lo hi none q) p) (.lst (jD ds a b)):=by
 revert c hv ha hb ha0 hb0 hab hl ht
 revert v lo hi q p ds a b
 revert prog w A env X τ ω s;refine @(dr8 ?_);exists w8 _ _,prog,w,A,env,X,τ,ω,s
 intro v lo hi q p ds a b
 revert v lo hi q p ds a b;refine @(dr8 ?_);exists w8 _ _,v,lo,hi,q,p,ds,a,b
 intro c hv ha hb ha0 hb0 hab hl ht
 intro s' k
 refine wpAny_Subscript_list_slice ((hv.keep k).go fun u s₁ k₁ h₁=>bJ (ha.keep (k.trans k₁)) fun x s₂ k₂ h₂=>bJ (hb.keep ((k.trans k₁).trans k₂)) fun y s₃ k₃ h₃=>?_) ht
 refine Rd.lstE (h₁.keep (k₂.trans k₃).any) fun l vs n Z1 hx hg hr=>?_;subst Z1
 have c₃:=c.keep (((k.trans k₁).trans k₂).trans k₃)
 have kk:Keep [] s₃ { s₃ with heap:=(s₃.heap.push { cls:=.type "slice",data:=.fields #[x,y,.none] }).push { cls:=.type "list",data:=.seq (slicePick vs.toArray a b none) } } :=
  Keep.ext (tk:=s₃.toks) fun Z Z e=>Heap.get?_push_of_some _ (Heap.get?_push_of_some _ e)
 refine ⟨l,vs.toArray,a,b,rfl,ah hg,(by have:=hr.length;simp [this,aM];exact hl),h₂,h₃,((k₁.trans k₂).trans k₃).trans kk,?_⟩
 have e:∃ us:List Value,slicePick vs.toArray a b none=us.toArray∧RdL prog w s₃.heap X (jD ds a b) us:=by
  cases a with
  | none=>cases b with
   | none=>exact ⟨vs,by rw [slicePick_all],hr⟩
   | some b =>
    have h0:=hb0 b rfl
    obtain ⟨m,rfl⟩:∃ m:Nat,b=m:=⟨b.toNat,by lia⟩
    exact ⟨vs.take m,by rw [slicePick_upto'],hr.take _⟩
  | some a =>
   have h0:=ha0 a rfl
   cases b with
   | none =>
    obtain ⟨m,rfl⟩:∃ m:Nat,a=m:=⟨a.toNat,by lia⟩
    exact ⟨vs.drop m,by rw [slicePick_from'],hr.drop _⟩
   | some b=>refine bQ hab (fun h=>?_) fun h=>?_ <;> exact nO h.symm
 refine ex12 e fun us e1 e2=>?_;clear e
 rw [e1] at kk ⊢
 have hz:(s₃.heap.push { cls:=.type "slice",data:=.fields #[x,y,.none] }).objs.size=s₃.heap.objs.size + 1:=Heap.size_push ..
 have hfr:s₃.heap.objs.size + 1∉X:=c₃.xlt.fresh (aU (Nat.le_succ _))
 refine Rd.lst_ (n:=0) hfr ?_ (e2.keep kk.any)
 have:=Heap.get?_push_size (s₃.heap.push { cls:=.type "slice",data:=.fields #[x,y,.none] }) (o:={ cls:=.type "list",data:=.seq us.toArray }) rfl
 rw [hz] at this;exact this
theorem OwnAt.less {X Y:List Addr} {h:Heap} {a:Addr} {od:OD} (hs:∀ b∈Y,b∈X) (x:OwnAt prog w h X a od):OwnAt prog w h Y a od :=
 x.mv (fun b o hb e=>⟨fun hm=>hb (hs b hm),e⟩) fun Z e=>e
theorem Sx.shrink {X':List Addr} (S:Sx prog w s₀ env M X' τ ω s) (h:∀ a∈X,a∈X') (hM:∀ a∈M,a∈X) (hC:∀ p∈env.cells,p.2∈X):Sx prog w s₀ env M X τ ω s:=by
 obtain ⟨⟨⟨o1,o2,o3,o4,o5,o6⟩,h2,h3,h4,h5,h6,h7,h12⟩,h8,h9,h10,h11,h13⟩:=S
 exact ⟨⟨⟨o1,o2,o3,hM _ h10,fun p hp=>⟨hC p hp,(o5 p hp).2⟩,o6⟩,h2,h3,fun x b e=>let ⟨v,q1,q2⟩:=h4 x b e;⟨v,q1,q2.less h⟩,h5,fun a ha=>h6 a (h a ha),fun a ha=>h7 a (h a ha),
  fun p hp=>⟨(h12 p hp).1.less h,hM _ (h13 p hp),(h12 p hp).2.2⟩⟩,h8,hM,h10,h11,h13⟩
theorem Sx.avoid (S:Sx prog w s₀ env M X τ ω s) {Y:List Addr} (hn:∀ a∈Y,s.heap.get? a=none) (k:Keep [] s s') (hl:Liv Y s'.heap) (hi:∀ a∈Y,178≤a):Sx prog w s₀ env M (Y++X) τ ω s':=by
 have S':=S.keep k
 have hnb:∀ b∈Y++X,b∈X∨s.heap.get? b=none:=fun b hb=>(List.mem_append.mp hb).elim (fun h=>.inr (hn b h)) .inl
 obtain ⟨⟨⟨o1,o2,o3,o4,o5,o6⟩,h2,h3,h4,h5,h6,h7,h12⟩,h8,h9,h10,h11,h13⟩:=S'
 have inX:∀ {a},a∈X→a∈Y++X:=fun h=>mR h
 refine ⟨⟨⟨o1,o2,o3,inX o4,fun p hp=>⟨inX (o5 p hp).1,(o5 p hp).2⟩,o6⟩,h2,h3,fun x b e=>?_,h5,fun b hb=>?_,fun b hb=>?_,fun p hp=>?_⟩,h8,fun b hb=>inX (h9 b hb),h10,h11,h13⟩
 ·refine ex12 (S.cx.vars x b e) fun v h12 h13=>?_
  exact ⟨v,h12.mv fun b o e=>k.heap b o (fun h=>nomatch h) e,(h13.beyond (Y:=Y++X) hnb).keep k.any⟩
 ·exact (List.mem_append.mp hb).elim (hl b) (h6 b)
 ·exact (List.mem_append.mp hb).elim (hi b) (h7 b)
 ·refine br (S.cx.own p hp) fun q1 q2 q3=>?_
  refine ⟨q1.mv (fun b o hb e=>⟨fun hm=>?_,k.heap b o (fun h=>nomatch h) e⟩) fun o e=>k.heap _ o (fun h=>nomatch h) e,inX q2,q3⟩
  refine bQ (hnb b hm) (fun h=>?_) fun h=>?_
  ·exact hb h
  ·rw [h] at e;exact nO e
theorem Sx.rebase (S:Sx prog w s₀ env M X τ ω s):Sx prog w s env M X τ ω s:=⟨S.cx,Keep.refl _ _,S.sub,S.mloc,S.mcel,S.mown⟩
theorem Sx.based {s₁:Shared} (S:Sx prog w s₁ env M X τ ω s) (k:Keep M s₀ s₁):Sx prog w s₀ env M X τ ω s:=⟨S.cx,k.trans S.base,S.sub,S.mloc,S.mcel,S.mown⟩
theorem Sx.other (S:Sx prog w s₀ env M X τ ω s) {Y:List Addr} {h':Heap} {tk:Nat} (hk:∀ b o,b∉Y→s.heap.get? b=some o→h'.get? b=some o) (hl:∀ b∈Y,(s.heap.get? b).isSome=true→(h'.get? b).isSome=true)
  (hy:∀ b∈Y,b∈X) (hm:∀ b∈Y,b∉M) (hc:∀ p∈env.cells,p.2∉Y):Sx prog w { s with heap:=h',toks:=tk } env M X τ ω { s with heap:=h',toks:=tk }∧Keep Y s { s with heap:=h',toks:=tk }:=by
 have k:Keep Y s { s with heap:=h',toks:=tk }:=⟨fun a o ha e=>hk a o ha e,fun a ha=>by
  by_cases hay:a∈Y
  ·exact hl a hay ha
  ·cases e:s.heap.get? a with
   | none=>rw [e] at ha;exact nB ha
   | some o=>show (h'.get? a).isSome=true;rw [hk a o hay e];rfl,fun Z Z e=>e,id,rfl⟩
 refine ⟨⟨S.cx.turn k hy ?_ (fun p hp=>?_) (fun x b e=>?_) (S.cx.ownKeep k hy fun p hp o e=>hk _ o (fun h=>hm _ h (S.mown p hp)) e),?_,S.sub,S.mloc,S.mcel,S.mown⟩,k⟩
 ·refine ex11 S.cx.ns fun m h=>?_
  exact ⟨m,aW h fun o e=>hk _ o (fun h=>hm _ h S.mloc) e⟩
 ·refine ex11 (S.cx.cells p hp) fun v hv=>?_
  exact ⟨v,aA hv fun o e=>hk _ o (hc p hp) e⟩
 ·refine ex12 (S.cx.vars x b e) fun v h1 h2=>?_
  refine ⟨v,?_,h2⟩
  rcases h1 with ⟨q,m',hm',hv'⟩ | ⟨q,c,hcc,hv'⟩
  ·exact .inl ⟨q,m',aW hm' fun o e=>hk _ o (fun h=>hm _ h S.mloc) e,hv'⟩
  ·exact .inr ⟨q,c,hcc,aA hv' fun o e=>hk _ o (hc _ (ak hcc)) e⟩
 ·exact Keep.refl _ _
theorem Sx.leave {Y:List Addr} (S:Sx prog w s₀ env M (Y++X) τ ω s) {h':Heap} {tk:Nat} (hk:∀ b o,b∉Y→s.heap.get? b=some o→h'.get? b=some o) (hyx:∀ b∈Y,b∉X) (hM:∀ b∈M,b∈X) (hC:∀ p∈env.cells,p.2∈X) {s₁:Shared}
  (kb:Keep M s₁ { s with heap:=h',toks:=tk }):Sx prog w s₁ env M X τ ω { s with heap:=h',toks:=tk }:=by
 revert S hk hyx hM hC kb
 revert prog w env M X τ ω s s₀ Y h' tk s₁;refine @(dr13 ?_);exists w13 _ _,prog,w,env,M,X,τ,ω,s,s₀,Y,h',tk,s₁
 intro S hk hyx hM hC kb
 obtain ⟨⟨⟨o1,o2,o3,o4,o5,o6⟩,⟨m,h2⟩,h3,h4,h5,h6,h7,h12⟩,h8,h9,h10,h11,h13⟩:=S
 have inX:∀ {a},a∈X→a∈Y++X:=fun h=>mR h
 have km:∀ b∈M,∀ o,s.heap.get? b=some o→h'.get? b=some o:=fun b hb o e=>hk b o (fun hy=>hyx b hy (hM b hb)) e
 have kc:∀ p∈env.cells,∀ o,s.heap.get? p.2=some o→h'.get? p.2=some o:=fun p hp o e=>hk p.2 o (fun hy=>hyx _ hy (hC p hp)) e
 have mv:∀ b o,b∉Y++X→s.heap.get? b=some o→b∉X∧h'.get? b=some o:=fun b o hb e=>⟨fun hx=>hb (inX hx),hk b o (fun hy=>hb (mL hy)) e⟩
 refine ⟨⟨⟨o1,o2,o3,hM _ h10,fun p hp=>⟨hC p hp,(o5 p hp).2⟩,o6⟩,⟨m,aW h2 (km _ h10)⟩,fun p hp=>?_,fun x b e=>?_,h5.mv fun a o hl Z e=>hk a o (fun hy=>absurd (h7 a (mL hy)) (Nat.not_le.mpr hl)) e,fun a ha=>?_,fun a ha=>h7 a (inX ha),fun p hp=>?_⟩,kb,hM,h10,h11,h13⟩
 ·refine ex11 (h3 p hp) fun v hv=>?_
  exact ⟨v,aA hv (kc p hp)⟩
 ·refine ex12 (h4 x b e) fun v q1 q2=>?_
  refine ⟨v,?_,?_⟩
  ·rcases q1 with ⟨q,m',hm',hv'⟩ | ⟨q,c,hc,hv'⟩
   ·exact .inl ⟨q,m',aW hm' (km _ h10),hv'⟩
   ·exact .inr ⟨q,c,hc,aA hv' (kc _ (ak hc))⟩
  ·cases b with
   | d d=>exact Rd.mv mv d v q2
   | v u=>exact q2
 ·have:=h6 a (inX ha)
  cases e:s.heap.get? a with
  | none=>rw [e] at this;exact nB this
  | some o=>show (h'.get? a).isSome=true;rw [hk a o (fun hy=>hyx a hy ha) e];rfl
 ·exact ⟨(h12 p hp).1.mv mv (km _ (h13 p hp)),hM _ (h13 p hp),(h12 p hp).2.2⟩
noncomputable def ownIters:List String:=["enumerate", "zip", "dict_itemiterator", "dict_reverseitemiterator", "odict_iterator", "itertools.zip_longest", "itertools.pairwise"]
theorem cg {t:Expr} {I:Addr} {v:Value} {o:Obj} {n:String} {Q:Unit→Shared→Prop} (ho:s.heap.get? I=some o) (hc:o.cls=.type n) (hn:ownIters.contains n=false) (hQ:Q () s):WP prog w A (letOwnedTupleGo t (.ref I) v) Q s:=by
 revert ho hc hn hQ
 revert prog w A s t I v o n Q;refine @(dr10 ?_);exists w10 _ _,prog,w,A,s,t,I,v,o,n,Q
 intro ho hc hn hQ
 have key:∀ a:Addr,WP prog w A (do
   let o ← load I
   match o.cls,o.data with
   | .type n,.fields vs=>if ownIters.contains n && vs[0]? == some (rawInt a) then (do rule "for.unpacks-the-owned-tuple";updateField I 0 .none) else pure ()
   | _,_=>pure ()) Q s:=fun a=>by
  refine wpAny_bind (wpAny_load ho ?_)
  rw [hc]
  cases (o.data) <;> first | exact wpAny_pure hQ | (simp only [hn,Bool.false_and,Bool.false_eq_true,if_false];exact wpAny_pure hQ)
 cases t <;> first
  | exact wpAny_pure hQ
  | (cases v <;> first | exact wpAny_pure hQ | exact key _)
theorem dr {R:Result→Shared→Prop} {target:Expr} {it:Value} {body orelse:List Stmt} (I:Nat→Shared→Prop)
  (turn:∀ n s,I n s→wpAny (model prog w) A (pyNext it) (fun r s₁=>match r with
   | none=>wpAny (model prog w) A (execs orelse env) (fun f s₃=>R (.ok f) s₃) (notedBy (model prog w) A env fun e s'=>R (.error e) s') s₁
   | some v=>wpAny (model prog w) A (letOwnedTupleGo target it v) (fun Z s₂=>wpAny (model prog w) A (assign target env v) (fun Z s₂=>wpAny (model prog w) A (execs body env) (fun f s₃=>match f with
     | .next | .cont=>∃ m,m < n∧I m s₃
     | .brk=>R (.ok .next) s₃
     | .ret v=>R (.ok (.ret v)) s₃) (notedBy (model prog w) A env fun e s'=>R (.error e) s') s₂) (notedBy (model prog w) A env fun e s'=>R (.error e) s') s₂) (notedBy (model prog w) A env fun e s'=>R (.error e) s') s₁) (notedBy (model prog w) A env fun e s'=>R (.error e) s') s)
  (n:Nat) (h:I n s):codeAny (model prog w) A (.forLoop target it body orelse env) R s:=by
 revert turn h
 revert prog w A env s R target it body orelse I n;refine @(dr12 ?_);exists w12 _ _,prog,w,A,env,s,R,target,it,body,orelse,I,n
 intro turn h
 refine codeAny_loop' rfl I (fun n s hI=>?_) n h
 show wpAny _ _ ((forTurn target it body orelse env).onRaise (fun x=>do noteFrame x env;theTreesLotGoes x)) _ _ s
 refine wpAny_noted ?_
 unfold forTurn
 refine wpAny_bind (wpAny_standAt (wpAny_bind (wpAny_onRaise (wpAny_mono (turn n s hI) (fun r s₁ h₁=>?_) fun Z Z h'=>wpAny_standAt h'))))
 cases r with
 | none=>exact wpAny_pure (.inr ⟨rfl,codeAny_block h₁⟩)
 | some v =>
  refine wpAny_bind (wpAny_mono h₁ (fun Z s₂ h₂=>?_) fun Z Z h'=>h')
  refine wpAny_bind (wpAny_mono h₂ (fun Z s₂ h₂=>wpAny_bind (wpAny_mono h₂ (fun f s₃ h₃=>?_) fun Z Z h'=>h')) fun Z Z h'=>h')
  cases f with
  | next=>exact wpAny_pure (.inl ⟨rfl,h₃⟩)
  | cont=>exact wpAny_pure (.inl ⟨rfl,h₃⟩)
  | brk=>exact wpAny_pure h₃
  | ret v=>exact wpAny_pure h₃
theorem mP {R:Result→Shared→Prop} {elt target iter:Expr} {ifs:List Expr} {scope:Scope} {pos:Pos} {it acc:Value} (I:Nat→Shared→Prop)
  (turn:∀ n s,I n s→wpAny (model prog w) A (pyNext it) (fun r s₁=>match r with
   | none=>R (.ok .next) s₁
   | some v=>wpAny (model prog w) A (letOwnedTupleGo target it v) (fun Z s₂=>wpAny (model prog w) A (assign target env v) (fun Z s₂ =>
     wpAny (model prog w) A (forIn ifs true fun c r=>if r=true then do let ok ← isTrue c env (eval c env);pure (ForInStep.yield ok) else pure (ForInStep.yield r)) (fun ok s₃ =>
      if ok=true then wpAny (model prog w) A (eval elt env) (fun x s₄ =>
       wpAny (model prog w) A (call (.builtin "list.append") [acc,x]) (fun Z s₅=>∃ m,m < n∧I m s₅) (notedBy (model prog w) A env fun e s'=>R (.error e) s') s₄) (notedBy (model prog w) A env fun e s'=>R (.error e) s') s₃
      else ∃ m,m < n∧I m s₃) (notedBy (model prog w) A env fun e s'=>R (.error e) s') s₂) (notedBy (model prog w) A env fun e s'=>R (.error e) s') s₂) (notedBy (model prog w) A env fun e s'=>R (.error e) s') s₁) (notedBy (model prog w) A env fun e s'=>R (.error e) s') s)
  (n:Nat) (h:I n s) :
  codeAny (model prog w) A (.compLoop (.ListComp elt [⟨target,iter,ifs,0⟩] scope pos) 0 it acc env) R s:=by
 revert turn h
 revert iter ifs scope pos it acc I n
 revert prog w A env s R elt target;refine @(dr8 ?_);exists w8 _ _,prog,w,A,env,s,R,elt,target
 intro iter ifs scope pos it acc I n
 revert iter ifs scope pos it acc I n;refine @(dr8 ?_);exists w8 _ _,iter,ifs,scope,pos,it,acc,I,n
 intro turn h
 refine codeAny_loop rfl I (fun n s hI=>?_) n h
 show wpAny _ A ((compTurn (.ListComp elt [⟨target,iter,ifs,0⟩] scope pos) 0 it acc env).onRaise (fun x=>do noteFrame x env;theTreesLotGoes x)) _ _ s
 refine wpAny_noted ?_
 rw [compTurn_list]
 refine wpAny_bind (wpAny_standAt (wpAny_bind (wpAny_mono (turn n s hI) (fun r s₁ h₁=>?_) fun Z Z h'=>h')))
 cases r with
 | none=>exact wpAny_pure h₁
 | some v =>
  refine wpAny_bind (wpAny_mono h₁ (fun Z s₂ h₁=>?_) fun Z Z h'=>h')
  refine wpAny_bind (wpAny_mono h₁ (fun Z s₂ h₂=>wpAny_bind (wpAny_mono h₂ (fun ok s₃ h₃=>?_) fun Z Z h'=>h')) fun Z Z h'=>h')
  cases ok with
  | false=>exact wpAny_pure ⟨rfl,h₃⟩
  | true =>
   exact wpAny_bind (wpAny_bind (wpAny_mono h₃ (fun x s₄ h₄=>wpAny_bind (wpAny_mono h₄ (fun Z s₅ h₅=>wpAny_pure (wpAny_pure ⟨rfl,h₅⟩)) fun Z Z h'=>h')) fun Z Z h'=>h'))
structure Iter (prog:Program) (w:World) (A:Around) (X:List Addr) (ds:List D) (I:Addr) (wr:List Addr) (St:Nat→Heap→Prop) (s₁ s₂:Shared):Prop where
 walks:∃ fp P,Walks prog w A I fp wr ds.length P St∧(∀ b∈fp,b∉X∧(s₂.heap.get? b).isSome=true) ∧
  ∀ i v,P i v→∃ d,ds[i]?=some d∧∀ h' X',(∀ a o,a∉X→s₁.heap.get? a=some o→a∉X'∧h'.get? a=some o)→Rd prog w h' X' d v
 st:St 0 s₂.heap
 new:∀ b∈wr,s₁.heap.get? b=none
 hi:∀ b∈wr,178≤b
 live:∀ i h,St i h→Liv wr h
 go:∀ i h,St i h→∃ o n,h.get? I=some o∧o.cls=.type n∧ownIters.contains n=false
noncomputable def EvI (prog:Program) (w:World) (A:Around) (env:Env) (X:List Addr) (s:Shared) (e:Expr) (ds:List D):Prop :=
 ∀ s',Keep [] s s'→WP prog w A (eval e env) (fun v s₁=>Keep [] s' s₁∧WP prog w A (pyIter v) (fun it s₂=>Keep [] s₁ s₂∧∃ I wr St,it=.ref I∧Iter prog w A X ds I wr St s₁ s₂) s₁) s'
theorem EvI.keep {e:Expr} {ds:List D} (x:EvI prog w A env X s e ds) (k:Keep [] s s'):EvI prog w A env X s' e ds:=fun s'' k'=>x s'' (k.trans k')
noncomputable def Asg (prog:Program) (w:World) (A:Around) (env:Env) (M:List Addr) (t:Expr) (d:D) (σ:List (Str×Bd)):Prop :=
 ∀ (X:List Addr) (s₀:Shared) (τ:List (Str×Bd)) (ω:List (Addr×OD)) (s:Shared) (v:Value) (Q:Unit→Shared→Prop),Sx prog w s₀ env M X τ ω s→Rd prog w s.heap X d v →
  (∀ s',Keep M s s'→Sx prog w s₀ env M X (σ++τ) ω s'→Q () s')→WP prog w A (assign t env v) Q s
theorem au {x:Str} {p:Pos} {d:D} (hx:Own env x):Asg prog w A env M (.Name x p) d [(x,.d d)] :=
 fun X s₀ τ ω s v Q S hd h=>wpAny_assign_Name (S.store hx (b:=.d d) hd h)
noncomputable def iU (prog:Program) (w:World) (env:Env) (M X:List Addr) (τ:List (Str×Bd)) (ω:List (Addr×OD)) (R:Value→Shared→Prop) (s:Shared) (f:Flow) (s':Shared):Prop:=match f with
 | .next | .cont=>Sx prog w s env M X τ ω s'
 | .brk=>False
 | .ret v=>Keep M s s'∧R v s'
theorem fE (S:Sx prog w s₀ env M X τ ω s) {t e:Expr} {body rest:List Stmt} {p:Pos} {Q:Flow→Shared→Prop} {ds:List D} (hi:EvI prog w A env X s e ds) (inv:Nat→List (Str×Bd)) (O:Nat→List (Addr×OD)) (R:Value→Shared→Prop) (σ:Nat→D→List (Str×Bd))
  (h0:Covers τ (inv 0)) (hO:ω=O 0) (hasg:∀ i d,ds[i]?=some d→Asg prog w A env M t d (σ i d))
  (turn:∀ i d X' s',ds[i]?=some d→(∀ a∈X,a∈X')→Sx prog w s' env M X' (σ i d++inv i) (O i) s'→WP prog w A (execs body env) (iU prog w env M X' (inv (i + 1)) (O (i + 1)) R s') s')
  (done:∀ s',Sx prog w s₀ env M X (inv ds.length) (O ds.length) s'→WP prog w A (execs rest env) Q s') (hret:∀ v s',Keep M s s'→R v s'→Q (.ret v) s')
  (hs:autoParam (∀ x,foldedSetIterable e env x=pure x) e8._auto_1):WP prog w A (execs (.For t e body [] p::rest) env) Q s:=by
 revert S hi h0 hO hasg turn done hret hs
 revert e body rest p Q ds inv O R σ
 revert prog w A env M X τ ω s s₀ t;refine @(dr11 ?_);exists w11 _ _,prog,w,A,env,M,X,τ,ω,s,s₀,t
 intro e body rest p Q ds inv O R σ
 revert e body rest p Q ds inv O R σ;refine @(dr10 ?_);exists w10 _ _,e,body,rest,p,Q,ds,inv,O,R,σ
 intro S hi h0 hO hasg turn done hret hs
 refine aK (wpAny_For (wpAny_mono (hi s (Keep.refl _ _)) (fun v s₁ q=>wpAny_mono q.2 (fun it s₂ q₂=>?_) fun Z Z z=>z.elim) fun Z Z z=>z) hs)
 refine ai q₂ fun k₂ Z1=>?_;clear q₂;refine ex32 Z1 fun I wr St Z2 Z3=>?_;subst Z2;rcases Z3 with ⟨⟨fp,P,W,hfp,hP⟩,hst,hnew,hhi,hlive,hgo⟩;clear Z1
 have k₁:=q.1
 have S1:=S.keep k₁
 have S2:Sx prog w s₀ env M (wr++X) (inv 0) (O 0) s₂:=((S1.avoid hnew k₂ (hlive _ _ hst) hhi).cover h0).owns (by rw [hO];exact fun Z h=>h)
 have hwM:∀ b∈wr,b∉M:=fun b hb hm=>by
  have:=S1.cx.xlt b (S1.sub b hm)
  rw [hnew b hb] at this;exact nB this
 have hwC:∀ p∈env.cells,p.2∉wr:=fun p hp hm=>by
  have:=S1.cx.xlt _ (S1.cx.ok.cel p hp).1
  rw [hnew _ hm] at this;exact nB this
 have fin:∀ s',Keep (wr++M) s₂ s'→Keep M s s':=fun s' k=>((k₁.trans k₂).any.trans k).dropTo fun b hb=>(List.mem_append.mp hb).elim (fun h=>.inr (k₁.none_back (hnew b h))) .inl
 refine dr (fun n s'=>∃ i,n=ds.length - i∧i≤ds.length∧Keep (wr++M) s₂ s'∧Sx prog w s' env M (wr++X) (inv i) (O i) s'∧St i s'.heap) (fun n s' hI=>?_) (ds.length) ⟨0,rfl,Nat.zero_le _,Keep.refl _ _,S2.rebase,hst⟩
 refine ex15 hI fun i Z1 hil kI SI hSt=>?_;clear hI;subst Z1
 by_cases hlt:i < ds.length
 ·refine W.item i s' _ _ hlt hSt fun v h₁ tk1 hPv hstA hkA=>?_
  refine ex12 (hP i v hPv) fun d hd hrd=>?_
  refine ai (SI.other (Y:=wr) hkA (fun b hb Z=>hlive _ _ hstA b hb) (fun b hb=>mL hb) hwM hwC (tk:=tk1)) fun Sa ka=>?_
  have hrd':Rd prog w h₁ (wr++X) d v:=hrd h₁ _ fun a o ha e=>by
   have haw:a∉wr:=fun hm=>by rw [hnew a hm] at e;exact nO e
   have h2:=k₂.heap a o (fun h=>nomatch h) e
   have h3:=kI.heap a o (fun hm=>(List.mem_append.mp hm).elim haw fun hm=>ha (S.sub a hm)) h2
   exact ⟨fun hm=>(List.mem_append.mp hm).elim haw ha,hkA a o haw h3⟩
  dsimp only
  refine ex23 (hgo _ _ hstA) fun oI nI g1 g2 g3=>?_
  refine wpAny_mono (cg (s:={ s' with heap:=h₁,toks:=tk1 }) g1 g2 g3 ?_) (fun Z Z z=>z) fun Z Z z=>z.elim
  refine wpAny_mono (hasg i d hd (wr++X) _ _ _ _ v _ Sa hrd' fun s₃ k₃ S3=>wpAny_mono (turn i d (wr++X) s₃ hd (fun a ha=>mR ha) S3.rebase) (fun f s₄ hf=>?_) fun Z Z z=>z.elim) (fun Z Z z=>z) fun Z Z z=>z.elim
  have kM:∀ {s₄},Keep M s₃ s₄→Keep (wr++M) s₂ s₄:=fun k=>((kI.trans (ka.more fun b hb=>mL hb)).trans (k₃.more fun b hb=>mR hb)).trans (k.more fun b hb=>mR hb)
  have again:Sx prog w s₃ env M (wr++X) (inv (i + 1)) (O (i + 1)) s₄→∃ m,m < ds.length - i∧∃ i,m=ds.length - i∧i≤ds.length∧Keep (wr++M) s₂ s₄∧Sx prog w s₄ env M (wr++X) (inv i) (O i) s₄∧St i s₄.heap:=fun S4 =>
   ⟨ds.length - (i + 1),by lia,i + 1,rfl,hlt,kM S4.base,S4.rebase,W.frame _ _ _ hstA fun b hb o e=>by
    have hbM:b∉M:=fun hm=>(hfp b hb).1 (S.sub b hm)
    exact S4.base.heap b o hbM (k₃.heap b o hbM e)⟩
  cases f with
  | next=>exact again hf
  | cont=>exact again hf
  | brk=>exact hf.elim
  | ret v=>exact hret v s₄ (fin s₄ (kM hf.1)) hf.2
 ·have hi':i=ds.length:=by lia
  subst hi'
  refine W.done s' _ _ hSt fun h₁ tk1 hkA=>?_
  dsimp only
  have k':=fin s' kI
  have hsw:∀ a,(s.heap.get? a).isSome=true→a∉wr:=fun a ha hm=>by rw [k₁.none_back (hnew a hm)] at ha;exact nB ha
  have kend:Keep M s { s' with heap:=h₁,toks:=tk1 }:=⟨fun a o ha e=>hkA a o (hsw a (by rw [e];rfl)) (k'.heap a o ha e),fun a ha=>by
   have:=k'.live a ha
   cases e:s'.heap.get? a with
   | none=>rw [e] at this;exact nB this
   | some o=>show (h₁.get? a).isSome=true;rw [hkA a o (hsw a ha) e];rfl,k'.gens,k'.bare,k'.os⟩
  exact ax (prog:=prog) (w:=w) (A:=A) (env:=env) (Q:=fun f s=>c5 prog w A env rest Q f s) (done _ (SI.leave hkA (fun b hb hx=>by have:=S1.cx.xlt b hx;rw [hnew b hb] at this;exact nB this) S.sub (fun p hp=>(S.cx.ok.cel p hp).1) (S.base.trans kend)))
theorem ay {a b:Addr} (h:a∈[b]):a=b:=mS h
theorem lz {a:Addr} {vs:List Value} {n:Nat} {ds:List D} {Q:Value→Shared→Prop} (hh:A.handled=none) (g:Gd X s) (hx:a∉X) (hg:s.heap.get? a=some (bo vs n)) (hr:RdL prog w s.heap X ds vs)
  (h:∀ I wr St s₂,Keep [] s s₂→Iter prog w A X ds I wr St s s₂→Q (.ref I) s₂):WP prog w A (pyIter (.ref a)) Q s:=by
 revert hh g hx hg hr h
 revert prog w A X s a vs n ds Q;refine @(dr10 ?_);exists w10 _ _,prog,w,A,X,s,a,vs,n,ds,Q
 intro hh g hx hg hr h
 refine wpAny_pyIter_list (ah hg) (h _ [s.heap.objs.size] (fun i h=>h.IsListIter s.heap.objs.size a i∧h.IsList a vs.toArray) _ (Keep.push (tk:=s.toks)) ⟨?_,?_,fun b hb=>by rw [ay hb];exact af _,fun b hb=>by rw [ay hb];exact g.top.size,fun i h st b hb=>?_,fun i h st=>?_⟩)
 ·have W:=Walks.list (prog:=prog) (w:=w) hh s.heap.objs.size a (Nat.ne_of_lt (Heap.lt_size hg)) vs.toArray
  rw [show vs.toArray.size=ds.length by simp [hr.length]] at W
  refine ⟨_,_,W,fun b hb=>?_,fun i v hv=>?_⟩
  ·refine mC hb (fun Z1=>?_) fun hb=>?_;subst Z1
   ·exact ⟨g.fresh,by show (Heap.get? _ _).isSome=true;rw [Heap.get?_push_size _ rfl];rfl⟩
   ·rw [ay hb];exact ⟨hx,by show (Heap.get? _ _).isSome=true;rw [Heap.get?_push_of_some _ hg];rfl⟩
  ·have hv':vs[i]?=some v:=by simpa using hv
   have hlt:i < ds.length:=by rw [← hr.length];exact (List.getElem?_eq_some_iff.mp hv').1
   refine ex12 (hr.get (List.getElem?_eq_getElem hlt)) fun u hu hud=>?_
   rw [hv'] at hu;refine sE hu fun hu=>?_;subst hu
   exact ⟨_,List.getElem?_eq_getElem hlt,fun h' X' hk=>Rd.mv hk _ _ hud⟩
 ·exact ⟨⟨_,Heap.get?_push_size _ rfl,rfl,rfl⟩,(ah hg).push _⟩
 ·rw [ay hb]
  refine ai st fun Z1 Z=>?_;clear st;refine ex12 Z1 fun o ho Z=>?_;clear Z1
  rw [ho];rfl
 ·refine ai st fun Z1 Z=>?_;clear st;refine ex13 Z1 fun o ho hc Z=>?_;clear Z1
  exact ⟨o,_,ho,hc,by decide⟩
theorem bu {e:Expr} {ds:List D} (c:Cx prog w env X τ ω s) (hh:A.handled=none) (he:EvD prog w A env X s e (.lst ds)):EvI prog w A env X s e ds:=fun s' k =>
 (he.keep k).go fun v s₁ k₁ h₁=>by
  refine Rd.lstE h₁ fun a vs n Z1 hx hg hr=>?_;subst Z1
  exact ⟨k₁,lz hh (c.keep (k.trans k₁)).gd hx hg hr fun I wr St s₂ k₂ it=>⟨k₂,I,wr,St,rfl,it⟩⟩
noncomputable def cA (x:Str):List D:=x.cps.toList.map fun c=>.str ⟨#[c]⟩
theorem qS {e:Expr} {x:Str} (c:Cx prog w env X τ ω s) (hh:A.handled=none) (he:EvD prog w A env X s e (.str x)) (ha:x.cps.all (· < 128)=true):EvI prog w A env X s e (cA x):=by
 revert c hh he ha
 revert prog w A env X τ ω s e x;refine @(dr10 ?_);exists w10 _ _,prog,w,A,env,X,τ,ω,s,e,x
 intro c hh he ha
 exact fun s' k =>
 (he.keep k).go fun v s₁ k₁ h₁=>by
  refine Rd.strE h₁ fun t Z1=>?_;subst Z1
  have g:=(c.keep (k.trans k₁)).gd
  refine ⟨k₁,wpAny_pyIter_ascii ha ⟨Keep.push (tk:=s₁.toks),_,[s₁.heap.objs.size],(fun i h=>h.IsStrIter s₁.heap.objs.size "str_ascii_iterator" x t i),rfl,⟨?_,⟨_,Heap.get?_push_size _ rfl,rfl,rfl⟩,fun b hb=>by rw [ay hb];exact af _,fun b hb=>by rw [ay hb];exact g.top.size,fun i h st b hb=>?_,fun i h st=>?_⟩⟩⟩
  ·have W:=Walks.strAscii (prog:=prog) (w:=w) hh s₁.heap.objs.size x t
   rw [show x.cps.size=(cA x).length by simp [cA]] at W
   refine ⟨_,_,W,fun b hb=>by rw [ay hb];exact ⟨g.fresh,by show (Heap.get? _ _).isSome=true;rw [Heap.get?_push_size _ rfl];rfl⟩,fun i v hv=>?_⟩
   refine ex22 hv fun c' u h1 Z1=>?_;clear hv;subst Z1
   exact ⟨.str ⟨#[c']⟩,by simp [cA,h1],fun h' X' Z=>Rd.str_⟩
  ·rw [ay hb]
   refine ex12 st fun o ho Z=>?_;clear st
   rw [ho];rfl
  ·refine ex13 st fun o ho hc Z=>?_;clear st
   exact ⟨o,_,ho,hc,by decide⟩
noncomputable def aB (a c:Int) (n:Nat):List D:=(List.range n).map fun (i:Nat)=>.int (a + ((i:Nat):Int) * c)
theorem aq (a c:Int) (n:Nat):(aB a c n).length=n:=by simp [aB]
theorem bG {a c:Int} {n i:Nat} {d:D} (h:(aB a c n)[i]?=some d):i < n∧d=.int (a + ((i:Nat):Int) * c):=by
 have hlt:i < n:=by have:=(List.getElem?_eq_some_iff.mp h).1;rwa [aq] at this
 refine ⟨hlt,?_⟩
 simp [aB,hlt] at h
 exact h.symm
theorem dN {r:Addr} {a b c:Int} {t u v:Tok} {n:Nat} {Q:Value→Shared→Prop} (hh:A.handled=none) (g:Gd X s) (hr:IsRange s.heap r a b c t u v) (hsmall:Builtin.Range.small a b c=true) (hsz:Builtin.Range.rangeSize a b c=(n:Int))
  (h:∀ I wr St s₂,Keep [] s s₂→Iter prog w A X (aB a c n) I wr St s s₂→Q (.ref I) s₂):WP prog w A (pyIter (.ref r)) Q s:=by
 revert hh g hr hsmall hsz h
 revert prog w A X s r a b c t u v n Q;refine @(dr14 ?_);exists w14 _ _,prog,w,A,X,s,r,a,b,c,t,u,v,n,Q
 intro hh g hr hsmall hsz h
 refine wpAny_pyIter_range hr hsmall (h _ [s.heap.objs.size] (fun i h=>IsRangeIter h s.heap.objs.size (a + (i:Nat) * c) ((n:Int) - (i:Nat)) c) _ (Keep.push (tk:=s.toks)) ⟨?_,?_,fun b hb=>by rw [ay hb];exact af _,fun b hb=>by rw [ay hb];exact g.top.size,fun i h st b hb=>?_,fun i h st=>?_⟩)
 ·have W:=Walks.range (prog:=prog) (w:=w) hh s.heap.objs.size a c n
  rw [show (aB a c n).length=n from aq a c n]
  have W':=W.bound
  refine ⟨_,_,W',fun b hb=>by rw [ay hb];exact ⟨g.fresh,by show (Heap.get? _ _).isSome=true;rw [Heap.get?_push_size _ rfl];rfl⟩,fun i v hv=>?_⟩
  refine ai hv fun hi Z1=>?_;clear hv;refine ex11 Z1 fun t Z2=>?_;subst Z2;clear Z1
  exact ⟨.int (a + (i:Nat) * c),by simp [aB,hi],fun h' X' Z=>Rd.int_⟩
 ·show IsRangeIter _ _ _ _ _
  rw [hsz]
  simpa using Heap.get?_push_size s.heap (o:=({ cls:=.type "range_iterator",data:=.fields #[rawInt a,rawInt (n:Int),rawInt c] }:Obj)) rfl
 ·rw [ay hb]
  show (h.get? _).isSome=true
  rw [show h.get? s.heap.objs.size=_ from st];rfl
 ·exact ⟨_,_,st,rfl,by decide⟩
theorem bA {f:Str} {q p:Pos} {e:Expr} {n:Nat} (c:Cx prog w env X τ ω s) (hh:A.handled=none) (hf:EvV prog w A env s (.Name f q) (.type "range")) (he:EvBs prog w A env X s [e] [.d (.int n)]) (hn:n < 2 ^ 62) :
  EvI prog w A env X s (.Call (.Name f q) [e] [] p) (aB 0 1 n):=by
 revert c hh hf he hn
 revert prog w A env X τ ω s f q p e n;refine @(dr13 ?_);exists w13 _ _,prog,w,A,env,X,τ,ω,s,f,q,p,e,n
 intro c hh hf he hn
 intro s' k
 have hev:Ev prog w A env (.Call (.Name f q) [e] [] p) s fun s v=>∃ r t u v',v=.ref r∧IsRange s.heap r 0 n 1 t u v':=bz hf he (fun s' Z=>cz) fun vs s' k h=>by
  refine aO h fun v Z1 h1=>?_;subst Z1
  refine h1.intE fun t Z1=>?_;subst Z1
  exact call_range_1 ⟨Keep.push,_,_,_,_,rfl,IsRange.new ..⟩
 refine (hev.keep k).go fun v s₁ k₁ h₁=>?_
 refine ex42 h₁ fun r t u v' Z1 hr=>?_;clear h₁;subst Z1
 exact ⟨k₁,dN (n:=n) hh (c.keep (k.trans k₁)).gd hr (small_one (by decide) (by decide) (by lia) (by exact Int.ofNat_lt.mpr hn)) (by rw [rangeSize_one];split <;> lia) fun I wr St s₂ k₂ it=>⟨k₂,I,wr,St,rfl,it⟩⟩
structure Ce (env:Env) (sc:Scope):Prop where
 kinds:∀ x k,sc.names.lookup x=some k→k≠.free→env.kindOf x=some k
 cells:∀ x,(sc.names.lookup x=some .cell∨sc.names.lookup x=some .free)→(env.cells.lookup x).isSome=true
 free:∀ x,sc.names.lookup x=some .free→env.kindOf x=some .cell∨env.kindOf x=some .free
 own:∀ x c,sc.names.lookup x=some .cell→env.cells.lookup x=some c→env.locals < c
theorem Ce.st {env:Env} {sc:Scope} (c:Ce env sc) {x:Str} (h:(sc.names.lookup x == some .local || sc.names.lookup x == some .cell)=true):Own env x:=by
 refine bQ (Bool.or_eq_true_iff.mp h) (fun q=>?_) fun q=>?_
 ·exact .inl (c.kinds x _ (by simpa using q) (by decide))
 ·have q':sc.names.lookup x=some .cell:=by simpa using q
  refine iS (c.cells x (.inl q')) fun a ha=>?_
  exact .inr ⟨c.kinds x _ q' (by decide),a,ha,c.own x a q' ha⟩
theorem Ce.gl {env:Env} {sc:Scope} (c:Ce env sc) {x:Str} (h:sc.names.lookup x=some .globalImplicit):env.kindOf x=some .globalImplicit:=c.kinds x _ h (by decide)
noncomputable def bK (cells:List (Str×Addr)):List (Str×NameKind)→List (Str×Addr)→List (Str×Addr)
 | [],acc=>acc
 | (n,k)::r,acc=>bK cells r (if k == .free then (n,(cells.lookup n).getD 0)::acc else acc)
theorem bC {scope:Scope} {env:Env} (hf:∀ p∈scope.names,p.2=.free→(env.cells.lookup p.1).isSome=true):closureFor scope env=pure (bK env.cells scope.names []):=by
 unfold closureFor
 have key:∀ (l:List (Str×NameKind)) (acc:List (Str×Addr)),(∀ p∈l,p.2=.free→(env.cells.lookup p.1).isSome=true) →
   (forIn (m:=Sem) l acc fun x cs=>(do
    if x.2 == NameKind.free then do
     let y ← cellOf env x.1
     pure (ForInStep.yield ((x.1,y)::cs))
    else pure (ForInStep.yield cs)))=pure (bK env.cells l acc):=by
  intro l
  induction l with
  | nil=>intro acc Z;rfl
  | cons p r ih =>
   intro acc h
   obtain ⟨n,k⟩:=p
   rw [List.forIn_cons]
   by_cases hk:k=.free
   ·subst hk
    refine iS (h _ (.head _) rfl) fun c hc=>?_
    have e:cellOf env n=pure c:=by unfold cellOf;rw [hc]
    show (((do
     let y ← cellOf env n
     pure (ForInStep.yield ((n,y)::acc))):Sem _) >>= _)=_
    rw [e]
    refine Eq.trans (ih ((n,c)::acc) fun q hq=>h q (.tail _ hq)) ?_
    show _=pure (bK env.cells r (if (NameKind.free == NameKind.free)=true then _ else _))
    simp only [beq_self_eq_true,if_true,hc];rfl
   ·have hb:(k == NameKind.free)=false:=by simpa using hk
    simp only [hb,Bool.false_eq_true,if_false]
    refine Eq.trans (ih acc fun q hq=>h q (.tail _ hq)) ?_
    show _=pure (bK env.cells r (if (k == NameKind.free)=true then _ else acc))
    rw [hb];rfl
 exact (congrArg (fun t=>t >>= fun cs=>pure cs) (key scope.names [] hf)).trans rfl
theorem eA {cells:List (Str×Addr)}:∀ {l:List (Str×NameKind)} {acc:List (Str×Addr)} {p:Str×Addr},p∈bK cells l acc→p∈acc∨((p.1,NameKind.free)∈l∧p.2=(cells.lookup p.1).getD 0)
 | [],_,_,h=>.inl h
 | (n,k)::r,acc,p,h=>by
  unfold bK at h
  refine bQ (eA h) (fun h=>?_) fun h=>?_
  ·by_cases hk:k=.free
   ·subst hk
    simp only [beq_self_eq_true,if_true] at h
    refine mC h (fun Z1=>?_) fun h=>?_;subst Z1
    ·exact .inr ⟨.head _,rfl⟩
    ·exact .inl h
   ·have hb:(k == NameKind.free)=false:=by simpa using hk
    rw [hb] at h;exact .inl h
  ·exact .inr ⟨.tail _ h.1,h.2⟩
theorem gH {cells:List (Str×Addr)}:∀ {l:List (Str×NameKind)} {acc:List (Str×Addr)} {p:Str×Addr},p∈acc→p∈bK cells l acc
 | [],_,_,h=>h
 | (n,k)::r,acc,p,h=>by
  unfold bK
  refine gH ?_
  split
  ·exact .tail _ h
  ·exact h
theorem eB {cells:List (Str×Addr)}:∀ {l:List (Str×NameKind)} {acc:List (Str×Addr)} {n:Str},(n,NameKind.free)∈l→(n,(cells.lookup n).getD 0)∈bK cells l acc
 | (m,k)::r,acc,n,h=>by
  unfold bK
  refine mC h (fun h=>?_) fun h=>?_
  ·cases h
   simp only [beq_self_eq_true,if_true]
   exact gH (.head _)
  ·exact eB h
theorem eQ {cells:List (Str×Addr)}:∀ {l:List (Str×NameKind)} {acc:List (Str×Addr)},(l.map (·.1)).Nodup→(acc.map (·.1)).Nodup→(∀ p∈acc,p.1∉l.map (·.1))→((bK cells l acc).map (·.1)).Nodup
 | [],_,_,h,_=>h
 | (n,k)::r,acc,h1,h2,h3=>by
  unfold bK
  rw [List.map_cons,List.nodup_cons] at h1
  refine eQ h1.2 ?_ fun p hp=>?_
  ·split
   ·rw [List.map_cons,List.nodup_cons]
    refine ⟨fun hm=>?_,h2⟩
    refine mM hm fun p hp e=>?_
    exact h3 p hp (by rw [e];exact List.mem_cons_self ..)
   ·exact h2
  ·split at hp
   ·refine mC hp (fun Z1=>?_) fun hp=>?_;subst Z1
    ·exact h1.1
    ·exact fun hm=>h3 p hp (List.mem_cons_of_mem _ hm)
   ·exact fun hm=>h3 p hp (List.mem_cons_of_mem _ hm)
theorem cI:∀ (l:List (Str×NameKind)) (n:Nat) (acc acc':List (Str×Addr)),cellsFrom n l (acc++acc')=cellsFrom n l acc++acc'
 | [],_,_,_=>rfl
 | (m,k)::r,n,acc,acc'=>by
  unfold cellsFrom
  split
  ·exact cI r (n + 1) ((m,n)::acc) acc'
  ·exact cI r n acc acc'
theorem b6:∀ {l:List (Str×NameKind)} {n:Nat} {acc:List (Str×Addr)} {p:Str×Addr},p∈cellsFrom n l acc→p∈acc∨(p.1,NameKind.cell)∈l
 | [],_,_,_,h=>.inl h
 | (m,k)::r,n,acc,p,h=>by
  unfold cellsFrom at h
  split at h
  ·rename_i hk
   refine bQ (b6 h) (fun h=>?_) fun h=>?_
   ·refine mC h (fun Z1=>?_) fun h=>?_;subst Z1
    ·have:k=.cell:=by simpa using hk
     subst this
     exact .inr (.head _)
    ·exact .inl h
   ·exact .inr (.tail _ h)
  ·exact (b6 h).imp id (.tail _)
theorem cJ:∀ {l:List (Str×NameKind)} {n:Nat} {acc:List (Str×Addr)} {x:Str},(x,NameKind.cell)∈l→x∈(cellsFrom n l acc).map (·.1)
 | (m,k)::r,n,acc,x,h=>by
  unfold cellsFrom
  refine mC h (fun h=>?_) fun h=>?_
  ·cases h
   simp only [beq_self_eq_true,if_true]
   have:∀ (x:Str) (l:List (Str×NameKind)) (n:Nat) (acc:List (Str×Addr)),x∈acc.map (·.1)→x∈(cellsFrom n l acc).map (·.1):=by
    intro x l
    induction l with
    | nil=>intro n acc h;exact h
    | cons p r ih =>
     intro n acc h
     obtain ⟨m,k⟩:=p
     unfold cellsFrom
     split
     ·exact ih _ _ (by rw [List.map_cons];exact .tail _ h)
     ·exact ih _ _ h
   exact this _ _ _ _ (by rw [List.map_cons];exact .head _)
  ·split
   ·exact cJ h
   ·exact cJ h
theorem jE {scope:Scope} {cl:List (Str×Addr)} {globals:Addr} {qual:Str} {outer:Env} {Q:Env→Shared→Prop}
  (h:∀ cenv s',cenv=newEnv scope s.heap.objs.size globals (cellsFrom (s.heap.objs.size + 1) scope.names []++cl) qual none .none (some outer) builtinsNs→Keep [] s s'→s'.heap.Ns s.heap.objs.size (fun Z=>none) →
   CellsOk s'.heap (s.heap.objs.size + 1) (cellsFrom (s.heap.objs.size + 1) scope.names [])→s'.gens=s.gens→Q cenv s') :
  WP prog w A (newFunctionEnv scope globals cl [] qual none .none (some outer)) Q s:=by
 revert h
 revert prog w A s scope cl globals qual outer Q;refine @(dr10 ?_);exists w10 _ _,prog,w,A,s,scope,cl,globals,qual,outer,Q
 intro h
 unfold newFunctionEnv
 dsimp only [Option.isSome_some]
 rw [if_pos rfl]
 refine wpAny_bind (wpAny_alloc ?_)
 refine wpAny_bind (wpAny_layCells _ (fun name kind cells=>by cases hkc:kind == NameKind.cell <;> simp [hkc]) _ _ _ _ ?_)
 have ok:=cellsFrom_ok scope.names (s.heap.push { cls:=.type "dict",data:=.dict #[] }) (s.heap.objs.size + 1) [] ⟨fun Z Z hm=>(nomatch hm),List.Pairwise.nil⟩ (by rw [Heap.size_push];exact Nat.le_refl _)
 rw [Heap.size_push] at ok
 rw [show ({ s with heap:=s.heap.push { cls:=.type "dict",data:=.dict #[] } }:Shared).heap.objs.size=s.heap.objs.size + 1 from Heap.size_push ..]
 have e:=cI scope.names (s.heap.objs.size + 1) [] cl
 rw [List.nil_append] at e
 rw [e]
 exact wpAny_pure (h _ _ rfl (Keep.ext (tk:=s.toks) fun b o e=>pushCells_keeps _ _ b o (Heap.get?_push_of_some _ e)) ((Heap.Ns.new s.heap (.type "dict")).keeps (pushCells_keeps _ _)) ok rfl)
theorem Sx.append (S:Sx prog w s₀ env M X τ ω s) {a:Addr} {ds:List D} {d:D} {v:Value} {ω1 ω2:List (Addr×OD)} {Q:Value→Shared→Prop} (e:ω=ω1++(a,.lst ds)::ω2) (hne:∀ p∈ω1++ω2,p.1≠a)
  (hv:Rd prog w s.heap X d v) (hl:ds.length≤16777216) (h:∀ s',Keep [a] s s'→Sx prog w s₀ env M X τ (ω1++(a,.lst (ds++[d]))::ω2) s'→Q .none s'):WP prog w A (call (.builtin "list.append") [.ref a,v]) Q s:=by
 refine br (S.cx.own (a,.lst ds) (by rw [e];simp)) fun Z1 hX Z=>?_;refine ex22 Z1 fun vs n hg hr=>?_;clear Z1
 refine wpAny_list_append_plain (items:=vs.toArray) ⟨n,hg⟩ (fun h' hp hs=>?_) (by have:=hr.length;simp [this,aM];exact hl)
 refine ex11 hp fun n' hp=>?_
 have hk:∀ b o,b∉X→s.heap.get? b=some o→b∉X∧h'.get? b=some o:=fun b o hb eb=>⟨hb,(hs.2 b fun z=>hb (z ▸ hX)).trans eb⟩
 have ho:OwnAt prog w h' X a (.lst (ds++[d])):=⟨vs++[v],n',by rw [hp];simp,RdL.append (RdL.mv hk _ _ hr) (.one (Rd.mv hk _ _ hv))⟩
 exact h _ (Keep.sameBut (tk:=s.toks) hs (.head _) ho.live) (S.put (tk:=s.toks) e hne hs ho)
noncomputable def EvIf (prog:Program) (w:World) (A:Around) (env:Env) (s:Shared) (ifs:List Expr) (b:Bool):Prop :=
 ∀ s',Keep [] s s'→WP prog w A (forIn ifs true fun c r=>if r=true then do let ok ← isTrue c env (eval c env);pure (ForInStep.yield ok) else pure (ForInStep.yield r)) (fun ok s''=>Keep [] s' s''∧ok=b) s'
theorem bH:EvIf prog w A env s [] true:=fun s' Z=>wpAny_tests_nil ⟨Keep.refl _ _,rfl⟩
theorem qT {e:Expr} {b:Bool} (h:EvT prog w A env s e b):EvIf prog w A env s [e] b:=fun s' k=>wpAny_tests_one ((h.keep k).go fun s₁ k₁=>⟨k₁,rfl⟩)
theorem c9 {scope:Scope} {x:Str}:∀ {names:List (Str×NameKind)} {k:NameKind},names.lookup x=some k→k≠.free →
  (names.map fun (n,k)=>if (k == NameKind.free && env.scope.kind == .function && env.kindOf n == some .cell) then (n,NameKind.cell) else (n,k)).lookup x=some k
 | [],_,h,_=>by exact nO h
 | (n,k')::r,k,h,hk=>by
  have ih:=@c9 scope x r k
  show List.lookup x ((if (k' == NameKind.free && env.scope.kind == .function && env.kindOf n == some .cell)=true then (n,NameKind.cell) else (n,k'))::_)=_
  cases hx:x == n with
  | true =>
   simp only [List.lookup_cons,hx] at h
   refine sE h fun h=>?_;subst h
   have:(k' == NameKind.free)=false:=by simpa using hk
   simp only [this,Bool.false_and,Bool.false_eq_true,if_false,List.lookup_cons,hx]
  | false =>
   simp only [List.lookup_cons,hx] at h
   split <;> (simp only [List.lookup_cons,hx];exact ih h hk)
theorem bx {scope:Scope} {x:Str}:∀ {names:List (Str×NameKind)},names.lookup x=some .free →
  (names.map fun (n,k)=>if (k == NameKind.free && env.scope.kind == .function && env.kindOf n == some .cell) then (n,NameKind.cell) else (n,k)).lookup x=some .cell ∨
  (names.map fun (n,k)=>if (k == NameKind.free && env.scope.kind == .function && env.kindOf n == some .cell) then (n,NameKind.cell) else (n,k)).lookup x=some .free
 | [],h=>by exact nO h
 | (n,k')::r,h=>by
  have ih:=@bx scope x r
  show List.lookup x ((if (k' == NameKind.free && env.scope.kind == .function && env.kindOf n == some .cell)=true then (n,NameKind.cell) else (n,k'))::_)=_∨List.lookup x ((if (k' == NameKind.free && env.scope.kind == .function && env.kindOf n == some .cell)=true then (n,NameKind.cell) else (n,k'))::_)=_
  cases hx:x == n with
  | true =>
   simp only [List.lookup_cons,hx] at h
   refine sE h fun h=>?_;subst h
   split <;> simp [List.lookup_cons,hx]
  | false =>
   simp only [List.lookup_cons,hx] at h
   split <;> (simp only [List.lookup_cons,hx];exact ih h)
theorem aV {x:Str} {k:NameKind} {l:List (Str×NameKind)} (h:l.lookup x=some k):(x,k)∈l:=ak h
theorem jF {l l':List (Str×Addr)} {x:Str} (h:x∉l.map (·.1)):(l++l').lookup x=l'.lookup x:=by
 induction l with
 | nil=>rfl
 | cons p r ih =>
  rw [List.map_cons,List.mem_cons,not_or] at h
  rw [List.cons_append,List.lookup_cons,beq_eq_false_iff_ne.mpr h.1]
  exact ih h.2
theorem fF {l:List (Str×NameKind)} (hn:(l.map (·.1)).Nodup) {x:Str} {k k':NameKind} (h:(x,k)∈l) (h':(x,k')∈l):k=k':=by
 induction l with
 | nil=>exact nM h
 | cons p r ih =>
  rw [List.map_cons,List.nodup_cons] at hn
  refine mC h (fun e=>?_) fun h=>?_ <;> refine mC h' (fun e'=>?_) fun h'=>?_
  ·rw [← e'] at e;exact (Prod.mk.inj e).2
  ·exact absurd (by rw [← e];exact List.mem_map_of_mem (f:=(·.1)) h') hn.1
  ·exact absurd (by rw [← e'];exact List.mem_map_of_mem (f:=(·.1)) h) hn.1
  ·exact ih hn.2 h h'
theorem gn {l:List (Str×Addr)} {x:Str} (h:x∈l.map (·.1)):(l.lookup x).isSome=true:=by
 induction l with
 | nil=>exact nM h
 | cons p r ih =>
  rw [List.lookup_cons]
  cases hx:x == p.1 with
  | true=>rfl
  | false =>
   rw [List.map_cons] at h
   refine mC h (fun e=>?_) fun h=>?_
   ·rw [e] at hx;simp at hx
   ·exact ih h
theorem jG {scope:Scope} {τf:List (Str×Bd)} {X1:List Addr} {s₁ s₂:Shared} {D':Addr} (c:Cx prog w env X τ ω s) (k₁:Keep [] s s₁)
  (hX1:∀ a∈X1,a∈X∨s.heap.get? a=none) (hX:∀ a∈X,a∈X1) (hlA:Liv X1 s₁.heap) (hhA:∀ a∈X1,178≤a)
  (hf:∀ p∈scope.names,p.2=.free→(env.cells.lookup p.1).isSome=true) (hfk:∀ p∈scope.names,p.2=.free→env.kindOf p.1=some .cell∨env.kindOf p.1=some .free) (hnd:(scope.names.map (·.1)).Nodup) (hkind:scope.kind=.function)
  (hτ:Covers τ τf) (hτf:((τf.map (·.1)).all fun x=>scope.names.lookup x == some .free && !(x == ("__classdict__":Str)))=true)
  (hD:s₁.heap.get? D'=some (bo [] 0)) (hDs:s.heap.get? D'=none) (hDX:D'∈X1) (k₂:Keep [] s₁ s₂) {cenv:Env}
  (he:cenv=newEnv scope s₁.heap.objs.size env.globals (cellsFrom (s₁.heap.objs.size + 1) scope.names []++bK env.cells scope.names []) env.qual none .none (some env) builtinsNs)
  (hns:s₂.heap.Ns s₁.heap.objs.size (fun Z=>none)) (hcs:CellsOk s₂.heap (s₁.heap.objs.size + 1) (cellsFrom (s₁.heap.objs.size + 1) scope.names [])) :
  ∃ C:List Addr,(∀ a∈C,s₁.heap.get? a=none)∧cenv.locals∈C∧(∀ p∈cenv.cells,p.2∈C∨p.2∈X)∧Ce { cenv with scope:=relabel scope env } scope ∧
   Sx prog w s₂ { cenv with scope:=relabel scope env } (D'::C) (C++X1) τf [(D',.lst [])] s₂:=by
 revert c k₁ hX1 hX hlA hhA hf hfk hnd hkind hτ hτf hD hDs hDX k₂ he hns hcs
 revert prog w env X τ ω s scope τf X1 s₁ s₂ D' cenv;refine @(dr14 ?_);exists w14 _ _,prog,w,env,X,τ,ω,s,scope,τf,X1,s₁,s₂,D',cenv
 intro c k₁ hX1 hX hlA hhA hf hfk hnd hkind hτ hτf hD hDs hDX k₂ he hns hcs
 subst he
 have kk:∀ b o,s.heap.get? b=some o→s₂.heap.get? b=some o:=fun b o e=>k₂.heap b o (fun h=>nomatch h) (k₁.heap b o (fun h=>nomatch h) e)
 let own:=cellsFrom (s₁.heap.objs.size + 1) scope.names []
 let cl:=bK env.cells scope.names []
 have hcl:∀ p∈cl,(p.1,NameKind.free)∈scope.names∧env.cells.lookup p.1=some p.2:=fun p hp=>by
  rcases eA hp with h | ⟨h1,h2⟩
  ·exact nM h
  ·refine iS (hf _ h1 rfl) fun a ha=>?_
   exact ⟨h1,by rw [h2,ha];rfl⟩
 have hclm:∀ p∈cl,(p.1,p.2)∈env.cells:=fun p hp=>ak (hcl p hp).2
 have hown:∀ p∈own,s₁.heap.objs.size + 1≤p.2:=cP (Nat.le_refl _) fun p hp=>nomatch hp
 have hclnd:(cl.map (·.1)).Nodup:=eQ hnd (by simp) (fun p hp=>nomatch hp)
 have hclx:∀ p∈cl,p.2∈X:=fun p hp=>(c.ok.cel _ (hclm p hp)).1
 have hlive:∀ a∈X,a < s₁.heap.objs.size:=fun a ha=>by
  have:=k₁.live a (c.xlt a ha)
  refine iS this fun o ho=>?_
  exact Heap.lt_size ho
 have hlive1:∀ a∈X1,a < s₁.heap.objs.size:=fun a ha=>by
  refine iS (hlA a ha) fun o ho=>?_
  exact Heap.lt_size ho
 let C:List Addr:=s₁.heap.objs.size::own.map (·.2)
 have hC:∀ a∈C,s₁.heap.objs.size≤a:=fun a ha=>by
  refine mC ha (fun Z1=>?_) fun ha=>?_;subst Z1
  ·exact Nat.le_refl _
  ·refine mM ha fun p hp Z1=>?_;subst Z1
   exact Nat.le_of_succ_le (hown p hp)
 have hCn:∀ a∈C,s₁.heap.get? a=none:=fun a ha=>aU (hC a ha)
 have hsz:178≤s₁.heap.objs.size:=(c.top.mv (h':=s₁.heap) fun a o Z Z e=>k₁.heap a o (fun h=>nomatch h) e).size
 have hlC:Liv C s₂.heap:=fun a ha=>by
  refine mC ha (fun Z1=>?_) fun ha=>?_;subst Z1
  ·exact bV hns
  ·refine mM ha fun p hp Z1=>?_;subst Z1
   exact bI (hcs.empty p.1 p.2 hp).1
 have hnm:∀ p∈own,(p.1,NameKind.cell)∈scope.names:=fun p hp=>(b6 hp).elim (fun h=>nomatch h) id
 have hDC:D' < s₁.heap.objs.size:=Heap.lt_size hD
 have hcell:∀ p∈own++cl,∃ v,s₂.heap.IsCell p.2 v:=fun p hp=>by
  refine mA hp (fun hp=>?_) fun hp=>?_
  ·exact ⟨_,(hcs.empty p.1 p.2 hp).1⟩
  ·refine ex11 (c.cells _ (hclm p hp)) fun v hv=>?_
   exact ⟨v,aA hv fun o=>kk _ o⟩
 have hltX:∀ p∈cl,p.2 < s₁.heap.objs.size:=fun p hp=>hlive _ (hclx p hp)
 have hDn:∀ p∈own++cl,p.2≠D':=fun p hp e=>by
  refine mA hp (fun hp=>?_) fun hp=>?_
  ·exact Nat.lt_irrefl _ (Nat.lt_of_lt_of_le hDC (Nat.le_of_succ_le (e ▸ hown p hp)))
  ·have:=c.xlt _ (hclx p hp)
   rw [e,hDs] at this;exact nB this
 refine ⟨C,hCn,.head _,fun p hp=>(List.mem_append.mp hp).elim (fun hp=>.inl (.tail _ (List.mem_map_of_mem hp))) (fun hp=>.inr (hclx p hp)),⟨fun x k h hk=>c9 (scope:=scope) h hk,fun x h=>?_,fun x h=>bx (scope:=scope) h,fun x a h ha=>?_⟩,
  ⟨⟨⟨hkind,c.ok.glob,c.ok.blt,mL (.head _),fun p hp=>⟨?_,?_⟩,?_⟩,⟨_,hns⟩,hcell,fun x b e=>?_,c.top.mv fun a o Z Z e=>kk a o e,fun a ha=>?_,fun a ha=>?_,fun p hp=>?_⟩,Keep.refl _ _,fun a ha=>?_,.tail _ (.head _),fun p hp hlt=>?_,fun p hp=>?_⟩⟩
 ·show ((own++cl).lookup x).isSome=true
  refine gn ?_
  rw [List.map_append,List.mem_append]
  refine bQ h (fun h=>?_) fun h=>?_
  ·exact .inl (cJ (aV h))
  ·exact .inr (List.mem_map_of_mem (f:=(·.1)) (eB (aV h)))
 ·have hm:(x,a)∈own++cl:=ak ha
  refine mA hm (fun hm=>?_) fun hm=>?_
  ·exact hown _ hm
  ·have:=fF hnd (aV h) (hcl _ hm).1
   cases this
 ·refine mA hp (fun hp=>?_) fun hp=>?_
  ·exact mL (.tail _ (List.mem_map_of_mem hp))
  ·exact mR (hX _ (hclx p hp))
 ·show p.2≠s₁.heap.objs.size
  refine mA hp (fun hp=>?_) fun hp=>?_
  ·exact Nat.ne_of_gt (hown p hp)
  ·exact Nat.ne_of_lt (hltX p hp)
 ·show (own++cl).Pairwise _
  rw [List.pairwise_append]
  refine ⟨hcs.apart,?_,fun p hp q hq=>?_⟩
  ·have:cl.Pairwise fun x y=>x.1≠y.1:=by
    have:=hclnd;rw [List.Nodup,List.pairwise_map] at this;exact this
   refine this.imp_of_mem fun {p q} hp hq hne e=>hne ?_
   exact congrArg Prod.fst (kD c.ok.inj (hclm p hp) (hclm q hq) e)
  ·exact Nat.ne_of_gt (Nat.lt_trans (hltX q hq) (hown p hp))
 ·have hm:=ak e
  refine ex12 (c.vars x b (cE hτ x b e)) fun v q1 q2=>?_
  have hx:=List.all_eq_true.mp hτf x (List.mem_map_of_mem (f:=(·.1)) hm)
  rw [Bool.and_eq_true,Bool.not_eq_true'] at hx
  have hfr:scope.names.lookup x=some .free:=by simpa using hx.1
  refine iS (hf _ (aV hfr) rfl) fun a ha=>?_
  refine ⟨v,?_,(q2.beyond (Y:=C++X1) fun y hy=>?_).keep ((k₁.trans k₂).any)⟩
  ·have hk:=hfk _ (aV hfr) rfl
   have hcl2:(own++cl).lookup x=some a:=by
    rw [jF]
    ·have:=cF hclnd (eB (cells:=env.cells) (acc:=[]) (aV hfr))
     rw [this,ha];rfl
    ·intro hm'
     refine mM hm' fun p hp e'=>?_
     have:=fF hnd (aV hfr) (e' ▸ hnm p hp)
     cases this
   rcases q1 with ⟨hl,_⟩ | ⟨hk',a',ha',hv⟩
   ·refine bQ hk (fun hk=>?_) fun hk=>?_ <;> rw [hl] at hk <;> cases hk
   ·rw [ha] at ha';refine sE ha' fun ha'=>?_;subst ha'
    refine .inr ⟨?_,a,hcl2,aA hv fun o=>kk _ o⟩
    exact (bx (env:=env) (scope:=scope) hfr).imp id fun h=>⟨h,hx.2⟩
  ·refine mA hy (fun hy=>?_) fun hy=>?_
   ·exact .inr (k₁.none_back (hCn y hy))
   ·exact hX1 y hy
 ·refine mA ha (fun ha=>?_) fun ha=>?_
  ·exact hlC a ha
  ·exact hlA.keep k₂ a ha
 ·refine mA ha (fun ha=>?_) fun ha=>?_
  ·exact Nat.le_trans hsz (hC a ha)
  ·exact hhA a ha
 ·cases mS hp
  refine ⟨⟨[],0,k₂.heap _ _ (fun h=>nomatch h) hD,RdL.nil⟩,mR hDX,Nat.ne_of_lt hDC,hDn⟩
 ·refine mC ha (fun Z1=>?_) fun ha=>?_;subst Z1
  ·exact mR hDX
  ·exact mL ha
 ·refine mA hp (fun hp=>?_) fun hp=>?_
  ·exact .tail _ (.tail _ (List.mem_map_of_mem hp))
  ·have:=hltX p hp
   exact absurd hlt (Nat.not_lt.mpr (Nat.le_of_lt this))
 ·cases mS hp
  exact .head _
structure CompOk (prog:Program) (w:World) (A:Around) (env:Env) (X:List Addr) (s:Shared) (t elt:Expr) (ifs:List Expr) (scope:Scope) (τ τf:List (Str×Bd)) (ds:List D) (σ:D→List (Str×Bd)) (pz:D→Bool) (g:D→D):Prop where
 free:∀ p∈scope.names,p.2=.free→(env.cells.lookup p.1).isSome=true
 freeK:∀ p∈scope.names,p.2=.free→env.kindOf p.1=some .cell∨env.kindOf p.1=some .free
 nodup:(scope.names.map (·.1)).Nodup
 kind:scope.kind=.function
 cov:Covers τ τf
 covF:((τf.map (·.1)).all fun x=>scope.names.lookup x == some .free && !(x == ("__classdict__":Str)))=true
 len:ds.length≤16777216
 sig:∀ d∈ds,Covers (σ d++τf) τf
 asg:∀ d∈ds,∀ cenv M,Ce cenv scope→Asg prog w A cenv M t d (σ d)
 test:∀ d∈ds,∀ cenv X' ω s',(∀ a∈X,a∈X')→Ce cenv scope→Cx prog w cenv X' (σ d++τf) ω s'→EvIf prog w A cenv s' ifs (pz d)
 elt:∀ d∈ds,pz d=true→∀ cenv X' ω s',(∀ a∈X,a∈X')→Ce cenv scope→Cx prog w cenv X' (σ d++τf) ω s'→EvD prog w A cenv X' s' elt (g d)
theorem OwnAt.beyond {Y:List Addr} {h:Heap} {a:Addr} {od:OD} (hs:∀ b∈Y,b∈X∨h.get? b=none) (x:OwnAt prog w h X a od):OwnAt prog w h Y a od :=
 x.mv (fun b o hb e=>⟨fun hm=>(hs b hm).elim hb fun z=>(by rw [z] at e;exact nO e),e⟩) fun Z e=>e
theorem Sx.take {ωn:List (Addr×OD)} (S:Sx prog w s₀ env M X τ ω s) (h:∀ p∈ωn,OwnAt prog w s.heap X p.1 p.2∧p.1∈X∧p.1≠env.locals∧∀ c∈env.cells,c.2≠p.1):Sx prog w s₀ env (ωn.map (·.1)++M) X τ (ωn++ω) s:=by
 obtain ⟨⟨h1,h2,h3,h4,h5,h6,h7,h12⟩,h8,h9,h10,h11,h13⟩:=S
 refine ⟨⟨h1,h2,h3,h4,h5,h6,h7,fun p hp=>(List.mem_append.mp hp).elim (h p) (h12 p)⟩,h8.more fun a ha=>mR ha,fun a ha=>?_,mR h10,fun p hp hl=>mR (h11 p hp hl),fun p hp=>?_⟩
 ·refine mA ha (fun ha=>?_) fun ha=>?_
  ·refine mM ha fun p hp Z1=>?_;subst Z1;exact (h p hp).2.1
  ·exact h9 a ha
 ·exact (List.mem_append.mp hp).elim (fun hp=>mL (List.mem_map_of_mem hp)) fun hp=>mR (h13 p hp)
theorem mQ {t iter elt:Expr} {ifs:List Expr} {cs:List Comprehension} {scope:Scope} {pos:Pos} {τf:List (Str×Bd)} {ds:List D} {σ:D→List (Str×Bd)} {O:Nat→Tok→List (Addr×OD)} {u0:Tok} {acc:Nat→List D} {It:Env→Value→(Shared→Prop)→Shared→Prop} {use:Option (Value→Sem Unit)} {Q:Value→Shared→Prop}
  (c:Cx prog w env X τ ω s) (hO:∀ p∈O 0 u0,p∈ω) (hOa:∀ i u,(O i u).map (·.1)=(O 0 u0).map (·.1)) (hi:EvI prog w A env X s iter ds)
  (hfree:∀ p∈scope.names,p.2=.free→(env.cells.lookup p.1).isSome=true) (hfreeK:∀ p∈scope.names,p.2=.free→env.kindOf p.1=some .cell∨env.kindOf p.1=some .free) (hnodup:(scope.names.map (·.1)).Nodup) (hkind:scope.kind=.function)
  (hcov:Covers τ τf) (hcovF:((τf.map (·.1)).all fun x=>scope.names.lookup x == some .free && !(x == ("__classdict__":Str)))=true) (hacc:acc 0=[]) (hsig:∀ d∈ds,Covers (σ d++τf) τf) (hasg:∀ d∈ds,∀ cenv M,Ce cenv scope→Asg prog w A cenv M t d (σ d))
  (lp:∀ (cenv:Env) (it ac:Value) (R:Result→Shared→Prop) (I:Nat→Shared→Prop),(∀ n s,I n s→wpAny (model prog w) A (pyNext it) (fun r s₁=>match r with
   | none=>R (.ok .next) s₁
   | some v=>WP prog w A (letOwnedTupleGo t it v) (fun Z s₂=>WP prog w A (assign t cenv v) (fun Z s₃=>It cenv ac (fun s₄=>∃ m,m < n∧I m s₄) s₃) s₂) s₁) (fun Z Z=>False) s) →
   ∀ n s,I n s→codeAny (model prog w) A (.compLoop (.ListComp elt (⟨t,iter,ifs,0⟩::cs) scope pos) 0 it ac cenv) R s)
  (item:∀ i d u,ds[i]?=some d→i < ds.length→∀ cenv M' X' D' s₅ (K:Shared→Prop),(∀ a∈X,a∈X')→Ce cenv scope→D'∉(O 0 u0).map (·.1)→Sx prog w s₅ cenv M' X' (σ d++τf) (O i u++[(D',.lst (acc i))]) s₅ →
   (∀ s₆ u',Sx prog w s₅ cenv M' X' (σ d++τf) (O (i + 1) u'++[(D',.lst (acc (i + 1)))]) s₆→K s₆)→It cenv (.ref D') K s₅)
  (fin:∀ D' C' s' m vs n u,s.heap.get? D'=none→s.heap.get? C'=none→D'≠C'→178≤D'→178≤C'→Keep ((O 0 u0).map (·.1)) s s'→s'.heap.get? D'=some (bo vs n)→RdL prog w s'.heap (D'::C'::X) (acc ds.length) vs →
   (∀ p∈O ds.length u,OwnAt prog w s'.heap (D'::C'::X) p.1 p.2)→s'.heap.Ns C' m→compPost (model prog w) A (fun Z Z=>False) use Q (.ref D') C' (.ok .next) s') :
  WP prog w A (eval iter env) (fun x s₁=>WP prog w A (pyIter x) (fun it s₂=>WP prog w A (newList []) (fun acc s₃ =>
   WP prog w A (newFunctionEnv scope env.globals (bK env.cells scope.names []) [] env.qual none .none (some env)) (fun cenv s₄ =>
    codeAny (model prog w) A (.compStart (.ListComp elt (⟨t,iter,ifs,0⟩::cs) scope pos) 0 it acc { cenv with scope:=relabel scope env }) (compPost (model prog w) A (fun Z Z=>False) use Q acc cenv.locals) s₄) s₃) s₂) s₁) s:=by
 revert c hO hOa hi hfree hfreeK hnodup hkind hcov hcovF hacc hsig hasg lp item fin
 revert cs scope pos τf ds σ O u0 acc It use Q
 revert prog w A env X τ ω s t iter elt ifs;refine @(dr12 ?_);exists w12 _ _,prog,w,A,env,X,τ,ω,s,t,iter,elt,ifs
 intro cs scope pos τf ds σ O u0 acc It use Q
 revert cs scope pos τf ds σ O u0 acc It use Q;refine @(dr12 ?_);exists w12 _ _,cs,scope,pos,τf,ds,σ,O,u0,acc,It,use,Q
 intro c hO hOa hi hfree hfreeK hnodup hkind hcov hcovF hacc hsig hasg lp item fin
 refine wpAny_mono (hi s (Keep.refl _ _)) (fun v s₁ q=>wpAny_mono q.2 (fun it s₂ q₂=>?_) fun Z Z z=>z) fun Z Z z=>z
 refine ai q₂ fun k₂ Z1=>?_;clear q₂;refine ex32 Z1 fun I wr St Z2 Z3=>?_;subst Z2;rcases Z3 with ⟨⟨fp,P,W,hfp,hP⟩,hst,hnew,hhi,hlive,hgo⟩;clear Z1
 have k₁:=q.1
 have c₁:=c.keep k₁
 have hYX:∀ a∈(O 0 u0).map (·.1),a∈X:=fun a ha=>by
  refine mM ha fun p hp Z1=>?_;subst Z1;exact (c.own p (hO p hp)).2.1
 refine wpAny_newList (s:=s₂) ?_ (Nat.zero_le _)
 generalize hs3:({ s₂ with heap:=s₂.heap.push { cls:=.type "list",data:=.seq ([]:List Value).toArray } }:Shared)=s₃
 generalize hD':s₂.heap.objs.size=D'
 have k₃:Keep [] s₂ s₃:=by rw [← hs3];exact Keep.push (tk:=s₂.toks)
 have hDg:s₃.heap.get? D'=some (bo [] 0):=by rw [← hs3,← hD'];exact Heap.get?_push_size _ rfl
 have hDB:s₂.heap.get? D'=none:=by rw [← hD'];exact af _
 have hDs:s.heap.get? D'=none:=(k₁.trans k₂).none_back hDB
 have hD178:178≤D':=by rw [← hD'];exact (c₁.keep k₂).top.size
 have hwl2:Liv wr s₂.heap:=hlive _ _ hst
 have hwD:∀ b∈wr,b≠D':=fun b hb e=>by have:=hwl2 b hb;rw [e,hDB] at this;exact nB this
 have kall:Keep [] s s₃:=(k₁.trans k₂).trans k₃
 have hYs:∀ a∈(O 0 u0).map (·.1),(s.heap.get? a).isSome=true:=fun a ha=>c.xlt a (hYX a ha)
 have hYD:D'∉(O 0 u0).map (·.1):=fun hm=>by have:=hYs _ hm;rw [hDs] at this;exact nB this
 have hYw:∀ a∈(O 0 u0).map (·.1),a∉wr:=fun a ha hm=>by have:=hYs _ ha;rw [k₁.none_back (hnew a hm)] at this;exact nB this
 refine jE fun cenv s₄ he k₄ hns hcs Z=>?_
 refine ex15 (jG (τf:=τf) (X1:=wr++(D'::X)) c kall (fun a ha=>by
   refine mA ha (fun ha=>?_) fun ha=>?_
   ·exact .inr (k₁.none_back (hnew a ha))
   ·refine mC ha (fun Z1=>?_) fun ha=>?_;subst Z1
    ·exact .inr hDs
    ·exact .inl ha) (fun a ha=>mR (.tail _ ha)) (fun a ha=>by
   refine mA ha (fun ha=>?_) fun ha=>?_
   ·exact k₃.live a (hwl2 a ha)
   ·refine mC ha (fun Z1=>?_) fun ha=>?_;subst Z1
    ·rw [hDg];rfl
    ·exact kall.live a (c.xlt a ha)) (fun a ha=>by
   refine mA ha (fun ha=>?_) fun ha=>?_
   ·exact hhi a ha
   ·refine mC ha (fun Z1=>?_) fun ha=>?_;subst Z1
    ·exact hD178
    ·exact c.xhi a ha) hfree hfreeK hnodup hkind hcov hcovF hDg hDs (mR (.head _)) k₄ he hns hcs) fun C hC hloc hcells ce S=>?_
 have hYC:∀ a∈(O 0 u0).map (·.1),a∉C:=fun a ha hm=>by have:=hYs _ ha;rw [kall.none_back (hC a hm)] at this;exact nB this
 have hcne:∀ p∈cenv.cells,∀ q∈O 0 u0,p.2≠q.1:=fun p hp q hq e=>by
  rw [he] at hp
  refine mA (show p∈cellsFrom (s₃.heap.objs.size + 1) scope.names []++bK env.cells scope.names [] from hp) (fun hp=>?_) fun hp=>?_
  ·have h1:s₃.heap.objs.size + 1≤p.2:=cP (n:=s₃.heap.objs.size + 1) (acc:=[]) (Nat.le_refl _) (fun p hp=>nomatch hp) p hp
   refine iS (kall.live _ (hYs q.1 (List.mem_map_of_mem hq))) fun o ho=>?_
   have h3:=Heap.lt_size ho
   rw [← e] at h3
   exact absurd h3 (Nat.not_lt.mpr (Nat.le_of_succ_le h1))
  ·rcases eA hp with h | ⟨h1,h2⟩
   ·exact nM h
   ·refine iS (hfree _ h1 rfl) fun a ha=>?_
    refine (c.own q (hO q hq)).2.2.2 (p.1,a) (ak ha) ?_
    rw [← e,h2,ha];rfl
 have S':=S.take (ωn:=O 0 u0) fun p hp=>by
  refine dS (c.own p (hO p hp)) fun o1 o2 o3 o4=>?_
  have hXX:p.1∈C++(wr++(D'::X)):=mR (mR (.tail _ o2))
  refine ⟨?_,hXX,fun e=>hYC p.1 (List.mem_map_of_mem hp) (e ▸ hloc),fun q hq=>hcne q hq p hp⟩
  refine (o1.beyond (Y:=C++(wr++(D'::X))) fun b hb=>?_).mv (fun b o hb e=>⟨hb,k₄.heap b o (fun z=>nomatch z) (kall.heap b o (fun z=>nomatch z) e)⟩) fun o e=>k₄.heap _ o (fun z=>nomatch z) (kall.heap _ o (fun z=>nomatch z) e)
  refine mA hb (fun hb=>?_) fun hb=>?_
  ·exact .inr (kall.none_back (hC b hb))
  ·refine mA hb (fun hb=>?_) fun hb=>?_
   ·exact .inr (k₁.none_back (hnew b hb))
   ·refine mC hb (fun Z1=>?_) fun hb=>?_;subst Z1
    ·exact .inr hDs
    ·exact .inl hb
 have hstl:St 0 s₄.heap:=W.frame _ _ _ hst fun b Z o e=>k₄.heap b o (fun h=>nomatch h) (k₃.heap b o (fun h=>nomatch h) e)
 let Y:=(O 0 u0).map (·.1)
 have hwM:∀ b∈wr,b∉Y++(D'::C):=fun b hb hm=>by
  refine mA hm (fun hm=>?_) fun hm=>?_
  ·exact hYw b hm hb
  ·refine mC hm (fun e=>?_) fun hm=>?_
   ·exact hwD b hb e
   ·have:=k₃.live b (hwl2 b hb)
    rw [hC b hm] at this;exact nB this
 have hwC:∀ p∈cenv.cells,p.2∉wr:=fun p hp hm=>by
  refine bQ (hcells p hp) (fun h=>?_) fun h=>?_
  ·exact hwM _ hm (mR (.tail _ h))
  ·have:=c₁.xlt _ h
   rw [hnew _ hm] at this;exact nB this
 have hfM:∀ b∈fp,b∉Y++(D'::C):=fun b hb hm=>by
  have hb2:=(hfp b hb).2
  refine mA hm (fun hm=>?_) fun hm=>?_
  ·exact (hfp b hb).1 (hYX b hm)
  ·refine mC hm (fun e=>?_) fun hm=>?_
   ·rw [e,hDB] at hb2;exact nB hb2
   ·have:=k₃.live b hb2
    rw [hC b hm] at this;exact nB this
 have loop:codeAny (model prog w) A (.compLoop (.ListComp elt (⟨t,iter,ifs,0⟩::cs) scope pos) 0 (.ref I) (.ref D') { cenv with scope:=relabel scope env }) (compPost (model prog w) A (fun Z Z=>False) use Q (.ref D') cenv.locals) s₄:=by
  refine lp _ _ _ _ (fun n s'=>∃ i u,n=ds.length - i∧i≤ds.length∧Keep (wr++(Y++(D'::C))) s₄ s'∧Sx prog w s' { cenv with scope:=relabel scope env } (Y++(D'::C)) (C++(wr++(D'::X))) τf (O i u++[(D',.lst (acc i))]) s'∧St i s'.heap)
   (fun n s' hI=>?_) ds.length _ ⟨0,u0,rfl,Nat.zero_le _,Keep.refl _ _,by rw [hacc];exact S'.rebase,hstl⟩
  refine ex25 hI fun i u Z1 hil kI SI hSt=>?_;clear hI;subst Z1
  by_cases hlt:i < ds.length
  ·refine W.item i s' _ _ hlt hSt fun v h₁ tk1 hPv hstA hkA=>?_
   refine ex12 (hP i v hPv) fun d hd hrd=>?_
   have hdm:d∈ds:=List.mem_of_getElem? hd
   refine ai (SI.other (Y:=wr) hkA (fun b hb Z=>hlive _ _ hstA b hb) (fun b hb=>mR (mL hb)) hwM hwC (tk:=tk1)) fun Sa ka=>?_
   refine ex23 (hgo _ _ hstA) fun oI nI g1 g2 g3=>?_
   have hrd':Rd prog w h₁ (C++(wr++(D'::X))) d v:=hrd h₁ _ fun a o ha e=>by
    have haw:a∉wr:=fun hm=>by rw [hnew a hm] at e;exact nO e
    have h2:=k₂.heap a o (fun h=>nomatch h) e
    have haD:a≠D':=fun z=>by rw [z,hDB] at h2;exact nO h2
    have h3:=k₃.heap a o (fun h=>nomatch h) h2
    have haC:a∉C:=fun hm=>by rw [hC a hm] at h3;exact nO h3
    have haY:a∉Y:=fun hm=>ha (hYX a hm)
    have h4:=kI.heap a o (fun hm=>(List.mem_append.mp hm).elim haw fun hm=>(List.mem_append.mp hm).elim haY fun hm=>(List.mem_cons.mp hm).elim haD haC) (k₄.heap a o (fun h=>nomatch h) h3)
    exact ⟨fun hm=>(List.mem_append.mp hm).elim haC fun hm=>(List.mem_append.mp hm).elim haw fun hm=>(List.mem_cons.mp hm).elim haD ha,hkA a o haw h4⟩
   dsimp only
   refine wpAny_mono (cg (s:={ s' with heap:=h₁,toks:=tk1 }) g1 g2 g3 ?_) (fun Z Z z=>z) fun Z Z z=>z.elim
   have hXX:∀ a∈X,a∈C++(wr++(D'::X)):=fun a ha=>mR (mR (.tail _ ha))
   have hM:∀ b∈Y++(D'::C),b∈wr++(Y++(D'::C)):=fun b hb=>mR hb
   have hW:∀ b∈wr,b∈wr++(Y++(D'::C)):=fun b hb=>mL hb
   have stay:∀ {s₅:Shared},Keep (Y++(D'::C)) { s' with heap:=h₁,toks:=tk1 } s₅→St (i + 1) s₅.heap:=fun k=>W.frame _ _ _ hstA fun b hb o e=>k.heap b o (hfM b hb) e
   refine wpAny_mono (hasg d hdm _ _ ce _ _ _ _ _ v _ Sa hrd' fun s₅ k₅ S5=>?_) (fun Z Z z=>z) fun Z Z z=>z.elim
   have kend:∀ {s₇:Shared},Keep (Y++(D'::C)) { s' with heap:=h₁,toks:=tk1 } s₇→Keep (wr++(Y++(D'::C))) s₄ s₇:=fun k=>(kI.trans (ka.more hW)).trans (k.more hM)
   refine item i d u hd hlt _ _ _ D' s₅ _ hXX ce hYD S5.rebase fun s₈ u' S8=>?_
   have k08:=k₅.trans S8.base
   exact ⟨ds.length - (i + 1),by lia,i + 1,u',rfl,hlt,kend k08,S8.rebase.cover (hsig d hdm),stay k08⟩
  ·have hi':i=ds.length:=by lia
   subst hi'
   refine W.done s' _ _ hSt fun h₁ tk1 hkA=>?_
   dsimp only
   have hsl:∀ a o,a∉Y→s.heap.get? a=some o→h₁.get? a=some o:=fun a o ha e=>by
    have haw:a∉wr:=fun hm=>by rw [k₁.none_back (hnew a hm)] at e;exact nO e
    have h3:=kall.heap a o (fun h=>nomatch h) e
    have haC:a∉C:=fun hm=>by rw [hC a hm] at h3;exact nO h3
    have haD:a≠D':=fun z=>by rw [z,hDs] at e;exact nO e
    exact hkA a o haw (kI.heap a o (fun hm=>(List.mem_append.mp hm).elim haw fun hm=>(List.mem_append.mp hm).elim ha fun hm=>(List.mem_cons.mp hm).elim haD haC) (k₄.heap a o (fun h=>nomatch h) h3))
   refine ai (SI.cx.own (D',.lst (acc ds.length)) (mR (.head _))) fun Z1 Z=>?_;refine ex22 Z1 fun vs n e1 e2=>?_;clear Z1
   refine ex11 SI.cx.ns fun m hm=>?_
   have hlw:cenv.locals∉wr:=fun h=>hwM _ h (mR (.tail _ hloc))
   have hDw:D'∉wr:=fun h=>hwM _ h (mR (.head _))
   have hmv:∀ a o,a∉C++(wr++(D'::X))→s'.heap.get? a=some o→a∉D'::cenv.locals::X∧h₁.get? a=some o:=fun a o ha e=>⟨fun hm=>by
    refine mC hm (fun Z1=>?_) fun hm=>?_;subst Z1
    ·exact ha (mR (mR (.head _)))
    ·refine mC hm (fun Z1=>?_) fun hm=>?_;subst Z1
     ·exact ha (mL hloc)
     ·exact ha (mR (mR (.tail _ hm))),hkA a o (fun h=>ha (mR (mL h))) e⟩
   refine fin D' cenv.locals { s' with heap:=h₁,toks:=tk1 } m vs n u hDs (kall.none_back (hC _ hloc)) (fun e=>?_) hD178 (SI.cx.xhi _ (SI.sub _ SI.mloc)) ?_ (hkA _ _ hDw e1) ?_ (fun p hp=>?_) (aW hm fun o e=>hkA _ o hlw e)
   ·have:=hC _ hloc;rw [← e,hDg] at this;exact nO this.symm
   ·have kk:=(kall.trans k₄).any.trans kI
    exact ⟨fun a o ha e=>hsl a o ha e,fun a ha=>by
     have h2:=kk.live a ha
     cases e:s'.heap.get? a with
     | none=>rw [e] at h2;exact nB h2
     | some o =>
      show (h₁.get? a).isSome=true
      rw [hkA a o (fun hm=>by rw [k₁.none_back (hnew a hm)] at ha;exact nB ha) e];rfl,kk.gens,kk.bare,kk.os⟩
   ·exact RdL.mv hmv _ _ e2
   ·have hpY:p.1∈Y:=by show p.1∈(O 0 u0).map (·.1);rw [← hOa ds.length u];exact List.mem_map_of_mem hp
    exact (SI.cx.own p (mL hp)).1.mv hmv fun o e=>hkA _ o (hYw p.1 hpY) e
 refine codeAny_compStart_list (prog:=prog) (w:=w) (A:=A) loop ?_
 refine W.self 0 _ _ _ hstl loop
noncomputable abbrev tF (prog:Program) (w:World) (A:Around) (elt:Expr) (ifs:List Expr) (cenv:Env) (ac:Value) (K:Shared→Prop) (s:Shared):Prop :=
 WP prog w A (forIn ifs true fun c r=>if r=true then do let ok ← isTrue c cenv (eval c cenv);pure (ForInStep.yield ok) else pure (ForInStep.yield r)) (fun ok s₃ =>
  if ok=true then WP prog w A (eval elt cenv) (fun x s₄=>WP prog w A (call (.builtin "list.append") [ac,x]) (fun Z=>K) s₄) s₃ else K s₃) s
theorem uy {t iter elt:Expr} {ifs:List Expr} {scope:Scope} {pos:Pos} (cenv:Env) (it ac:Value) (R:Result→Shared→Prop) (I:Nat→Shared→Prop) (turn:∀ n s,I n s→wpAny (model prog w) A (pyNext it) (fun r s₁=>match r with
   | none=>R (.ok .next) s₁
   | some v=>WP prog w A (letOwnedTupleGo t it v) (fun Z s₂=>WP prog w A (assign t cenv v) (fun Z s₃=>tF prog w A elt ifs cenv ac (fun s₄=>∃ m,m < n∧I m s₄) s₃) s₂) s₁) (fun Z Z=>False) s)
  (n:Nat) (s:Shared) (h:I n s):codeAny (model prog w) A (.compLoop (.ListComp elt [⟨t,iter,ifs,0⟩] scope pos) 0 it ac cenv) R s:=by
 refine mP I (fun n s hI=>wpAny_mono (turn n s hI) (fun r s₁ q=>?_) fun Z Z z=>z.elim) n h
 cases r with
 | none=>exact q
 | some v =>
  refine wpAny_mono q (fun Z s₂ q=>wpAny_mono q (fun Z s₃ q=>wpAny_mono q (fun ok s₄ q=>?_) fun Z Z z=>z.elim) fun Z Z z=>z.elim) fun Z Z z=>z.elim
  cases ok with
  | true=>exact wpAny_mono q (fun x s₅ q=>wpAny_mono q (fun Z Z z=>z) fun Z Z z=>z.elim) fun Z Z z=>z.elim
  | false=>exact q
theorem gI {t iter elt:Expr} {ifs:List Expr} {scope:Scope} {pos:Pos} {τf:List (Str×Bd)} {ds:List D} {σ:D→List (Str×Bd)} {pz:D→Bool} {g:D→D} {use:Option (Value→Sem Unit)} {Q:Value→Shared→Prop}
  (c:Cx prog w env X τ ω s) (hi:EvI prog w A env X s iter ds) (ok:CompOk prog w A env X s t elt ifs scope τ τf ds σ pz g)
  (fin:∀ D' C' s' m f vs n,s.heap.get? D'=none→s.heap.get? C'=none→D'≠C'→178≤D'→178≤C'→Keep [] s s'→s'.heap.get? D'=some (bo vs n)→RdL prog w s'.heap (D'::C'::X) ((ds.filter pz).map g) vs→s'.heap.Ns C' m →
   compPost (model prog w) A (fun Z Z=>False) use Q (.ref D') C' (.ok f) s') :
  WP prog w A (eval iter env) (fun x s₁=>WP prog w A (pyIter x) (fun it s₂=>WP prog w A (newList []) (fun acc s₃ =>
   WP prog w A (newFunctionEnv scope env.globals (bK env.cells scope.names []) [] env.qual none .none (some env)) (fun cenv s₄ =>
    codeAny (model prog w) A (.compStart (.ListComp elt [⟨t,iter,ifs,0⟩] scope pos) 0 it acc { cenv with scope:=relabel scope env }) (compPost (model prog w) A (fun Z Z=>False) use Q acc cenv.locals) s₄) s₃) s₂) s₁) s:=by
 revert c hi ok fin
 revert ifs scope pos τf ds σ pz g use Q
 revert prog w A env X τ ω s t iter elt;refine @(dr11 ?_);exists w11 _ _,prog,w,A,env,X,τ,ω,s,t,iter,elt
 intro ifs scope pos τf ds σ pz g use Q
 revert ifs scope pos τf ds σ pz g use Q;refine @(dr10 ?_);exists w10 _ _,ifs,scope,pos,τf,ds,σ,pz,g,use,Q
 intro c hi ok fin
 refine mQ (O:=fun Z Z=>[]) (u0:=0) (acc:=fun i=>((ds.take i).filter pz).map g) (It:=tF prog w A elt ifs) c (fun Z h=>nomatch h) (fun Z Z=>rfl) hi ok.free ok.freeK ok.nodup ok.kind ok.cov ok.covF rfl ok.sig ok.asg uy (fun i d u hd hlt cenv M' X' D' s₅ K hXX ce Z S5 hK=>?_)
  fun D' C' s' m vs n Z h1 h2 h3 h4 h5 h6 h7 h8 Z h9=>fin D' C' s' m .next vs n h1 h2 h3 h4 h5 h6 h7 (by rw [List.take_length] at h8;exact h8) h9
 have hdm:d∈ds:=List.mem_of_getElem? hd
 refine wpAny_mono (ok.test d hdm _ _ _ s₅ hXX ce S5.cx s₅ (Keep.refl _ _)) (fun b s₆ h₆=>?_) fun Z Z z=>z.elim
 refine ai h₆ fun k₆ Z1=>?_;clear h₆;subst Z1
 have S6:=S5.keep k₆
 have hstep:(ds.take (i + 1)).filter pz=(ds.take i).filter pz++(if pz d then [d] else []):=take_succ_filter pz ds i d hd
 cases hpz:pz d with
 | false =>
  refine mF (by decide) (hK s₆ 0 ?_)
  rw [hstep,hpz,if_neg (by decide),List.append_nil]
  exact S6
 | true =>
  refine r7 rfl ?_
  refine wpAny_mono ((ok.elt d hdm hpz _ _ _ s₆ hXX ce S6.cx).go fun y s₇ k₇ h₇=>?_) (fun Z Z z=>z) fun Z Z z=>z.elim
  have S7:=S6.keep k₇
  have hlen:(((ds.take i).filter pz).map g).length≤16777216:=by
   rw [List.length_map]
   have h1:=List.length_filter_le pz (ds.take i)
   have h2:(ds.take i).length≤ds.length:=by rw [List.length_take];exact Nat.min_le_right ..
   have:=ok.len;lia
  refine wpAny_mono (S7.append (ω1:=[]) (ω2:=[]) rfl (fun p hp=>nomatch hp) h₇ hlen fun s₈ k₈ S8=>?_) (fun Z Z z=>z) fun Z Z z=>z.elim
  refine hK s₈ 0 ?_
  rw [hstep,hpz,if_pos rfl,List.map_append]
  exact S8
theorem dc {t iter elt:Expr} {ifs:List Expr} {scope:Scope} {pos:Pos} {τf:List (Str×Bd)} {ds:List D} {σ:D→List (Str×Bd)} {pz:D→Bool} {g:D→D}
  (c:Cx prog w env X τ ω s) (hi:EvI prog w A env X s iter ds) (ok:∀ s',Keep [] s s'→CompOk prog w A env X s' t elt ifs scope τ τf ds σ pz g)
  (hnames:∀ x∈scope.names,x.2=.local→scope.names.lookup x.1=some .local) (hs:autoParam (∀ x,foldedSetIterable iter env x=pure x) e8._auto_1) :
  EvD prog w A env X s (.ListComp elt [⟨t,iter,ifs,0⟩] scope pos) (.lst ((ds.filter pz).map g)):=fun s' k=>by
 have ok':=ok s' k
 have c':=c.keep k
 rw [eval_ListComp]
 refine wpAny_comprehension_free (g:=⟨t,iter,ifs,0⟩) (gs:=[]) rfl hs (bC ok'.free) ok'.kind hnames ?_
 refine gI (use:=none) c' (hi.keep k) ok' fun D' C' s₁ m f vs n hD hC hDC hD178 hC178 k₁ hg hr hns=>⟨m,hns,fun h' hsb=>?_⟩
 have hk:∀ a o,s'.heap.get? a=some o→h'.get? a=some o:=fun a o e=>by
  have:a≠C':=fun z=>by rw [z,hC] at e;exact nO e
  exact (hsb.2 a this).trans (k₁.heap a o (fun h=>nomatch h) e)
 refine ⟨⟨fun a o Z e=>hk a o e,fun a ha=>by
  refine iS ha fun o ho=>?_
  show (h'.get? a).isSome=true;rw [hk a o ho];rfl,k₁.gens,k₁.bare,k₁.os⟩,?_⟩
 refine Rd.lst_ (n:=n) (c'.xlt.fresh hD) ((hsb.2 D' hDC).trans hg) (RdL.mv (fun a o ha e=>⟨fun hm=>ha (.tail _ (.tail _ hm)),(hsb.2 a fun z=>ha (z ▸ .tail _ (.head _))).trans e⟩) _ _ hr)
theorem kG (S:Sx prog w s₀ env M X τ ω s) {y:Str} {py p:Pos} {t iter elt:Expr} {ifs:List Expr} {scope:Scope} {pos:Pos} {τf:List (Str×Bd)} {ds:List D} {σ:D→List (Str×Bd)} {pz:D→Bool} {g:D→D} {rest:List Stmt} {Q:Flow→Shared→Prop}
  (hy:Own env y) (hsw:swapsWith (.ListComp elt [⟨t,iter,ifs,0⟩] scope pos) (some (.Name y py)) p.line env=pure true)
  (hi:EvI prog w A env X s iter ds) (ok:CompOk prog w A env X s t elt ifs scope τ τf ds σ pz g)
  (hnames:∀ x∈scope.names,x.2=.local→scope.names.lookup x.1=some .local)
  (h:∀ s',Sx prog w s₀ env M X ((y,.d (.lst ((ds.filter pz).map g)))::τ) ω s'→WP prog w A (execs rest env) Q s')
  (hs:autoParam (∀ x,foldedSetIterable iter env x=pure x) e8._auto_1) :
  WP prog w A (execs (.Assign [.Name y py] (.ListComp elt [⟨t,iter,ifs,0⟩] scope pos) p::rest) env) Q s:=by
 revert S hy hsw hi ok hnames h hs
 revert t iter elt ifs scope pos τf ds σ pz g rest Q
 revert prog w A env M X τ ω s s₀ y py p;refine @(dr13 ?_);exists w13 _ _,prog,w,A,env,M,X,τ,ω,s,s₀,y,py,p
 intro t iter elt ifs scope pos τf ds σ pz g rest Q
 revert t iter elt ifs scope pos τf ds σ pz g rest Q;refine @(dr13 ?_);exists w13 _ _,t,iter,elt,ifs,scope,pos,τf,ds,σ,pz,g,rest,Q
 intro S hy hsw hi ok hnames h hs
 refine aK ?_
 rw [exec_Assign_Name_used _ _ _ _ hsw]
 refine wpAny_bind (wpAny_standAt (wpAny_bind ?_))
 show WP prog w A (comprehension (.ListComp elt [⟨t,iter,ifs,0⟩] scope pos) scope env (firstIterPos [⟨t,iter,ifs,0⟩] pos) (newList []) (firstAsync [⟨t,iter,ifs,0⟩]) (firstIter [⟨t,iter,ifs,0⟩] env) (some (assign (.Name y py) env)) >>= fun Z=>pure ()) _ s
 refine wpAny_bind (wpAny_mono (Q:=fun Z s'=>c5 prog w A env rest Q .next s') ?_ (fun Z s' q=>wpAny_pure (wpAny_pure q)) fun Z Z z=>z)
 refine wpAny_comprehension_free (g:=⟨t,iter,ifs,0⟩) (gs:=[]) rfl hs (bC ok.free) ok.kind hnames ?_
 refine gI (use:=some (assign (.Name y py) env)) S.cx hi ok fun D' C' s₁ m f vs n hD hC hDC hD178 hC178 k₁ hg hr hns=>?_
 have S1:=S.avoid (Y:=[C']) (fun a ha=>by rw [ay ha];exact hC) k₁ (fun a ha=>by rw [ay ha];exact bV hns) (fun a ha=>by rw [ay ha];exact hC178)
 have hDX:D'∉[C']++X:=fun hm=>by
  refine mA hm (fun hm=>?_) fun hm=>?_
  ·exact hDC (ay hm)
  ·exact S.cx.xlt.fresh hD hm
 have hrd:Rd prog w s₁.heap ([C']++X) (.lst ((ds.filter pz).map g)) (.ref D'):=Rd.lst_ hDX hg (hr.less fun a ha=>by
  refine mA ha (fun ha=>?_) fun ha=>?_
  ·exact .tail _ (by rw [ay ha];exact .head _)
  ·exact .tail _ (.tail _ ha))
 show WP prog w A (assign (.Name y py) env (.ref D')) _ s₁
 have hCM:C'∉M:=fun hm=>S.cx.xlt.fresh hC (S.sub _ hm)
 refine wpAny_assign_Name (S1.store hy (b:=.d (.lst ((ds.filter pz).map g))) hrd fun s₂ k₂ S2=>⟨m,aW hns fun o e=>k₂.heap _ o hCM e,fun h' hsb=>?_⟩)
 have hk2:∀ b o,b∉[C']→s₂.heap.get? b=some o→h'.get? b=some o:=fun b o hb e=>(hsb.2 b fun z=>hb (by rw [z];exact .head _)).trans e
 have hback:∀ a,(s.heap.get? a).isSome=true→a∉[C']:=fun a ha hm=>by rw [ay hm,hC] at ha;exact nB ha
 have kk:=k₁.any (X:=M) |>.trans k₂
 have kend:Keep M s { s₂ with heap:=h' }:=⟨fun a o ha e=>hk2 a o (hback a (by rw [e];rfl)) (kk.heap a o ha e),fun a ha=>by
  refine iS (kk.live a ha) fun o ho=>?_
  show (h'.get? a).isSome=true;rw [hk2 a o (hback a ha) ho];rfl,kk.gens,kk.bare,kk.os⟩
 exact h _ (Sx.leave (tk:=s₂.toks) (Y:=[C']) S2 hk2 (fun b hb hx=>S.cx.xlt.fresh (by rw [ay hb];exact hC) hx) S.sub (fun p hp=>(S.cx.ok.cel p hp).1) (S.base.trans kend))
theorem tG {e:Expr} {i:Int} (h:EvD prog w A env X s e (.int i)) (he:autoParam (∀ whole,isTrue e env whole=(do let v ← whole;standAt e.pos;holding [v] (truthy v))) e8._auto_1):EvT prog w A env s e (i != 0):=fun s' k =>
 wpAny_isTrue_value ((h.keep k).go fun v s₁ k₁ h₁=>by
  refine Rd.intE h₁ fun t Z1=>?_;subst Z1
  exact PyProof.Rows.truthy_int ⟨k₁,rfl⟩) (he _)
theorem qu {e:Expr} {i:Bool} (h:EvD prog w A env X s e (.bool i)) (he:autoParam (∀ whole,isTrue e env whole=(do let v ← whole;standAt e.pos;holding [v] (truthy v))) e8._auto_1):EvT prog w A env s e i:=fun s' k =>
 wpAny_isTrue_value ((h.keep k).go fun v s₁ k₁ h₁=>by
  rw [Rd.bool_inv h₁]
  exact wpAny_truthy_bool ⟨k₁,rfl⟩) (he _)
theorem tH {e:Expr} {x:Str} (h:EvD prog w A env X s e (.str x)) (hl:x.length≤16777216) (he:autoParam (∀ whole,isTrue e env whole=(do let v ← whole;standAt e.pos;holding [v] (truthy v))) e8._auto_1):EvT prog w A env s e ((x.length:Int) != 0):=fun s' k =>
 wpAny_isTrue_value ((h.keep k).go fun v s₁ k₁ h₁=>by
  refine Rd.strE h₁ fun t Z1=>?_;subst Z1
  exact PySem.P.truthy_str (by lia) ⟨k₁.trans Keep.toks,rfl⟩) (he _)
theorem cj (S:Sx prog w s₀ env M X τ ω s) {x:Str} {px p q:Pos} {es:List Expr} {ds:List D} {rest:List Stmt} {Q:Flow→Shared→Prop} (hx:Own env x) (he:EvBs prog w A env X s es (ds.map Bd.d)) (hsz:ds.length≤1000)
  (h:∀ a s',s.heap.get? a=none→Sx prog w s₀ env (a::M) (a::X) ((x,.v (.ref a))::τ) ((a,.lst ds)::ω) s'→WP prog w A (execs rest env) Q s') :
  WP prog w A (execs (.Assign [.Name x px] (.List es q) p::rest) env) Q s:=by
 refine aK (wpAny_Assign_Name (PyProof.Rows.List_ (he.go q fun vs s₁ k₁ h₁=>wpAny_newList ?_ (by rw [(bW h₁).length,aM];exact Nat.le_add_left_of_le hsz))))
 have S1:=S.keep k₁
 have S2:=S1.own (a:=s₁.heap.objs.size) (.lst ds) (af _) (Keep.push (o:={ cls:=.type "list",data:=.seq vs.toArray }) (tk:=s₁.toks)) ⟨vs,0,Heap.get?_push_size _ rfl,
  RdL.mv (fun a o ha e=>⟨fun hm=>by
   refine mC hm (fun Z1=>?_) fun hm=>?_;subst Z1
   ·rw [af] at e;exact nO e
   ·exact ha hm,Heap.get?_push_of_some _ e⟩) _ _ (bW h₁)⟩ S1.hi_size
 exact S2.store hx (b:=.v (.ref s₁.heap.objs.size)) rfl fun s' k S'=>h _ s' (k₁.none_back (af _)) S'
theorem d0 (S:Sx prog w s₀ env M X τ ω s) {x:Str} {px ap p q:Pos} {e:Expr} {a:Addr} {ds:List D} {d:D} {ω1 ω2:List (Addr×OD)} {rest:List Stmt} {Q:Flow→Shared→Prop}
  (hx:τ.lookup x=some (.v (.ref a))) (hω:ω=ω1++(a,.lst ds)::ω2) (hne:∀ p∈ω1++ω2,p.1≠a) (he:EvD prog w A env X s e d) (hl:ds.length≤16777216)
  (h:∀ s',Sx prog w s₀ env M X τ (ω1++(a,.lst (ds++[d]))::ω2) s'→WP prog w A (execs rest env) Q s')
  (hline:autoParam ((ap.endLine == q.line)=true) cT._auto_1) (htrees:autoParam (backTo q (starEach [e] env)=[(false,eval e env)]) cT._auto_1)
  (hd:autoParam ((x == ("__debug__":Str))=false) fb._auto_1) :
  WP prog w A (execs (.Expr (.Call (.Attribute (.Name x px) "append" ap) [e] [] q) p::rest) env) Q s:=by
 revert S hx hω hne he hl h hline htrees hd
 revert ap p q e a ds d ω1 ω2 rest Q
 revert prog w A env M X τ ω s s₀ x px;refine @(dr12 ?_);exists w12 _ _,prog,w,A,env,M,X,τ,ω,s,s₀,x,px
 intro ap p q e a ds d ω1 ω2 rest Q
 revert ap p q e a ds d ω1 ω2 rest Q;refine @(dr11 ?_);exists w11 _ _,ap,p,q,e,a,ds,d,ω1,ω2,rest,Q
 intro S hx hω hne he hl h hline htrees hd
 refine kE S (wpAny_Call_append rfl ?_ hline htrees ?_)
 ·rw [htrees];rfl
 ·have hm:(a,OD.lst ds)∈ω:=by rw [hω];simp
  refine (az (.ref a) S.cx hx hd).go fun v s₁ k₁ h₁=>?_
  subst h₁
  have S1:=S.keep k₁
  refine ai (S1.cx.own _ hm) fun Z1 Z=>?_;refine ex22 Z1 fun vs n hg hr=>?_;clear Z1
  refine ⟨a,vs.toArray,rfl,⟨_,n,hg,rfl,rfl,rfl⟩,(he.keep k₁).go fun y s₂ k₂ h₂=>?_⟩
  exact (S1.keep k₂).append hω hne h₂ hl fun s' Z S'=>h s' S'
theorem RdL.set {h:Heap}:∀ {ds:List D} {vs:List Value},RdL prog w h X ds vs→∀ {n:Nat} {d:D} {v:Value},Rd prog w h X d v→RdL prog w h X (ds.set n d) (vs.set n v)
 | [],_,x,n,d,v,_=>by unfold RdL at x;subst x;exact .nil
 | e::ds,_,x,n,d,v,hv=>by
  refine RdL.consE x fun u r Z1 a b=>?_;clear x;subst Z1
  cases n with
  | zero=>exact .cons hv b
  | succ n=>exact .cons a (RdL.set b hv)
theorem Sx.setAt (S:Sx prog w s₀ env M X τ ω s) {a:Addr} {ds:List D} {k:Int} {t:Tok} {n:Nat} {d:D} {v:Value} {ω1 ω2:List (Addr×OD)} {Q:Unit→Shared→Prop} (hω:ω=ω1++(a,.lst ds)::ω2) (hne:∀ p∈ω1++ω2,p.1≠a)
  (hk:(if k < 0 then k + ds.length else k)=n) (hn:n < ds.length) (hl:ds.length≤16777216) (hv:Rd prog w s.heap X d v)
  (h:∀ s',Keep [a] s s'→Sx prog w s₀ env M X τ (ω1++(a,.lst (ds.set n d))::ω2) s'→Q () s'):WP prog w A (setItem (.ref a) (.int k t) v) Q s:=by
 revert S hω hne hk hn hl hv h
 revert a ds k t n d v ω1 ω2 Q
 revert prog w A env M X τ ω s s₀;refine @(dr10 ?_);exists w10 _ _,prog,w,A,env,M,X,τ,ω,s,s₀
 intro a ds k t n d v ω1 ω2 Q
 revert a ds k t n d v ω1 ω2 Q;refine @(dr10 ?_);exists w10 _ _,a,ds,k,t,n,d,v,ω1,ω2,Q
 intro S hω hne hk hn hl hv h
 have hm:(a,OD.lst ds)∈ω:=by rw [hω];simp
 refine br (S.cx.own _ hm) fun Z1 hX Z=>?_;refine ex22 Z1 fun vs m hg hr=>?_;clear Z1
 have hlen:=hr.length
 have hg':s.heap.get? a=some (listOf vs.toArray m):=hg
 have fin:Q () { s with heap:=s.heap.update a (Obj.mapSeq (·.setIfInBounds n v)) }:=by
  have hs:Heap.SameBut a s.heap (s.heap.update a (Obj.mapSeq (·.setIfInBounds n v))):=Heap.SameBut.update ..
  have e:Obj.mapSeq (·.setIfInBounds n v) (bo vs m)=bo (vs.set n v) m:=by
   unfold Obj.mapSeq bo
   simp
  have ho:OwnAt prog w (s.heap.update a (Obj.mapSeq (·.setIfInBounds n v))) X a (.lst (ds.set n d)):=⟨vs.set n v,m,by
   have q:=Heap.get?_update_self (Obj.mapSeq (·.setIfInBounds n v)) hg (by rw [e];rfl)
   rw [q,e],RdL.set (RdL.mv (fun b o hb eb=>⟨hb,(hs.2 b fun z=>hb (z ▸ hX)).trans eb⟩) _ _ hr) (Rd.mv (fun b o hb eb=>⟨hb,(hs.2 b fun z=>hb (z ▸ hX)).trans eb⟩) _ _ hv)⟩
  exact h _ (Keep.sameBut (tk:=s.toks) hs (.head _) ho.live) (S.put (tk:=s.toks) hω hne hs ho)
 by_cases h0:k < 0
 ·rw [if_pos h0] at hk
  refine ki_setBack hg' h0 (by simp;lia) (by lia) ?_
  rw [show (k + (vs.toArray.size:Nat):Int).toNat=n by simp;lia]
  exact fin
 ·rw [if_neg h0] at hk
  refine ki_setAt hg' (by lia) (by lia) (by simp;lia) ?_
  rw [show k.toNat=n by lia]
  exact fin
theorem kH (S:Sx prog w s₀ env M X τ ω s) {o i e:Expr} {sp p:Pos} {op:Operator} {a:Addr} {ds:List D} {k:Int} {n:Nat} {b c d:D} {ω1 ω2:List (Addr×OD)} {rest:List Stmt} {Q:Flow→Shared→Prop}
  (ho:EvV prog w A env s o (.ref a)) (hi:EvD prog w A env X s i (.int k)) (hω:ω=ω1++(a,.lst ds)::ω2) (hne:∀ p∈ω1++ω2,p.1≠a)
  (hk:(if k < 0 then k + ds.length else k)=n) (hb:ds[n]?=some b) (hl:ds.length≤16777216) (he:EvD prog w A env X s e c) (hop:cv prog w A X (inplaceOp op) b c d)
  (h:∀ s',Sx prog w s₀ env M X τ (ω1++(a,.lst (ds.set n d))::ω2) s'→WP prog w A (execs rest env) Q s')
  (hs:∀ ov iv new,augStore i ov iv new=(do holding [new,ov,iv] (setItem ov iv new);release [new,ov,iv] [];pure .next):=by intros;rfl) :
  WP prog w A (execs (.AugAssign (.Subscript o i sp) op e p::rest) env) Q s:=by
 revert S ho hi hω hne hk hb hl he hop h hs
 revert p op a ds k n b c d ω1 ω2 rest Q
 revert prog w A env M X τ ω s s₀ o i e sp;refine @(dr14 ?_);exists w14 _ _,prog,w,A,env,M,X,τ,ω,s,s₀,o,i,e,sp
 intro p op a ds k n b c d ω1 ω2 rest Q
 revert p op a ds k n b c d ω1 ω2 rest Q;refine @(dr13 ?_);exists w13 _ _,p,op,a,ds,k,n,b,c,d,ω1,ω2,rest,Q
 intro S ho hi hω hne hk hb hl he hop h hs
 have hm:(a,OD.lst ds)∈ω:=by rw [hω];simp
 have hn:n < ds.length:=(List.getElem?_eq_some_iff.mp hb).1
 refine aK (wpAny_AugAssign_SubscriptAny (ho.go fun v s₁ k₁ h₁=>(hi.keep k₁).go fun u s₂ k₂ h₂=>?_) hs)
 subst h₁
 refine Rd.intE h₂ fun t Z1=>?_;subst Z1
 have S2:=(S.keep k₁).keep k₂
 refine br (S2.cx.own _ hm) fun Z1 hX Z=>?_;refine ex22 Z1 fun vs m hg hr=>?_;clear Z1
 have hlen:=hr.length
 refine ex12 (hr.get hb) fun y hy hyr=>?_
 have getit:∀ {Q:Value→Shared→Prop} {s},s.heap.get? a=some (bo vs m)→Q y s→WP prog w A (getItem (.ref a) (.int k t)) Q s:=fun {Q s} hg hq=>by
  by_cases h0:k < 0
  ·rw [if_pos h0] at hk
   exact wpAny_getItem_list_neg (ah hg) h0 (by simp;lia) (by lia) (by simp only [List.getElem?_toArray];rw [show (k + (vs.toArray.size:Nat):Int).toNat=n by simp;lia];exact hy) hq
  ·rw [if_neg h0] at hk
   exact wpAny_getItem_list (ah hg) (by lia) (by lia) (by simp only [List.getElem?_toArray];rw [show k.toNat=n by lia];exact hy) hq
 refine getit hg ((he.keep (k₁.trans k₂)).go fun z s₃ k₃ h₃=>?_)
 have S3:=S2.keep k₃
 refine wpAny_mono (hop s₃ y z S3.cx.gd (hyr.keep k₃.any) h₃) (fun r s₄ hr4=>?_) fun Z Z z=>z
 have S4:=S3.keep hr4.1
 exact S4.setAt (t:=t) hω hne hk hn hl hr4.2 fun s' Z S'=>h s' S'
structure Fe (env:Env) (i:Nat):Prop where
 sc:env.scope=fnScope i
 lo:∀ p∈env.cells,env.locals < p.2
 ce:∀ x,(env.cells.lookup x).isSome=((cellsFrom 0 (fnScope i).names []).lookup x).isSome
theorem Fe.kind {env:Env} {i:Nat} (f:Fe env i) (x:Str):env.kindOf x=(fnScope i).names.lookup x:=by unfold Env.kindOf;rw [f.sc]
theorem Fe.own {env:Env} {i:Nat} (f:Fe env i) {x:Str} (h:(fnScope i).names.lookup x=some .local):Own env x:=.inl ((f.kind x).trans h)
theorem Fe.ownC {env:Env} {i:Nat} (f:Fe env i) {x:Str} (h:(fnScope i).names.lookup x=some .cell) (h':((cellsFrom 0 (fnScope i).names []).lookup x).isSome=true):Own env x:=by
 have e:=f.ce x
 rw [h'] at e
 refine iS e fun c hc=>?_
 exact .inr ⟨(f.kind x).trans h,c,hc,f.lo _ (ak hc)⟩
theorem Fe.gl {env:Env} {i:Nat} (f:Fe env i) {x:Str} (h:(fnScope i).names.lookup x=some .globalImplicit):env.kindOf x=some .globalImplicit:=(f.kind x).trans h
theorem Ev.to {e:Expr} {d d':D} (h:EvD prog w A env X s e d) (q:d=d'):EvD prog w A env X s e d':=q ▸ h
theorem EvT.to {e:Expr} {d d':Bool} (h:EvT prog w A env s e d) (q:d=d'):EvT prog w A env s e d':=q ▸ h
theorem qv {a b:Int} (hb:0≤b):cv prog w A X (binaryOp .RShift) (.int a) (.int b) (.int (a.fdiv (2 ^ b.toNat))):=fun s u v Z h1 h2=>by
 refine h1.intE fun t Z1=>?_;subst Z1;refine h2.intE fun t' Z1=>?_;subst Z1
 exact PyProof.Rows.rshift_int hb ⟨Keep.toks,Rd.int_⟩
theorem mT {a b:Int}:cv prog w A X (binaryOp .BitAnd) (.int a) (.int b) (.int (Builtin.bitAnd a b)):=fun s u v Z h1 h2=>by
 refine h1.intE fun t Z1=>?_;subst Z1;refine h2.intE fun t' Z1=>?_;subst Z1
 exact PyProof.Rows.and_int ⟨Keep.toks,Rd.int_⟩
theorem iV {a b:Int} (h:IntMulOk a b):cv prog w A X (binaryOp .Mult) (.int a) (.int b) (.int (a * b)):=fun s u v Z h1 h2=>by
 refine h1.intE fun t Z1=>?_;subst Z1;refine h2.intE fun t' Z1=>?_;subst Z1
 exact PyProof.Rows.mul_int ⟨Keep.toks,Rd.int_⟩ h
theorem iW {a b:Int} (hb:0≤b) (hb2:b≤1000000) (ha:a.natAbs < 2 ^ 64):cv prog w A X (binaryOp .Pow) (.int a) (.int b) (.int (a ^ b.toNat)):=fun s u v Z h1 h2=>by
 refine h1.intE fun t Z1=>?_;subst Z1;refine h2.intE fun t' Z1=>?_;subst Z1
 exact PyProof.Rows.pow_int_small hb hb2 ha ⟨Keep.toks,Rd.int_⟩
theorem qU {a b:Int}:cv prog w A X (inplaceOp .Sub) (.int a) (.int b) (.int (a - b)):=fun s u v Z h1 h2=>by
 refine h1.intE fun t Z1=>?_;subst Z1;refine h2.intE fun t' Z1=>?_;subst Z1
 exact PyProof.Rows.isub_int ⟨Keep.toks,Rd.int_⟩
theorem o7 {e:Expr} {i:Int} {p:Pos} (h:EvD prog w A env X s e (.int i)):EvD prog w A env X s (.UnaryOp .USub e p) (.int (-i)):=fun s' k =>
 wpAny_UnaryOp ((h.keep k).go fun v s₁ k₁ h₁=>by
  refine Rd.intE h₁ fun t Z1=>?_;subst Z1
  exact PyProof.Rows.neg_int ⟨k₁.trans (Keep.toks (tk:=s₁.toks + 1)),Rd.int_⟩)
theorem Sx.retL {Y:List Addr} {a:Addr} {ds:List D} (S:Sx prog w s env (a::M) (a::(M++Y)) τ ω s') (g:Gd Y s) (ha:s.heap.get? a=none) (hm:(a,OD.lst ds)∈ω):Keep M s s'∧Rd prog w s'.heap Y (.lst ds) (.ref a):=by
 refine ai (S.cx.own _ hm) fun Z1 Z=>?_;refine ex22 Z1 fun vs n hg hr=>?_;clear Z1
 refine ⟨S.base.dropTo fun x hx=>?_,Rd.lst_ (g.liv.fresh ha) hg (hr.less fun x hx=>.tail _ (mR hx))⟩
 refine mC hx (fun Z1=>?_) fun hx=>?_;subst Z1
 ·exact .inr ha
 ·exact .inl hx
theorem eR {Y:List Addr}:∀ a∈Y,a∈M++Y:=fun a h=>mR h
noncomputable def iX (cut place:Int):Int:=Builtin.bitAnd (cut.fdiv (2 ^ place.toNat)) 1
noncomputable def bL (cut:Int) (ps:List Int) (p:Int):List Int:=if iX cut p != 0 then ps++[1] else ps.set (ps.length - 1) (ps.getD (ps.length - 1) 0 + 1)
noncomputable def partsL (cut:Int):Nat→List Int
 | 0=>[1]
 | p + 1=>bL cut (partsL cut p) p
theorem gp {cut p:Int} {ps:List Int} (h:ps≠[]):bL cut ps p≠[]:=by
 unfold bL;split
 ·simp
 ·intro e;exact h (by have:=congrArg List.length e;simpa using this)
theorem gJ {cut:Int}:∀ {n:Nat},partsL cut n≠[]
 | 0=>by simp [partsL]
 | n + 1=>gp gJ
theorem cm {cut:Int}:∀ {n:Nat},(partsL cut n).length≤n + 1
 | 0=>by simp [partsL]
 | n + 1=>by
  have:=cm (cut:=cut) (n:=n)
  unfold partsL bL;split <;> simp <;> lia
noncomputable abbrev am (l:List Int):D:=.lst (l.map .int)
theorem kJ (cut:Int) (n:Nat) (hn:n < 1000):Fn prog w 1 119 [.int cut,.int ((n:Int) + 1)] (am (partsL cut n)):=by
 revert hn
 revert prog w cut n;refine @(dr4 ?_);exists w4 _ _,prog,w,cut,n
 intro hn
 exact c7 (i:=15) (names:=["cut", "count"]) (by decide +kernel) (fun A s X env M s₁ ao g hsc hM hlo hce S=>by
  first | (revert ao g hsc hM hlo hce S;revert A s X env M s₁;refine @(dr6 ?_);exists w6 _ _,A,s,X,env,M,s₁;intro ao g hsc hM hlo hce S) | skip
  have fe:Fe env 15:=⟨hsc,hlo,hce⟩
  refine cj (ds:=[.int 1]) S (fe.own rfl) (aH ag al) (by decide) fun a s₂ ha S2=>?_
  refine fE S2 (ds:=aB 0 1 n) (bA S2.cx ao.h (aY _ S2.cx (fe.gl rfl) rfl) (aH ((aF S2.cx (aa (.int ((n:Int) + 1)) S2.cx rfl) ag cO).to (by rw [Int.add_sub_cancel])) al) (by exact Nat.lt_of_lt_of_le hn (by decide)))
   (fun Z=>[("parts",.v (.ref a)),("cut",.d (.int cut))]) (fun i=>[(a,.lst ((partsL cut i).map .int))]) (fun Z Z=>False) (fun i d=>[("place",.d d)]) ⟨rfl,rfl,trivial⟩ rfl
   (fun i d Z=>au (fe.own rfl)) (fun i d X' s' hd hX S'=>?_) (fun s' S'=>?_) (fun Z Z Z h=>h.elim)
  ·refine ai (bG hd) fun hi Z1=>?_;subst Z1
   rw [Int.zero_add,Int.mul_one] at S'
   have c:=S'.cx
   refine ik S' (iX cut i != 0) (tG (aF c (aF c (aa (.int cut) c rfl) (aa (.int (i:Int)) c rfl) (qv (by exact Int.natCast_nonneg _))) ag mT)) (fun hb s₃ S3=>?_) (fun hb s₃ S3=>?_)
   ·refine d0 (ω1:=[]) (ω2:=[]) S3 rfl rfl (by simp) (ag (i:=1)) ?_ fun s₄ S4=>ax (ax ?_)
    ·simp;have:=cm (cut:=cut) (n:=i);lia
    ·have e:(partsL cut i).map D.int++[.int 1]=(partsL cut (i + 1)).map .int:=by
      show _=List.map D.int (bL _ _ _);unfold bL;rw [if_pos hb];simp
     rw [e] at S4
     exact S4.cover ⟨rfl,rfl,trivial⟩
   ·have hlen:0 < (partsL cut i).length:=List.length_pos_iff.mpr gJ
    have hlen':=cm (cut:=cut) (n:=i)
    have hgd:(partsL cut i)[(partsL cut i).length - 1]?=some ((partsL cut i).getD ((partsL cut i).length - 1) 0):=by
     rw [List.getD_eq_getElem?_getD,List.getElem?_eq_getElem (by exact Nat.sub_lt (by assumption) (by decide))];rfl
    refine kH (ω1:=[]) (ω2:=[]) (k:=-1) (n:=(partsL cut i).length - 1) (b:=.int ((partsL cut i).getD ((partsL cut i).length - 1) 0)) S3 (az _ S3.cx rfl) (o7 ag) rfl (by simp) ?_ ?_ ?_ ag dL fun s₄ S4=>ax (ax ?_)
    ·rw [if_pos (by decide),List.length_map];lia
    ·rw [List.getElem?_map,hgd];rfl
    ·rw [List.length_map];lia
    ·have e:((partsL cut i).map D.int).set ((partsL cut i).length - 1) (.int ((partsL cut i).getD ((partsL cut i).length - 1) 0 + 1))=(partsL cut (i + 1)).map .int:=by
      show _=List.map D.int (bL _ _ _);unfold bL;rw [hb];simp
     rw [e] at S4
     exact S4.cover ⟨rfl,rfl,trivial⟩
  ·rw [aq] at S'
   exact ca S' (az (.ref a) S'.cx rfl) fun s₄ v S4 e=>e ▸ S4.retL g (S.base.none_back ha) (.head _)) (il fun Z Z Z Z Z=>rfl)
theorem Sx.freeze {τ0:List (Str×Bd)} {ω0 ω':List (Addr×OD)} {a:Addr} {x:Str} {ds:List D} (S0:Sx prog w s₀ env M X τ0 ω0 s₁) (S:Sx prog w s₀ env (a::M) (a::X) τ ω s) (ha:s₁.heap.get? a=none) (hm:(a,OD.lst ds)∈ω)
  (hx:τ.lookup x=some (.v (.ref a))) (hω':∀ p∈ω',p∈ω∧p.1∈M):Sx prog w s₀ env M X ((x,.d (.lst ds))::τ) ω' s:=by
 revert S0 S ha hm hx hω'
 revert s₀ s₁ τ0 ω0 ω' a x ds
 revert prog w env M X τ ω s;refine @(dr8 ?_);exists w8 _ _,prog,w,env,M,X,τ,ω,s
 intro s₀ s₁ τ0 ω0 ω' a x ds
 revert s₀ s₁ τ0 ω0 ω' a x ds;refine @(dr8 ?_);exists w8 _ _,s₀,s₁,τ0,ω0,ω',a,x,ds
 intro S0 S ha hm hx hω'
 have hs0:=S0.base.none_back ha
 have haX:a∉X:=S0.cx.xlt.fresh ha
 refine ai (S.cx.own _ hm) fun Z1 Z=>?_;refine ex22 Z1 fun vs n hg hr=>?_;clear Z1
 have inX:∀ b∈X,b∈a::X:=fun b hb=>.tail _ hb
 obtain ⟨⟨⟨o1,o2,o3,o4,o5,o6⟩,h2,h3,h4,h5,h6,h7,h12⟩,h8,h9,h10,h11,h13⟩:=S
 refine ⟨⟨⟨o1,o2,o3,S0.sub _ S0.mloc,fun p hp=>⟨(S0.cx.ok.cel p hp).1,(o5 p hp).2⟩,o6⟩,h2,h3,fun y b e=>?_,h5,fun b hb=>h6 b (inX b hb),fun b hb=>h7 b (inX b hb),
  fun p hp=>⟨(h12 p (hω' p hp).1).1.less inX,S0.sub _ (hω' p hp).2,(h12 p (hω' p hp).1).2.2⟩⟩,h8.dropTo fun b hb=>?_,S0.sub,S0.mloc,S0.mcel,fun p hp=>(hω' p hp).2⟩
 ·by_cases hy:y=x
  ·subst hy
   rw [List.lookup_cons,beq_self_eq_true] at e
   refine sE e fun e=>?_;subst e
   refine ex12 (h4 y _ hx) fun v q1 q2=>?_
   cases (show v=.ref a from q2)
   exact ⟨_,q1,Rd.lst_ haX hg (hr.less inX)⟩
  ·rw [List.lookup_cons,beq_eq_false_iff_ne.mpr hy] at e
   refine ex12 (h4 y b e) fun v q1 q2=>?_
   exact ⟨v,q1,q2.less inX⟩
 ·refine mC hb (fun Z1=>?_) fun hb=>?_;subst Z1
  ·exact .inr hs0
  ·exact .inl hb
theorem Sx.on (S:Sx prog w s₀ env M X τ ω s) {τ':List (Str×Bd)} {ω':List (Addr×OD)} (T:Sx prog w s env M X τ' ω' s'):Sx prog w s₀ env M X τ' ω' s':=⟨T.cx,S.base.trans T.base,T.sub,T.mloc,T.mcel,T.mown⟩
theorem qV (S:Sx prog w s₀ env M X τ ω s) {test:Expr} {body rest:List Stmt} {p:Pos} {Q:Flow→Shared→Prop} (inv:Nat→List (Str×Bd)) (O:Nat→List (Addr×OD)) (R:Value→Shared→Prop) (n:Nat)
  (h0:Covers τ (inv 0)) (hO:ω=O 0) (ht:∀ i s',i≤n→Sx prog w s₀ env M X (inv i) (O i) s'→EvT prog w A env s' test (decide (i < n)))
  (turn:∀ i s',i < n→Sx prog w s' env M X (inv i) (O i) s'→WP prog w A (execs body env) (iU prog w env M X (inv (i + 1)) (O (i + 1)) R s') s')
  (done:∀ s',Sx prog w s₀ env M X (inv n) (O n) s'→WP prog w A (execs rest env) Q s') (hret:∀ v s',Keep M s s'→R v s'→Q (.ret v) s') :
  WP prog w A (execs (.While test body [] p::rest) env) Q s:=by
 revert S h0 hO ht turn done hret
 revert test body rest p Q inv O R n
 revert prog w A env M X τ ω s s₀;refine @(dr10 ?_);exists w10 _ _,prog,w,A,env,M,X,τ,ω,s,s₀
 intro test body rest p Q inv O R n
 revert test body rest p Q inv O R n;refine @(dr9 ?_);exists w9 _ _,test,body,rest,p,Q,inv,O,R,n
 intro S h0 hO ht turn done hret
 refine aK (wpAny_While ?_)
 refine codeAny_whileLoop (fun k s'=>∃ i,k=n - i∧i≤n∧Keep M s s'∧Sx prog w s₀ env M X (inv i) (O i) s') (fun k s' hI=>?_) n ⟨0,rfl,Nat.zero_le _,Keep.refl _ _,hO ▸ S.cover h0⟩
 refine ex14 hI fun i Z1 hin kI SI=>?_;clear hI;subst Z1
 refine wpAny_mono ((ht i s' hin SI) s' (Keep.refl _ _)) (fun b s₂ hb=>?_) fun Z Z z=>z.elim
 have S2:=SI.keep hb.1
 by_cases hlt:i < n
 ·rw [hb.2,decide_eq_true hlt,if_pos rfl]
  refine wpAny_mono (turn i s₂ hlt S2.rebase) (fun f s₃ hf=>?_) fun Z Z z=>z.elim
  have go:Sx prog w s₂ env M X (inv (i + 1)) (O (i + 1)) s₃→∃ m,m < n - i∧∃ i,m=n - i∧i≤n∧Keep M s s₃∧Sx prog w s₀ env M X (inv i) (O i) s₃:=fun S3 =>
   ⟨n - (i + 1),by lia,i + 1,rfl,hlt,(kI.trans hb.1.any).trans S3.base,S2.on S3⟩
  cases f with
  | next=>exact go hf
  | cont=>exact go hf
  | brk=>exact hf.elim
  | ret v=>exact hret v s₃ ((kI.trans hb.1.any).trans hf.1) hf.2
 ·have:i=n:=by lia
  subst this
  rw [hb.2,decide_eq_false hlt,if_neg (by decide)]
  exact ax (prog:=prog) (w:=w) (A:=A) (env:=env) (Q:=fun f s=>c5 prog w A env rest Q f s) (done _ S2)
theorem dD {o:Expr} {name:Str} {ap pos:Pos} {args:List Expr} {T id:String} {b:Bd} {bs:List Bd} {Q:Value→Shared→Prop} (pa:PlainAttrs T) (slot:Slot T name id) (hty:typeOf (.builtin id)=pure (.type "method_descriptor"))
  (ho:tD prog w A env X s o b) (hes:EvBs prog w A env X s args bs) (h1:∀ v s',Keep [] s s'→BdOk prog w s'.heap X b v→s'.TypeIs v T∧∀ a,v=.ref a→∃ ob,s'.heap.get? a=some ob∧ob.dict=none)
  (h:∀ v vs s',Keep [] s s'→BdOk prog w s'.heap X b v→Args3 prog w s'.heap X bs vs→WP prog w A (call (.builtin id) (v::vs) []) Q s')
  (hn:autoParam (args.length < 29) fb._auto_1) (hbase:autoParam (attributeBase o name env (eval o env)=eval o env) cT._auto_1) (hline:autoParam ((ap.endLine == pos.line)=true) cT._auto_1) :
  WP prog w A (eval (.Call (.Attribute o name ap) args [] pos) env) Q s:=by
 refine wpAny_Call_method hbase ?_ hline pa slot hty (ho.go fun v s₁ k₁ h₁=>⟨(h1 v s₁ k₁ h₁).1,(h1 v s₁ k₁ h₁).2,?_⟩)
 ·have e:=hes.plain pos
  rw [Bool.and_eq_true,Bool.and_eq_true]
  refine ⟨⟨?_,rfl⟩,decide_eq_true (by simp;exact Nat.lt_succ_of_lt hn)⟩
  rw [List.any_eq_false] at e
  rw [List.all_eq_true]
  intro x hx
  simpa using e x hx
 ·exact cw (first:=[v]) (hes.keep k₁) (fun Z Z=>aJ) fun vs s₂ k₂ h₂=>h v vs s₂ (k₁.trans k₂) (h₁.keep k₂.any) h₂
theorem jH {h:Heap} {a:Addr} {vs:List Value} {n:Nat} {s':Shared} (hg:s'.heap.get? a=some (bo vs n)):s'.TypeIs (.ref a) "list"∧∀ b,Value.ref a=.ref b→∃ ob,s'.heap.get? b=some ob∧ob.dict=none :=
 ⟨⟨_,hg,rfl⟩,fun b e=>by cases e;exact ⟨_,hg,rfl⟩⟩
theorem tI (S:Sx prog w s₀ env M X τ ω s) {x:Str} {px ap p q:Pos} {a:Addr} {ds:List D} {d:D} {ω1 ω2:List (Addr×OD)} {rest:List Stmt} {Q:Flow→Shared→Prop}
  (hx:τ.lookup x=some (.v (.ref a))) (hω:ω=ω1++(a,.lst (ds++[d]))::ω2) (hne:∀ p∈ω1++ω2,p.1≠a) (hl:ds.length≤1000000)
  (h:∀ s',Sx prog w s₀ env M X τ (ω1++(a,.lst ds)::ω2) s'→WP prog w A (execs rest env) Q s')
  (hline:autoParam ((ap.endLine == q.line)=true) cT._auto_1) (hd:autoParam ((x == ("__debug__":Str))=false) fb._auto_1) :
  WP prog w A (execs (.Expr (.Call (.Attribute (.Name x px) "pop" ap) [] [] q) p::rest) env) Q s:=by
 revert S hx hω hne hl h hline hd
 revert px ap p q a ds d ω1 ω2 rest Q
 revert prog w A env M X τ ω s s₀ x;refine @(dr11 ?_);exists w11 _ _,prog,w,A,env,M,X,τ,ω,s,s₀,x
 intro px ap p q a ds d ω1 ω2 rest Q
 revert px ap p q a ds d ω1 ω2 rest Q;refine @(dr11 ?_);exists w11 _ _,px,ap,p,q,a,ds,d,ω1,ω2,rest,Q
 intro S hx hω hne hl h hline hd
 have hm:(a,OD.lst (ds++[d]))∈ω:=by rw [hω];simp
 refine kE S (dD (X:=X) (b:=.v (.ref a)) PySem.F.plainAttrs_list PySem.F.slot_list_pop PySem.F.type_list_pop (az (.ref a) S.cx hx hd) al (fun v s' k e=>?_) (fun v vs s' k e e'=>?_) (by decide) rfl hline)
 ·subst e
  refine ai ((S.keep k).cx.own _ hm) fun Z1 Z=>?_;refine ex22 Z1 fun vs n hg hr=>?_;clear Z1
  exact jH (h:=s'.heap) hg
 ·subst e;cases e'
  have S':=S.keep k
  refine br (S'.cx.own _ hm) fun Z1 hX Z=>?_;refine ex22 Z1 fun vs n hg hr=>?_;clear Z1
  have hlen:=hr.length
  refine ex12 (hr.get (i:=ds.length) (d:=d) (by simp)) fun y hy hyr=>?_
  rw [List.length_append,List.length_singleton] at hlen
  refine call_meets PySem.F.slot_list_pop ⟨_,hg,rfl⟩ PySem.F.entry_list_pop (PySem.F.args_list_pop_1 _) (PySem.MeetsSeq.list_pop_last a vs.toArray n y (by rw [List.getElem?_toArray,show vs.toArray.size - 1=ds.length by simp [hlen]];exact hy) (by simp [hlen,aM];exact Nat.le_add_left_of_le hl)) ⟨hg,?_⟩
  have hs:Heap.SameBut a s'.heap (s'.heap.update a (Obj.mapSeq fun xs=>xs.eraseIdxIfInBounds (vs.toArray.size - 1))):=Heap.SameBut.update ..
  have e:(vs.toArray.eraseIdxIfInBounds (vs.toArray.size - 1))=(vs.take ds.length).toArray:=by
   simp [Array.eraseIdxIfInBounds,hlen]
   rw [List.eraseIdx_eq_take_drop_succ];simp;exact Nat.le_of_eq hlen
  have q:=IsL.update hg fun xs=>xs.eraseIdxIfInBounds (vs.toArray.size - 1)
  have ho:OwnAt prog w (s'.heap.update a (Obj.mapSeq fun xs=>xs.eraseIdxIfInBounds (vs.toArray.size - 1))) X a (.lst ds):=by
   rw [e] at q
   refine ⟨vs.take ds.length,(if ((vs.take ds.length).toArray.size == vs.toArray.size)=true then n else n + 1),q,?_⟩
   have:=RdL.take (RdL.mv (fun b o hb eb=>⟨hb,(hs.2 b fun z=>hb (z ▸ hX)).trans eb⟩) _ _ hr) ds.length
   rwa [List.take_left' rfl] at this
  exact h _ (S'.put (tk:=s'.toks) hω hne hs ho)
theorem se (S:Sx prog w s₀ env M X τ ω s) {x y:Str} {px py q p pa:Pos} {ds:List D} {rest:List Stmt} {Q:Flow→Shared→Prop} (hy:Own env y) (hx:τ.lookup x=some (.d (.lst ds))) (hl:ds.length≤16777216)
  (h:∀ a s',s.heap.get? a=none→Sx prog w s₀ env (a::M) (a::X) ((y,.v (.ref a))::τ) ((a,.lst ds)::ω) s'→WP prog w A (execs rest env) Q s')
  (hd:autoParam ((x == ("__debug__":Str))=false) fb._auto_1) :
  WP prog w A (execs (.Assign [.Name y py] (.Subscript (.Name x px) (.Slice none none none q) p) pa::rest) env) Q s:=by
 revert S hy hx hl h hd
 revert x y px py q p pa ds rest Q
 revert prog w A env M X τ ω s s₀;refine @(dr10 ?_);exists w10 _ _,prog,w,A,env,M,X,τ,ω,s,s₀
 intro x y px py q p pa ds rest Q
 revert x y px py q p pa ds rest Q;refine @(dr10 ?_);exists w10 _ _,x,y,px,py,q,p,pa,ds,rest,Q
 intro S hy hx hl h hd
 refine aK (wpAny_Assign_Name (wpAny_Subscript_list_slice ((aa (.lst ds) S.cx hx hd).go fun u s₁ k₁ h₁=>wpAny_evalPart_none (wpAny_evalPart_none ?_)) (by intro Z Z;rfl)))
 refine Rd.lstE h₁ fun l vs n Z1 hxx hg hr=>?_;subst Z1
 refine ⟨l,vs.toArray,none,none,rfl,ah hg,(by have:=hr.length;simp [this,aM];exact hl),.none,.none,?_⟩
 rw [slicePick_all]
 have S1:=S.keep k₁
 let h₁:=s₁.heap.push { cls:=.type "slice",data:=.fields #[Value.none,Value.none,.none] }
 have k₂:Keep [] s₁ { s₁ with heap:=h₁ }:=Keep.push (tk:=s₁.toks)
 have S2:=S1.keep k₂
 have S3:=S2.own (a:=h₁.objs.size) (.lst ds) (af _) (Keep.push (o:={ cls:=.type "list",data:=.seq vs.toArray }) (tk:=s₁.toks)) ⟨vs,0,Heap.get?_push_size _ rfl,
  RdL.mv (fun a o ha e=>⟨fun hm=>by
   refine mC hm (fun Z1=>?_) fun hm=>?_;subst Z1
   ·rw [aU (by show s₁.heap.objs.size≤(s₁.heap.push _).objs.size;rw [Heap.size_push];exact Nat.le_succ _)] at e;exact nO e
   ·exact ha hm,Heap.get?_push_of_some _ (Heap.get?_push_of_some _ e)⟩) _ _ hr⟩ S2.hi_size
 have hz:h₁.objs.size=s₁.heap.objs.size + 1:=Heap.size_push ..
 exact S3.store hy (b:=.v (.ref h₁.objs.size)) (by rw [hz];rfl) fun s' k S'=>h _ s' ((k₁.trans k₂).none_back (af _)) S'
theorem fG {a b:List D} (hl:a.length + b.length≤1000000):cv prog w A X (binaryOp .Add) (.lst a) (.lst b) (.lst (a++b)):=fun s u v g h1 h2=>by
 refine h1.lstE fun l vs n Z1 hx hg hr=>?_;subst Z1
 refine h2.lstE fun l' vs' n' Z1 hx' hg' hr'=>?_;subst Z1
 refine PySem.P.add_list hg hg' ⟨Keep.push (tk:=s.toks),?_⟩ (by have:=hr.length;have:=hr'.length;simp [aM];lia)
 rw [show vs.toArray++vs'.toArray=(vs++vs').toArray by simp]
 exact Rd.lst_new (tk:=0) g (hr.append hr')
section
variable {T:Type} (c:T→Bool) (next:T→T)
noncomputable def im:Nat→T→Nat
 | 0,_=>0
 | k + 1,x=>if c x then im k (next x) + 1 else 0
noncomputable def qw:Nat→T→T
 | 0,x=>x
 | i + 1,x=>qw i (next x)
noncomputable def b9:Nat→T→T
 | 0,x=>x
 | k + 1,x=>if c x then b9 k (next x) else x
theorem fH:∀ (i:Nat) (x:T),qw next (i + 1) x=next (qw next i x)
 | 0,_=>rfl
 | i + 1,x=>fH i (next x)
theorem io:∀ (k:Nat) (x:T),qw next (im c next k x) x=b9 c next k x
 | 0,_=>rfl
 | k + 1,x=>by
  unfold im b9
  cases h:c x with
  | true=>simp only [if_true];exact io k (next x)
  | false=>rfl
theorem ip:∀ (k:Nat) (x:T) (i:Nat),i < im c next k x→c (qw next i x)=true
 | 0,_,_,h=>absurd h (Nat.not_lt_zero _)
 | k + 1,x,i,h=>by
  unfold im at h
  cases hc:c x with
  | false=>rw [hc] at h;simp at h
  | true =>
   rw [hc] at h;simp only [if_true] at h
   cases i with
   | zero=>exact hc
   | succ i=>exact ip k (next x) i (by exact Nat.lt_of_add_lt_add_right h)
end
theorem kK {T:Type} (x0:T) (c:T→Bool) (next:T→T) (I:T→Prop) (fuel:Nat) (hstop:c (b9 c next fuel x0)=false) (hI0:I x0) (hI:∀ x,I x→c x=true→I (next x))
  (S:Sx prog w s₀ env M X τ ω s) {test:Expr} {body rest:List Stmt} {p:Pos} {Q:Flow→Shared→Prop} (inv:T→List (Str×Bd)) (O:T→List (Addr×OD)) (R:Value→Shared→Prop)
  (h0:Covers τ (inv x0)) (hO:ω=O x0) (ht:∀ x s',I x→Sx prog w s₀ env M X (inv x) (O x) s'→EvT prog w A env s' test (c x))
  (turn:∀ x s',I x→c x=true→Sx prog w s' env M X (inv x) (O x) s'→WP prog w A (execs body env) (iU prog w env M X (inv (next x)) (O (next x)) R s') s')
  (done:∀ s',I (b9 c next fuel x0)→Sx prog w s₀ env M X (inv (b9 c next fuel x0)) (O (b9 c next fuel x0)) s'→WP prog w A (execs rest env) Q s') (hret:∀ v s',Keep M s s'→R v s'→Q (.ret v) s') :
  WP prog w A (execs (.While test body [] p::rest) env) Q s:=by
 have hIi:∀ i,i≤im c next fuel x0→I (qw next i x0):=fun i=>by
  induction i with
  | zero=>exact fun Z=>hI0
  | succ i ih=>intro h;rw [fH];exact hI _ (ih (by exact Nat.le_of_lt h)) (ip c next fuel x0 i (by exact h))
 refine qV S (fun i=>inv (qw next i x0)) (fun i=>O (qw next i x0)) R (im c next fuel x0) h0 hO (fun i s' hi S'=>?_) (fun i s' hi S'=>?_) (fun s' S'=>?_) hret
 ·refine (ht _ s' (hIi i hi) S').to ?_
  by_cases h:i < im c next fuel x0
  ·rw [ip c next fuel x0 i h,decide_eq_true h]
  ·have:i=im c next fuel x0:=by lia
   subst this
   rw [io,hstop,decide_eq_false h]
 ·have:=turn _ s' (hIi i (by exact Nat.le_of_lt hi)) (ip c next fuel x0 i hi) S'
  rw [← fH next] at this
  exact this
 ·have e:=hIi _ (Nat.le_refl _)
  rw [io] at S' e
  exact done s' e S'
theorem kL {a b:Expr} {p:Pos} {x y:Bool} (ha:EvT prog w A env s a x) (hb:x=true→EvT prog w A env s b y):EvT prog w A env s (.BoolOp .And [a,b] p) (x && y):=fun s' k=>by
 refine wpAny_isTrue_BoolOp (wpAny_allTrue_And_cons ((ha.keep k).go fun s₁ k₁=>?_))
 cases x with
 | false=>simp only [Bool.false_eq_true,if_false];exact ⟨k₁,rfl⟩
 | true =>
  refine r7 (by decide) ?_
  refine wpAny_allTrue_And_cons (((hb rfl).keep (k.trans k₁)).go fun s₂ k₂=>?_)
  cases y with
  | false=>simp only [Bool.false_eq_true,if_false];exact ⟨k₁.trans k₂,rfl⟩
  | true=>simp only [if_true];exact wpAny_allTrue_And_nil ⟨k₁.trans k₂,rfl⟩
theorem tJ {a b:Expr} {p:Pos} {x y:Bool} (ha:EvT prog w A env s a x) (hb:x=false→EvT prog w A env s b y):EvT prog w A env s (.BoolOp .Or [a,b] p) (x || y):=fun s' k=>by
 refine wpAny_isTrue_BoolOp (wpAny_allTrue_Or_cons ((ha.keep k).go fun s₁ k₁=>?_))
 cases x with
 | true=>simp only [if_true];exact ⟨k₁,rfl⟩
 | false =>
  refine mF (by decide) ?_
  refine wpAny_allTrue_Or_cons (((hb rfl).keep (k.trans k₁)).go fun s₂ k₂=>?_)
  cases y with
  | true=>simp only [if_true];exact ⟨k₁.trans k₂,rfl⟩
  | false=>simp only [Bool.false_eq_true,if_false];exact wpAny_pure ⟨k₁.trans k₂,rfl⟩
theorem mU {f:Str} {q p:Pos} {x:Str} {px:Pos} {a:Addr} {ds:List D} (c:Cx prog w env X τ ω s) (hf:EvV prog w A env s (.Name f q) (.builtin "len")) (hx:τ.lookup x=some (.v (.ref a))) (hm:(a,OD.lst ds)∈ω) (hl:ds.length≤16777216)
  (hd:autoParam ((x == ("__debug__":Str))=false) fb._auto_1):EvD prog w A env X s (.Call (.Name f q) [.Name x px] [] p) (.int ds.length) :=
 bz hf (qt (X:=X) (az (.ref a) c hx hd) al) (fun s' Z=>aJ) fun vs s' k h=>by
  refine ex12 (dZ h) fun v Z1 h1=>?_;subst Z1
  subst h1
  refine ai ((c.keep k).own _ hm) fun Z1 Z=>?_;refine ex22 Z1 fun vs n hg hr=>?_;clear Z1
  refine PyProof.Rows.len_list (ah hg) (by simp [hr.length];lia) ⟨Keep.toks,?_⟩
  have:((vs.toArray.size:Nat):Int)=ds.length:=by simp [hr.length]
  rw [this];exact Rd.int_
theorem eC {x:Str} {px p:Pos} {i:Expr} {a:Addr} {ds:List D} {k:Int} {n:Nat} {d:D} (c:Cx prog w env X τ ω s) (hx:τ.lookup x=some (.v (.ref a))) (hm:(a,OD.lst ds)∈ω) (hi:EvD prog w A env X s i (.int k))
  (hk:(if k < 0 then k + ds.length else k)=n) (hb:ds[n]?=some d) (hl:ds.length≤16777216) (hd:autoParam ((x == ("__debug__":Str))=false) fb._auto_1)
  (hs:autoParam (∀ o u:Value,subscripted i false o u=operate [o,u] (getItem o u)) r5._auto_1):EvD prog w A env X s (.Subscript (.Name x px) i p) d:=by
 revert c hx hm hi hk hb hl hd hs
 revert px p i a ds k n d
 revert prog w A env X τ ω s x;refine @(dr9 ?_);exists w9 _ _,prog,w,A,env,X,τ,ω,s,x
 intro px p i a ds k n d
 revert px p i a ds k n d;refine @(dr8 ?_);exists w8 _ _,px,p,i,a,ds,k,n,d
 intro c hx hm hi hk hb hl hd hs
 intro s' k'
 refine PyProof.Rows.Subscript_ (((az (.ref a) c hx hd).keep k').go fun u s₁ k₁ h₁=>(hi.keep (k'.trans k₁)).go fun v' s₂ k₂ h₂=>?_)
 subst h₁
 refine Rd.intE h₂ fun t Z1=>?_;subst Z1
 have c₂:=c.keep ((k'.trans k₁).trans k₂)
 refine ai (c₂.own _ hm) fun Z1 Z=>?_;refine ex22 Z1 fun vs m hg hr=>?_;clear Z1
 have hlen:=hr.length
 have hn:n < ds.length:=(List.getElem?_eq_some_iff.mp hb).1
 refine ex12 (hr.get hb) fun y hy hyr=>?_
 have fin:Keep [] s' s₂∧Rd prog w s₂.heap X d y:=⟨k₁.trans k₂,hyr⟩
 by_cases h0:k < 0
 ·rw [if_pos h0] at hk
  exact tail_any (ah hg).typeIs slot_list_getitem.lookup (wpAny_getItem_list_neg (ah hg) h0 (by simp;lia) (by lia) (by simp only [List.getElem?_toArray];rw [show (k + (vs.toArray.size:Nat):Int).toNat=n by simp;lia];exact hy) fin) (hs _ _)
 ·rw [if_neg h0] at hk
  exact tail_any (ah hg).typeIs slot_list_getitem.lookup (wpAny_getItem_list (ah hg) (by lia) (by lia) (by simp only [List.getElem?_toArray];rw [show k.toNat=n by lia];exact hy) fin) (hs _ _)
noncomputable def cU (r:List Int):Bool:=decide (1 < r.length) && (r.getD (r.length - 1) 0 == r.getD (r.length - 2) 0)
noncomputable def rowD (parts:List Int) (kind:Int):List Int :=
 if kind == 1 then parts++[127,1] else if kind == 2 then b9 cU List.dropLast parts.length parts++[0,3] else parts
theorem gK:∀ (n:Nat) (r:List Int),r.length≤n→cU (b9 cU List.dropLast n r)=false
 | 0,r,h=>by
  unfold b9 cU
  have:¬ 1 < r.length:=by lia
  simp [this]
 | n + 1,r,h=>by
  unfold b9
  cases hc:cU r with
  | false=>simp [hc]
  | true=>simp only [if_true];exact gK n _ (by rw [List.length_dropLast];exact Nat.sub_le_sub_right h _)
theorem uP {n:Nat}:decide ((1:Int) < (n:Int))=decide (1 < n):=decide_eq_decide.mpr (by lia)
theorem sf (parts:List Int) (kind:Int) (hn:parts.length < 1000):Fn prog w 1 126 [am parts,.int kind] (am (rowD parts kind)):=by
 revert hn
 revert prog w parts kind;refine @(dr4 ?_);exists w4 _ _,prog,w,parts,kind
 intro hn
 exact c7 (i:=16) (names:=["parts", "kind"]) (by decide +kernel) (fun A s X env M s₁ ao g hsc hM hlo hce S=>by
  first | (revert ao g hsc hM hlo hce S;revert A s X env M s₁;refine @(dr6 ?_);exists w6 _ _,A,s,X,env,M,s₁;intro ao g hsc hM hlo hce S) | skip
  have fe:Fe env 16:=⟨hsc,hlo,hce⟩
  refine se S (fe.own rfl) rfl (by rw [List.length_map];exact Nat.le_trans (Nat.le_of_lt hn) (by decide)) fun a s₂ ha S2=>?_
  refine ik S2 (kind == 1) (aZ S2.cx (aa (.int kind) S2.cx rfl) ag cZ) (fun hb s₃ S3=>?_) (fun hb s₃ S3=>ax ?_)
  ·have S4:=Sx.freeze S S3 ha (.head _) (x:=("row":Str)) rfl (ω':=[]) (fun Z h=>nomatch h)
   refine ca S4 (aF S4.cx (aa (am parts) S4.cx rfl) (gF (ds:=[.int 127,.int 1]) S4.cx (aH ag (aH ag al))) (fG (by simp;exact Nat.le_trans (Nat.le_of_lt hn) (by decide)))) fun s₅ v S5 h=>⟨S5.base,?_⟩
   have h':=h.less (Y:=X) eR
   unfold rowD;rw [if_pos hb]
   show Rd _ _ _ _ (.lst (List.map D.int _)) v;rw [List.map_append];exact h'
  ·refine ik S3 (kind == 2) (aZ S3.cx (aa (.int kind) S3.cx rfl) ag cZ) (fun hb2 s₄ S4=>?_) (fun hb2 s₄ S4=>ax ?_)
   ·refine kK parts cU List.dropLast (fun r=>r.length < 1000) parts.length (gK _ _ (Nat.le_refl _)) hn (fun r h Z=>by rw [List.length_dropLast];exact Nat.sub_lt_of_lt h) S4 (fun r=>[("row",.v (.ref a))]) (fun r=>[(a,.lst (r.map .int))]) (fun Z Z=>False) ⟨rfl,trivial⟩ rfl
     (fun r s' hr S'=>?_) (fun r s' hr hc S'=>?_) (fun s' hr S'=>?_) (fun Z Z Z h=>h.elim)
    ·have hr':(r.map D.int).length≤16777216:=by rw [List.length_map];exact Nat.le_trans (Nat.le_of_lt hr) (by decide)
     unfold cU
     refine kL ((aZ S'.cx (mU S'.cx (aY _ S'.cx (fe.gl rfl) rfl) rfl (.head _) hr') ag r9).to ?_) fun h1=>?_
     ·rw [List.length_map];exact uP
     ·have hlt:1 < r.length:=of_decide_eq_true h1
      have hd:∀ k:Nat,k < r.length→(r.map D.int)[k]?=some (.int (r.getD k 0)):=fun k hk=>by
       rw [List.getElem?_map,List.getD_eq_getElem?_getD,List.getElem?_eq_getElem hk];rfl
      exact aZ S'.cx (eC S'.cx rfl (.head _) (o7 ag) (n:=r.length - 1) (by rw [if_pos (by decide),List.length_map];lia) (hd _ (by lia)) hr') (eC S'.cx rfl (.head _) (o7 ag) (n:=r.length - 2) (by rw [if_pos (by decide),List.length_map];lia) (hd _ (by lia)) hr') cZ
    ·have hlt:1 < r.length:=by unfold cU at hc;simp at hc;exact hc.1
     have e:r.map D.int=r.dropLast.map D.int++[.int (r.getLast (by intro z;subst z;simp at hlt))]:=by
      conv=>lhs;rw [← List.dropLast_concat_getLast (l:=r) (by intro z;subst z;simp at hlt)]
      rw [List.map_append];rfl
     rw [e] at S'
     refine tI (ω1:=[]) (ω2:=[]) S' rfl rfl (by simp) (by simp;exact Nat.le_trans (Nat.le_of_lt hr) (by decide)) fun s'' S''=>ax S''
    ·have S5:=Sx.freeze S S' ha (.head _) (x:=("row":Str)) rfl (ω':=[]) (fun Z h=>nomatch h)
     refine ca S5 (aF S5.cx (aa (am (b9 cU List.dropLast parts.length parts)) S5.cx rfl) (gF (ds:=[.int 0,.int 3]) S5.cx (aH ag (aH ag al))) (fG (by rw [List.length_map];simp;exact Nat.le_trans (Nat.le_of_lt hr) (by decide)))) fun s₅ v S5 h=>⟨S5.base,?_⟩
     have h':=h.less (Y:=X) eR
     unfold rowD;rw [hb,hb2]
     show Rd _ _ _ _ (.lst (List.map D.int (_++_))) v;rw [List.map_append];exact h'
   ·have S5:=Sx.freeze S S4 ha (.head _) (x:=("row":Str)) rfl (ω':=[]) (fun Z h=>nomatch h)
    refine ca S5 (aa (am parts) S5.cx rfl) fun s₅ v S5 h=>⟨S5.base,?_⟩
    have h':=h.less (Y:=X) eR
    unfold rowD;rw [hb,hb2]
    exact h') (il fun Z Z Z Z Z=>rfl)
noncomputable def cK {K:Type} [DecidableEq K] (kvs:List (K×D)) (k:K):Option D:=(kvs.find? fun kv=>kv.1=k).map (·.2)
noncomputable def dz {K:Type} [DecidableEq K] (kvs:List (K×D)) (k:K) (d:D):List (K×D) :=
 if kvs.any (fun kv=>kv.1=k) then kvs.map (fun kv=>if kv.1=k then (kv.1,d) else kv) else kvs++[(k,d)]
theorem RdI.get {h:Heap}:∀ {kvs:List (Int×D)} {ps:List (Int×Value)},RdI prog w h X kvs ps→∀ (k:Int),(match cK kvs k with | some d=>∃ v,valueAt ps k=some v∧Rd prog w h X d v | none=>valueAt ps k=none)
 | [],_,x,k=>by unfold RdI at x;subst x;rfl
 | (a,d)::r,_,x,k=>by
  refine RdI.consE x fun v q Z1 y z=>?_;clear x;subst Z1
  have ih:=RdI.get z k
  unfold cK valueAt at *
  rw [List.find?_cons,List.find?_cons]
  by_cases e:a=k
  ·simp only [e,decide_true];exact ⟨v,rfl,y⟩
  ·simp only [e,decide_false];exact ih
theorem RdI.any {h:Heap}:∀ {kvs:List (Int×D)} {ps:List (Int×Value)},RdI prog w h X kvs ps→∀ (k:Int),ps.any (fun kv=>decide (kv.1=k))=kvs.any (fun kv=>decide (kv.1=k))
 | [],_,x,k=>by unfold RdI at x;subst x;rfl
 | (a,d)::r,_,x,k=>by
  refine RdI.consE x fun v q Z1 y z=>?_;clear x;subst Z1
  rw [List.any_cons,List.any_cons,RdI.any z k]
theorem RdI.app {h:Heap}:∀ {kvs:List (Int×D)} {ps:List (Int×Value)},RdI prog w h X kvs ps→∀ {k:Int} {d:D} {v:Value},Rd prog w h X d v→RdI prog w h X (kvs++[(k,d)]) (ps++[(k,v)])
 | [],_,x,k,d,v,hv=>by unfold RdI at x;subst x;show RdI prog w h X [(k,d)] [(k,v)];unfold RdI;exact ⟨v,[],rfl,hv,by unfold RdI;rfl⟩
 | (a,e)::r,_,x,k,d,v,hv=>by
  refine RdI.consE x fun u q Z1 y z=>?_;clear x;subst Z1
  show RdI prog w h X ((a,e)::(r++[(k,d)])) ((a,u)::(q++[(k,v)]))
  unfold RdI
  exact ⟨u,_,rfl,y,RdI.app z hv⟩
theorem RdI.over {h:Heap}:∀ {kvs:List (Int×D)} {ps:List (Int×Value)},RdI prog w h X kvs ps→∀ {k:Int} {d:D} {v:Value},Rd prog w h X d v→RdI prog w h X (kvs.map fun kv=>if kv.1=k then (kv.1,d) else kv) (ps.map fun kv=>if kv.1=k then (kv.1,v) else kv)
 | [],_,x,k,d,v,hv=>by unfold RdI at x;subst x;unfold RdI;rfl
 | (a,e)::r,_,x,k,d,v,hv=>by
  refine RdI.consE x fun u q Z1 y z=>?_;clear x;subst Z1
  rw [List.map_cons,List.map_cons]
  by_cases ea:a=k
  ·simp only [ea,if_true]
   unfold RdI
   exact ⟨v,_,rfl,hv,RdI.over z hv⟩
  ·simp only [ea,if_false]
   unfold RdI
   exact ⟨u,_,rfl,y,RdI.over z hv⟩
theorem RdI.put {h:Heap} {kvs:List (Int×D)} {ps:List (Int×Value)} (x:RdI prog w h X kvs ps) {k:Int} {d:D} {v:Value} (hv:Rd prog w h X d v):RdI prog w h X (dz kvs k d) (stored ps k v):=by
 unfold dz stored
 rw [x.any k]
 by_cases e:(kvs.any fun kv=>decide (kv.1=k))=true
 ·rw [if_pos e,if_pos e];exact x.over hv
 ·rw [if_neg e,if_neg e];exact x.app hv
theorem RdI.length {h:Heap}:∀ {kvs:List (Int×D)} {ps:List (Int×Value)},RdI prog w h X kvs ps→ps.length=kvs.length
 | [],_,x=>by unfold RdI at x;subst x;rfl
 | (a,d)::r,_,x=>by
  refine RdI.consE x fun v q Z1 y z=>?_;clear x;subst Z1
  rw [List.length_cons,List.length_cons,RdI.length z]
theorem RdI.at {h:Heap}:∀ {kvs:List (Int×D)} {ps:List (Int×Value)},RdI prog w h X kvs ps→∀ {i:Nat} {k:Int} {v:Value},ps[i]?=some (k,v)→∃ d,kvs[i]?=some (k,d)∧Rd prog w h X d v
 | [],_,x,i,k,v,e=>by unfold RdI at x;subst x;exact nO e
 | (a,d)::r,_,x,i,k,v,e=>by
  refine RdI.consE x fun u q Z1 y z=>?_;clear x;subst Z1
  cases i with
  | zero=>cases e;exact ⟨d,rfl,y⟩
  | succ i=>exact RdI.at z (by simpa using e)
theorem RdI.keep {s s':Shared} {kvs:List (Int×D)} {ps:List (Int×Value)} (x:RdI prog w s.heap X kvs ps) (k:Keep X s s'):RdI prog w s'.heap X kvs ps:=RdI.mv (fun a o ha e=>⟨ha,k.heap a o ha e⟩) _ _ x
theorem Sx.dputI (S:Sx prog w s₀ env M X τ ω s) {a:Addr} {kvs:List (Int×D)} {k:Int} {key v:Value} {d:D} {ω1 ω2:List (Addr×OD)} {Q:Unit→Shared→Prop} (hω:ω=ω1++(a,.dci kvs)::ω2) (hne:∀ p∈ω1++ω2,p.1≠a)
  (hkey:(intKind prog w).is k key=true) (hv:Rd prog w s.heap X d v) (hl:kvs.length≤1000000)
  (h:∀ s',Keep [a] s s'→Sx prog w s₀ env M X τ (ω1++(a,.dci (dz kvs k d))::ω2) s'→Q () s'):WP prog w A (setItem (.ref a) key v) Q s:=by
 have hm:(a,OD.dci kvs)∈ω:=by rw [hω];simp
 refine br (S.cx.own _ hm) fun Z1 hX Z=>?_;refine ex12 Z1 fun ps hg hr=>?_;clear Z1
 refine wpAny_setItem_pairs hkey hg (fun h' hd hs=>?_) (by rw [hr.length];exact Nat.le_trans hl (by rw [aM];decide))
 have hk:∀ b o,b∉X→s.heap.get? b=some o→b∉X∧h'.get? b=some o:=fun b o hb eb=>⟨hb,(hs.2 b fun z=>hb (z ▸ hX)).trans eb⟩
 have ho:OwnAt prog w h' X a (.dci (dz kvs k d)):=⟨stored ps k v,hd,RdI.put (RdI.mv hk _ _ hr) (Rd.mv hk _ _ hv)⟩
 exact h _ (Keep.sameBut (tk:=s.toks + 1) hs (.head _) ho.live) (S.put (tk:=s.toks + 1) hω hne hs ho)
theorem Sx.sysI (S:Sx prog w s₀ env M X τ ω s) {a:Addr} {od:OD} (hm:(a,od)∈ω):(a == sysModules)=false:=by
 have:=S.cx.xhi _ (S.cx.own _ hm).2.1
 refine beq_eq_false_iff_ne.mpr fun e=>?_
 have e':a=1:=e
 rw [show (a,od).1=a from rfl,e'] at this
 exact absurd this (by decide)
theorem dv {v:Value} {h:Heap} {k:Int} (x:Rd prog w h X (.int k) v):(intKind prog w).is k v=true:=by
 refine Rd.intE x fun t Z1=>?_;subst Z1
 show Value.isInt k (.int k t)=true;simp [Value.isInt]
theorem RdS.get {h:Heap}:∀ {kvs:List (Str×D)} {ps:List (Str×Value)},RdS prog w h X kvs ps→∀ (k:Str),(match cK kvs k with | some d=>∃ v,valueAt ps k=some v∧Rd prog w h X d v | none=>valueAt ps k=none)
 | [],_,x,k=>by unfold RdS at x;subst x;rfl
 | (a,d)::r,_,x,k=>by
  refine RdS.consE x fun v q Z1 y z=>?_;clear x;subst Z1
  have ih:=RdS.get z k
  unfold cK valueAt at *
  rw [List.find?_cons,List.find?_cons]
  by_cases e:a=k
  ·simp only [e,decide_true];exact ⟨v,rfl,y⟩
  ·simp only [e,decide_false];exact ih
theorem RdS.any {h:Heap}:∀ {kvs:List (Str×D)} {ps:List (Str×Value)},RdS prog w h X kvs ps→∀ (k:Str),ps.any (fun kv=>decide (kv.1=k))=kvs.any (fun kv=>decide (kv.1=k))
 | [],_,x,k=>by unfold RdS at x;subst x;rfl
 | (a,d)::r,_,x,k=>by
  refine RdS.consE x fun v q Z1 y z=>?_;clear x;subst Z1
  rw [List.any_cons,List.any_cons,RdS.any z k]
theorem RdS.app {h:Heap}:∀ {kvs:List (Str×D)} {ps:List (Str×Value)},RdS prog w h X kvs ps→∀ {k:Str} {d:D} {v:Value},Rd prog w h X d v→RdS prog w h X (kvs++[(k,d)]) (ps++[(k,v)])
 | [],_,x,k,d,v,hv=>by unfold RdS at x;subst x;show RdS prog w h X [(k,d)] [(k,v)];unfold RdS;exact ⟨v,[],rfl,hv,by unfold RdS;rfl⟩
 | (a,e)::r,_,x,k,d,v,hv=>by
  refine RdS.consE x fun u q Z1 y z=>?_;clear x;subst Z1
  show RdS prog w h X ((a,e)::(r++[(k,d)])) ((a,u)::(q++[(k,v)]))
  unfold RdS
  exact ⟨u,_,rfl,y,RdS.app z hv⟩
theorem RdS.over {h:Heap}:∀ {kvs:List (Str×D)} {ps:List (Str×Value)},RdS prog w h X kvs ps→∀ {k:Str} {d:D} {v:Value},Rd prog w h X d v→RdS prog w h X (kvs.map fun kv=>if kv.1=k then (kv.1,d) else kv) (ps.map fun kv=>if kv.1=k then (kv.1,v) else kv)
 | [],_,x,k,d,v,hv=>by unfold RdS at x;subst x;unfold RdS;rfl
 | (a,e)::r,_,x,k,d,v,hv=>by
  refine RdS.consE x fun u q Z1 y z=>?_;clear x;subst Z1
  rw [List.map_cons,List.map_cons]
  by_cases ea:a=k
  ·simp only [ea,if_true]
   unfold RdS
   exact ⟨v,_,rfl,hv,RdS.over z hv⟩
  ·simp only [ea,if_false]
   unfold RdS
   exact ⟨u,_,rfl,y,RdS.over z hv⟩
theorem RdS.put {h:Heap} {kvs:List (Str×D)} {ps:List (Str×Value)} (x:RdS prog w h X kvs ps) {k:Str} {d:D} {v:Value} (hv:Rd prog w h X d v):RdS prog w h X (dz kvs k d) (stored ps k v):=by
 unfold dz stored
 rw [x.any k]
 by_cases e:(kvs.any fun kv=>decide (kv.1=k))=true
 ·rw [if_pos e,if_pos e];exact x.over hv
 ·rw [if_neg e,if_neg e];exact x.app hv
theorem RdS.length {h:Heap}:∀ {kvs:List (Str×D)} {ps:List (Str×Value)},RdS prog w h X kvs ps→ps.length=kvs.length
 | [],_,x=>by unfold RdS at x;subst x;rfl
 | (a,d)::r,_,x=>by
  refine RdS.consE x fun v q Z1 y z=>?_;clear x;subst Z1
  rw [List.length_cons,List.length_cons,RdS.length z]
theorem RdS.at {h:Heap}:∀ {kvs:List (Str×D)} {ps:List (Str×Value)},RdS prog w h X kvs ps→∀ {i:Nat} {k:Str} {v:Value},ps[i]?=some (k,v)→∃ d,kvs[i]?=some (k,d)∧Rd prog w h X d v
 | [],_,x,i,k,v,e=>by unfold RdS at x;subst x;exact nO e
 | (a,d)::r,_,x,i,k,v,e=>by
  refine RdS.consE x fun u q Z1 y z=>?_;clear x;subst Z1
  cases i with
  | zero=>cases e;exact ⟨d,rfl,y⟩
  | succ i=>exact RdS.at z (by simpa using e)
theorem Sx.dputS (S:Sx prog w s₀ env M X τ ω s) {a:Addr} {kvs:List (Str×D)} {k:Str} {key v:Value} {d:D} {ω1 ω2:List (Addr×OD)} {Q:Unit→Shared→Prop} (hω:ω=ω1++(a,.dcs kvs)::ω2) (hne:∀ p∈ω1++ω2,p.1≠a)
  (hkey:(strKind prog w).is k key=true) (hv:Rd prog w s.heap X d v) (hl:kvs.length≤1000000)
  (h:∀ s',Keep [a] s s'→Sx prog w s₀ env M X τ (ω1++(a,.dcs (dz kvs k d))::ω2) s'→Q () s'):WP prog w A (setItem (.ref a) key v) Q s:=by
 have hm:(a,OD.dcs kvs)∈ω:=by rw [hω];simp
 refine br (S.cx.own _ hm) fun Z1 hX Z=>?_;refine ex12 Z1 fun ps hg hr=>?_;clear Z1
 refine wpAny_setItem_pairs hkey hg (fun h' hd hs=>?_) (by rw [hr.length];exact Nat.le_trans hl (by rw [aM];decide))
 have hk:∀ b o,b∉X→s.heap.get? b=some o→b∉X∧h'.get? b=some o:=fun b o hb eb=>⟨hb,(hs.2 b fun z=>hb (z ▸ hX)).trans eb⟩
 have ho:OwnAt prog w h' X a (.dcs (dz kvs k d)):=⟨stored ps k v,hd,RdS.put (RdS.mv hk _ _ hr) (Rd.mv hk _ _ hv)⟩
 exact h _ (Keep.sameBut (tk:=s.toks + 1) hs (.head _) ho.live) (S.put (tk:=s.toks + 1) hω hne hs ho)
theorem Sx.sysS (S:Sx prog w s₀ env M X τ ω s) {a:Addr} {od:OD} (hm:(a,od)∈ω):(a == sysModules)=false:=by
 have:=S.cx.xhi _ (S.cx.own _ hm).2.1
 refine beq_eq_false_iff_ne.mpr fun e=>?_
 have e':a=1:=e
 rw [show (a,od).1=a from rfl,e'] at this
 exact absurd this (by decide)
theorem d6 {v:Value} {h:Heap} {k:Str} (x:Rd prog w h X (.str k) v):(strKind prog w).is k v=true:=by
 refine Rd.strE x fun t Z1=>?_;subst Z1
 show Value.isStrOf k (.str k t)=true;simp [Value.isStrOf]
theorem o8 {h:Heap} {k:Int} {v:Value} (x:(intKind prog w).is k v=true):Rd prog w h X (.int k) v:=by (refine ex11 (Value.isInt_shape x) fun t Z1=>?_;subst Z1);exact Rd.int_
theorem o9 {h:Heap} {k:Str} {v:Value} (x:(PySem.strKind prog w).is k v=true):Rd prog w h X (.str k) v:=by (refine ex11 (Value.isStrOf_shape x) fun t Z1=>?_;subst Z1);exact Rd.str_
theorem pb (S:Sx prog w s₀ env M X τ ω s) {x:Str} {px p q:Pos} {rest:List Stmt} {Q:Flow→Shared→Prop} (hx:Own env x)
  (h:∀ a s',s.heap.get? a=none→Sx prog w s₀ env (a::M) (a::X) ((x,.v (.ref a))::τ) ((a,.dci [])::ω) s'→WP prog w A (execs rest env) Q s') :
  WP prog w A (execs (.Assign [.Name x px] (.Dict [] [] q) p::rest) env) Q s:=by
 refine aK (wpAny_Assign_Name (wpAny_Dict_empty ?_))
 have S2:=S.own (a:=s.heap.objs.size) (.dci []) (af _) (Keep.push (o:={ cls:=.type "dict",data:=.dict #[] }) (tk:=s.toks)) ⟨[],Heap.DictOf.new _,by unfold RdI;rfl⟩ S.hi_size
 exact S2.store hx (b:=.v (.ref s.heap.objs.size)) rfl fun s' k S'=>h _ s' (af _) S'
theorem iq (S:Sx prog w s₀ env M X τ ω s) {x:Str} {px p q:Pos} {rest:List Stmt} {Q:Flow→Shared→Prop} (hx:Own env x)
  (h:∀ a s',s.heap.get? a=none→Sx prog w s₀ env (a::M) (a::X) ((x,.v (.ref a))::τ) ((a,.dcs [])::ω) s'→WP prog w A (execs rest env) Q s') :
  WP prog w A (execs (.Assign [.Name x px] (.Dict [] [] q) p::rest) env) Q s:=by
 refine aK (wpAny_Assign_Name (wpAny_Dict_empty ?_))
 have S2:=S.own (a:=s.heap.objs.size) (.dcs []) (af _) (Keep.push (o:={ cls:=.type "dict",data:=.dict #[] }) (tk:=s.toks)) ⟨[],Heap.DictOf.new _,by unfold RdS;rfl⟩ S.hi_size
 exact S2.store hx (b:=.v (.ref s.heap.objs.size)) rfl fun s' k S'=>h _ s' (af _) S'
theorem uQ {q:Pos} (c:Cx prog w env X τ ω s):EvD prog w A env X s (.Dict [] [] q) (.dci []):=fun s' k=>by
 have g:=(c.keep k).gd
 refine wpAny_Dict_empty ⟨Keep.push (tk:=s'.toks),Rd.dci_ (ps:=[]) g.fresh ⟨Heap.DictOf.new _,?_⟩ (by unfold RdI;rfl)⟩
 have:=g.top.size
 exact beq_eq_false_iff_ne.mpr fun e=>absurd this (by show ¬ 178≤s'.heap.objs.size;rw [show s'.heap.objs.size=1 from e];decide)
theorem jI {o:Expr} {ap pos:Pos} {kvs:List (Int×D)} (c:Cx prog w env X τ ω s) (hh:A.handled=none) (ho:EvD prog w A env X s o (.dci kvs))
  (hbase:autoParam (attributeBase o "values" env (eval o env)=eval o env) cT._auto_1) (hline:autoParam ((ap.endLine == pos.line)=true) cT._auto_1):EvI prog w A env X s (.Call (.Attribute o "values" ap) [] [] pos) (kvs.map (·.2)):=by
 revert c hh ho hbase hline
 revert prog w A env X τ ω s o ap pos kvs;refine @(dr12 ?_);exists w12 _ _,prog,w,A,env,X,τ,ω,s,o,ap,pos,kvs
 intro c hh ho hbase hline
 intro s' k
 refine dD (X:=X) (b:=.d (.dci kvs)) PySem.F.plainAttrs_dict PySem.F.slot_dict_values PySem.F.type_dict_values (Ev.keep ho k) al (fun v s₁ k₁ h₁=>?_) (fun v vs s₁ k₁ h₁ e=>?_) (by decide) hbase hline
 ·refine Rd.dciE (ds:=kvs) h₁ fun a ps Z1 hx Z2 hr=>?_;subst Z1;refine ai Z2 fun hg hy=>?_;clear Z2
  exact ⟨hg.typeIs,hg.mapOf.noDict⟩
 ·refine Rd.dciE (ds:=kvs) h₁ fun d ps Z1 hx Z2 hr=>?_;subst Z1;refine ai Z2 fun hg hy=>?_;clear Z2
  cases e
  have g:=(c.keep (k.trans k₁)).gd
  refine call_meetsIn PySem.F.slot_dict_values hg.typeIs PySem.F.entry_dict_values (PySem.F.args_dict_values_1 _) (meets_dict_values (intKind prog w) d hy) ⟨⟨ps,hg⟩,k₁.trans (Keep.push (tk:=s₁.toks)),?_⟩
  let s₂:Shared:={ s₁ with heap:=s₁.heap.push { cls:=.type "dict_values",data:=.fields #[.ref d] } }
  have k₂:Keep [] s₁ s₂:=Keep.push (tk:=s₁.toks)
  have g₂:=g.keep k₂
  have hg2:s₂.heap.DictOf (intKind prog w) d ps:=hg.push _
  refine ex11 hg2.dictAt fun ep hat=>?_
  have hdl:d < s₂.heap.objs.size:=by refine cY hg2 fun o ho=>?_;exact Heap.lt_size ho
  show WP prog w A (pyIter (.ref s₁.heap.objs.size)) _ s₂
  refine wpAny_pyIter_values (knd:=intKind prog w) (d:=d) (kvs:=ps) (ep:=ep) ⟨_,Heap.get?_push_size _ rfl,rfl,rfl⟩ hat ⟨Keep.push (tk:=s₂.toks),s₂.heap.objs.size,[s₂.heap.objs.size],(fun i h=>h.IsValIter s₂.heap.objs.size d i ps.length ep∧h.DictAt (intKind prog w) d ps ep),rfl,?_⟩
  refine ⟨?_,⟨⟨_,Heap.get?_push_size _ rfl,rfl,rfl⟩,hat.push _⟩,fun b hb=>by rw [ay hb];exact af _,fun b hb=>by rw [ay hb];exact g₂.top.size,fun i h st b hb=>?_,fun i h st=>?_⟩
  ·have W:=Walks.dictValues (knd:=intKind prog w) hh s₂.heap.objs.size d (Nat.ne_of_lt hdl) ps ep
   rw [show ps.length=(kvs.map (·.2)).length by rw [List.length_map];exact hr.length] at W ⊢
   refine ⟨_,_,W,fun b hb=>?_,fun i v hv=>?_⟩
   ·refine mC hb (fun Z1=>?_) fun hb=>?_;subst Z1
    ·exact ⟨g₂.fresh,by show (Heap.get? _ _).isSome=true;rw [Heap.get?_push_size _ rfl];rfl⟩
    ·refine cY (hg2.push { cls:=.type "dict_valueiterator",data:=.fields #[.ref d,.int 0 0,.int ps.length 0,.int ep 0] }) fun o ho=>?_
     rw [ay hb];exact ⟨hx,by
      show (Heap.get? _ _).isSome=true
      rw [List.length_map,← hr.length]
      rw [ho];rfl⟩
   ·refine ex11 hv fun kk hkv=>?_;clear hv
    refine ex12 (hr.at hkv) fun d' hd' hrd=>?_
    exact ⟨d',by rw [List.getElem?_map,hd'];rfl,fun h' X' hk=>Rd.mv (fun a o ha e=>hk a o ha (k₂.heap a o (fun h=>nomatch h) e)) _ _ hrd⟩
  ·rw [ay hb]
   refine ai st fun Z1 Z=>?_;clear st;refine ex12 Z1 fun o ho Z=>?_;clear Z1
   rw [ho];rfl
  ·refine ai st fun Z1 Z=>?_;clear st;refine ex13 Z1 fun o ho hc Z=>?_;clear Z1
   exact ⟨o,_,ho,hc,by decide⟩
theorem mV (S:Sx prog w s₀ env M X τ ω s) {o i e:Expr} {sp p:Pos} {a:Addr} {kvs:List (Int×D)} {k:Int} {d:D} {ω1 ω2:List (Addr×OD)} {rest:List Stmt} {Q:Flow→Shared→Prop}
  (he:EvD prog w A env X s e d) (ho:EvV prog w A env s o (.ref a)) (hi:EvD prog w A env X s i (.int k)) (hω:ω=ω1++(a,.dci kvs)::ω2) (hne:∀ p∈ω1++ω2,p.1≠a) (hl:kvs.length≤1000000)
  (h:∀ s',Sx prog w s₀ env M X τ (ω1++(a,.dci (dz kvs k d))::ω2) s'→WP prog w A (execs rest env) Q s')
  (hs:autoParam (swapsWith e (some (.Subscript o i sp)) p.line env=pure false) cT._auto_1) :
  WP prog w A (execs (.Assign [.Subscript o i sp] e p::rest) env) Q s:=by
 refine aK (wpAny_Assign_Subscript (he.go fun v s₁ k₁ h₁=>(ho.keep k₁).go fun u s₂ k₂ h₂=>(hi.keep (k₁.trans k₂)).go fun i s₃ k₃ h₃=>?_) hs)
 subst h₂
 have S3:=((S.keep k₁).keep k₂).keep k₃
 exact S3.dputI hω hne (dv h₃) (h₁.keep (k₂.trans k₃).any) hl fun s' Z S'=>h s' S'
theorem sh (S:Sx prog w s₀ env M X τ ω s) {o i e:Expr} {sp p:Pos} {op:Operator} {a:Addr} {kvs:List (Int×D)} {k:Int} {b c d:D} {ω1 ω2:List (Addr×OD)} {rest:List Stmt} {Q:Flow→Shared→Prop}
  (ho:EvV prog w A env s o (.ref a)) (hi:EvD prog w A env X s i (.int k)) (hω:ω=ω1++(a,.dci kvs)::ω2) (hne:∀ p∈ω1++ω2,p.1≠a) (hb:cK kvs k=some b) (hl:kvs.length≤1000000)
  (he:EvD prog w A env X s e c) (hop:cv prog w A X (inplaceOp op) b c d)
  (h:∀ s',Sx prog w s₀ env M X τ (ω1++(a,.dci (dz kvs k d))::ω2) s'→WP prog w A (execs rest env) Q s')
  (hs:∀ ov iv new,augStore i ov iv new=(do holding [new,ov,iv] (setItem ov iv new);release [new,ov,iv] [];pure .next):=by intros;rfl) :
  WP prog w A (execs (.AugAssign (.Subscript o i sp) op e p::rest) env) Q s:=by
 revert S ho hi hω hne hb hl he hop h hs
 revert sp p op a kvs k b c d ω1 ω2 rest Q
 revert prog w A env M X τ ω s s₀ o i e;refine @(dr13 ?_);exists w13 _ _,prog,w,A,env,M,X,τ,ω,s,s₀,o,i,e
 intro sp p op a kvs k b c d ω1 ω2 rest Q
 revert sp p op a kvs k b c d ω1 ω2 rest Q;refine @(dr13 ?_);exists w13 _ _,sp,p,op,a,kvs,k,b,c,d,ω1,ω2,rest,Q
 intro S ho hi hω hne hb hl he hop h hs
 have hm:(a,OD.dci kvs)∈ω:=by rw [hω];simp
 refine aK (wpAny_AugAssign_SubscriptAny (ho.go fun v s₁ k₁ h₁=>(hi.keep k₁).go fun u s₂ k₂ h₂=>?_) hs)
 subst h₁
 have S2:=(S.keep k₁).keep k₂
 refine br (S2.cx.own _ hm) fun Z1 hX Z=>?_;refine ex12 Z1 fun ps hg hr=>?_;clear Z1
 have hgt:=hr.get k
 rw [hb] at hgt
 refine ex12 hgt fun v hv hrd=>?_;clear hgt
 refine wpAny_getItem_of (dv h₂) hg.mapOf hv ?_
 have k₃:Keep [] s₂ { s₂ with toks:=s₂.toks + 1 }:=Keep.toks
 have S3:=S2.keep k₃
 refine (he.keep ((k₁.trans k₂).trans k₃)).go fun z s₄ k₄ h₄=>?_
 have S4:=S3.keep k₄
 refine wpAny_mono (hop s₄ v z S4.cx.gd (hrd.keep (k₃.trans k₄).any) h₄) (fun r s₅ hr5=>?_) fun Z Z z=>z
 exact (S4.keep hr5.1).dputI hω hne (dv h₂) hr5.2 hl fun s' Z S'=>h s' S'
theorem tK {l:Expr} {x:Str} {px p:Pos} {a:Addr} {kvs:List (Int×D)} {k:Int} (c:Cx prog w env X τ ω s) (hl:EvD prog w A env X s l (.int k)) (hx:τ.lookup x=some (.v (.ref a))) (hm:(a,OD.dci kvs)∈ω) (hsys:(a == sysModules)=false)
  (hd:autoParam ((x == ("__debug__":Str))=false) fb._auto_1) (hb:autoParam (behindInMarks .In (.Name x px)=false) tn._auto_1):EvT prog w A env s (.Compare l [.In] [.Name x px] p) (cK kvs k).isSome:=fun s' kk=>by
 refine wpAny_isTrue_Compare1 ((hl.keep kk).go fun u s₁ k₁ h₁=>((az (.ref a) c hx hd).keep (kk.trans k₁)).go fun v s₂ k₂ h₂=>?_) hb
 subst h₂
 have c₂:=c.keep ((kk.trans k₁).trans k₂)
 refine br (c₂.own _ hm) fun Z1 hX Z=>?_;refine ex12 Z1 fun ps hg hr=>?_;clear Z1
 refine wpAny_in_of (dv h₁) hsys hg.mapOf (wpAny_truthy_bool ⟨(k₁.trans k₂).trans Keep.toks,?_⟩)
 have hgt:=hr.get k
 cases e:cK kvs k with
 | none=>rw [e] at hgt;rw [hgt];rfl
 | some b=>rw [e] at hgt;refine ex12 hgt fun v hv Z=>?_;clear hgt;rw [hv];rfl
theorem si {o i e:Expr} {ap pos:Pos} {kvs:List (Int×D)} {k:Int} {df:D} (c:Cx prog w env X τ ω s) {x:Str} {px:Pos} {a:Addr} (hx:τ.lookup x=some (.v (.ref a))) (hm:(a,OD.dci kvs)∈ω) (hsys:(a == sysModules)=false)
  (hi:EvBs prog w A env X s [i,e] [.d (.int k),.d df]) (hd:autoParam ((x == ("__debug__":Str))=false) fb._auto_1)
  (hbase:autoParam (attributeBase (.Name x px) "get" env (eval (.Name x px) env)=eval (.Name x px) env) cT._auto_1) (hline:autoParam ((ap.endLine == pos.line)=true) cT._auto_1) :
  EvD prog w A env X s (.Call (.Attribute (.Name x px) "get" ap) [i,e] [] pos) ((cK kvs k).getD df):=by
 revert c hx hm hsys hi hd hbase hline
 revert e ap pos kvs k df x px a
 revert prog w A env X τ ω s o i;refine @(dr10 ?_);exists w10 _ _,prog,w,A,env,X,τ,ω,s,o,i
 intro e ap pos kvs k df x px a
 revert e ap pos kvs k df x px a;refine @(dr9 ?_);exists w9 _ _,e,ap,pos,kvs,k,df,x,px,a
 intro c hx hm hsys hi hd hbase hline
 intro s' kk
 refine dD (X:=X) (b:=.v (.ref a)) PySem.F.plainAttrs_dict PySem.F.slot_dict_get PySem.F.type_dict_get (Ev.keep (az (.ref a) c hx hd) kk) (hi.keep kk) (fun v s₁ k₁ h₁=>?_) (fun v vs s₁ k₁ h₁ e=>?_) (by simp) hbase hline
 ·subst h₁
  refine br ((c.keep (kk.trans k₁)).own _ hm) fun Z1 hX Z=>?_;refine ex12 Z1 fun ps hg hr=>?_;clear Z1
  exact ⟨hg.typeIs,hg.mapOf.noDict⟩
 ·subst h₁
  refine ex23 (mN e) fun u v Z1 h₂ h₃=>?_;subst Z1
  refine br ((c.keep (kk.trans k₁)).own _ hm) fun Z1 hX Z=>?_;refine ex12 Z1 fun ps hg hr=>?_;clear Z1
  refine call_meetsIn PySem.F.slot_dict_get hg.typeIs PySem.F.entry_dict_get (PySem.F.args_dict_get_3 _ _ _) (meets_dict_get_default (intKind prog w) a (dv h₂) hsys v) ⟨_,hg.mapOf,k₁.trans Keep.toks,?_⟩
  have hgt:=hr.get k
  cases eq:cK kvs k with
  | none=>rw [eq] at hgt;rw [hgt];exact h₃
  | some b=>rw [eq] at hgt;refine ex12 hgt fun v' hv hrd=>?_;clear hgt;rw [hv];exact hrd
theorem jJ {o:Expr} {ap pos:Pos} {kvs:List (Str×D)} (c:Cx prog w env X τ ω s) (hh:A.handled=none) (ho:EvD prog w A env X s o (.dcs kvs))
  (hbase:autoParam (attributeBase o "values" env (eval o env)=eval o env) cT._auto_1) (hline:autoParam ((ap.endLine == pos.line)=true) cT._auto_1):EvI prog w A env X s (.Call (.Attribute o "values" ap) [] [] pos) (kvs.map (·.2)):=by
 revert c hh ho hbase hline
 revert prog w A env X τ ω s o ap pos kvs;refine @(dr12 ?_);exists w12 _ _,prog,w,A,env,X,τ,ω,s,o,ap,pos,kvs
 intro c hh ho hbase hline
 intro s' k
 refine dD (X:=X) (b:=.d (.dcs kvs)) PySem.F.plainAttrs_dict PySem.F.slot_dict_values PySem.F.type_dict_values (Ev.keep ho k) al (fun v s₁ k₁ h₁=>?_) (fun v vs s₁ k₁ h₁ e=>?_) (by decide) hbase hline
 ·refine Rd.dcsE (ds:=kvs) h₁ fun a ps Z1 hx Z2 hr=>?_;subst Z1;refine ai Z2 fun hg hy=>?_;clear Z2
  exact ⟨hg.typeIs,hg.mapOf.noDict⟩
 ·refine Rd.dcsE (ds:=kvs) h₁ fun d ps Z1 hx Z2 hr=>?_;subst Z1;refine ai Z2 fun hg hy=>?_;clear Z2
  cases e
  have g:=(c.keep (k.trans k₁)).gd
  refine call_meetsIn PySem.F.slot_dict_values hg.typeIs PySem.F.entry_dict_values (PySem.F.args_dict_values_1 _) (meets_dict_values (PySem.strKind prog w) d hy) ⟨⟨ps,hg⟩,k₁.trans (Keep.push (tk:=s₁.toks)),?_⟩
  let s₂:Shared:={ s₁ with heap:=s₁.heap.push { cls:=.type "dict_values",data:=.fields #[.ref d] } }
  have k₂:Keep [] s₁ s₂:=Keep.push (tk:=s₁.toks)
  have g₂:=g.keep k₂
  have hg2:s₂.heap.DictOf (PySem.strKind prog w) d ps:=hg.push _
  refine ex11 hg2.dictAt fun ep hat=>?_
  have hdl:d < s₂.heap.objs.size:=by refine cY hg2 fun o ho=>?_;exact Heap.lt_size ho
  show WP prog w A (pyIter (.ref s₁.heap.objs.size)) _ s₂
  refine wpAny_pyIter_values (knd:=PySem.strKind prog w) (d:=d) (kvs:=ps) (ep:=ep) ⟨_,Heap.get?_push_size _ rfl,rfl,rfl⟩ hat ⟨Keep.push (tk:=s₂.toks),s₂.heap.objs.size,[s₂.heap.objs.size],(fun i h=>h.IsValIter s₂.heap.objs.size d i ps.length ep∧h.DictAt (PySem.strKind prog w) d ps ep),rfl,?_⟩
  refine ⟨?_,⟨⟨_,Heap.get?_push_size _ rfl,rfl,rfl⟩,hat.push _⟩,fun b hb=>by rw [ay hb];exact af _,fun b hb=>by rw [ay hb];exact g₂.top.size,fun i h st b hb=>?_,fun i h st=>?_⟩
  ·have W:=Walks.dictValues (knd:=PySem.strKind prog w) hh s₂.heap.objs.size d (Nat.ne_of_lt hdl) ps ep
   rw [show ps.length=(kvs.map (·.2)).length by rw [List.length_map];exact hr.length] at W ⊢
   refine ⟨_,_,W,fun b hb=>?_,fun i v hv=>?_⟩
   ·refine mC hb (fun Z1=>?_) fun hb=>?_;subst Z1
    ·exact ⟨g₂.fresh,by show (Heap.get? _ _).isSome=true;rw [Heap.get?_push_size _ rfl];rfl⟩
    ·refine cY (hg2.push { cls:=.type "dict_valueiterator",data:=.fields #[.ref d,.int 0 0,.int ps.length 0,.int ep 0] }) fun o ho=>?_
     rw [ay hb];exact ⟨hx,by
      show (Heap.get? _ _).isSome=true
      rw [List.length_map,← hr.length]
      rw [ho];rfl⟩
   ·refine ex11 hv fun kk hkv=>?_;clear hv
    refine ex12 (hr.at hkv) fun d' hd' hrd=>?_
    exact ⟨d',by rw [List.getElem?_map,hd'];rfl,fun h' X' hk=>Rd.mv (fun a o ha e=>hk a o ha (k₂.heap a o (fun h=>nomatch h) e)) _ _ hrd⟩
  ·rw [ay hb]
   refine ai st fun Z1 Z=>?_;clear st;refine ex12 Z1 fun o ho Z=>?_;clear Z1
   rw [ho];rfl
  ·refine ai st fun Z1 Z=>?_;clear st;refine ex13 Z1 fun o ho hc Z=>?_;clear Z1
   exact ⟨o,_,ho,hc,by decide⟩
theorem iY {e:Expr} {kvs:List (Str×D)} (c:Cx prog w env X τ ω s) (hh:A.handled=none) (he:EvD prog w A env X s e (.dcs kvs)):EvI prog w A env X s e (kvs.map fun kv=>.str kv.1):=by
 revert c hh he
 revert prog w A env X τ ω s e kvs;refine @(dr10 ?_);exists w10 _ _,prog,w,A,env,X,τ,ω,s,e,kvs
 intro c hh he
 exact fun s' k =>
 (he.keep k).go fun v s₁ k₁ h₁=>by
  refine Rd.dcsE (ds:=kvs) h₁ fun d ps Z1 hx Z2 hr=>?_;subst Z1;refine ai Z2 fun hg hy=>?_;clear Z2
  have g:=(c.keep (k.trans k₁)).gd
  refine ex11 hg.dictAt fun ep hat=>?_
  have hdl:d < s₁.heap.objs.size:=by refine cY hg fun o ho=>?_;exact Heap.lt_size ho
  refine ⟨k₁,wpAny_pyIter_dict (knd:=PySem.strKind prog w) (kvs:=ps) (ep:=ep) hy hat ⟨Keep.push (tk:=s₁.toks),s₁.heap.objs.size,[s₁.heap.objs.size],(fun i h=>h.IsKeyIter s₁.heap.objs.size d i ps.length ep∧h.DictAt (PySem.strKind prog w) d ps ep),rfl,?_⟩⟩
  refine ⟨?_,⟨⟨_,Heap.get?_push_size _ rfl,rfl,rfl⟩,hat.push _⟩,fun b hb=>by rw [ay hb];exact af _,fun b hb=>by rw [ay hb];exact g.top.size,fun i h st b hb=>?_,fun i h st=>?_⟩
  ·have W:=Walks.dictKeys (knd:=PySem.strKind prog w) hh s₁.heap.objs.size d (Nat.ne_of_lt hdl) ps ep
   rw [show ps.length=(kvs.map fun kv=>D.str kv.1).length by rw [List.length_map];exact hr.length] at W ⊢
   refine ⟨_,_,W,fun b hb=>?_,fun i v hv=>?_⟩
   ·refine mC hb (fun Z1=>?_) fun hb=>?_;subst Z1
    ·exact ⟨g.fresh,by show (Heap.get? _ _).isSome=true;rw [Heap.get?_push_size _ rfl];rfl⟩
    ·refine cY (hg.push { cls:=.type "dict_keyiterator",data:=.fields #[.ref d,.int 0 0,.int ps.length 0,.int ep 0] }) fun o ho=>?_
     rw [ay hb];exact ⟨hx,by
      show (Heap.get? _ _).isSome=true
      rw [List.length_map,← hr.length]
      rw [ho];rfl⟩
   ·refine ex22 hv fun kk x hkv hik=>?_;clear hv
    refine ex12 (hr.at hkv) fun d' hd' hrd=>?_
    exact ⟨.str kk,by rw [List.getElem?_map,hd'];rfl,fun h' X' hk=>o9 hik⟩
  ·rw [ay hb]
   refine ai st fun Z1 Z=>?_;clear st;refine ex12 Z1 fun o ho Z=>?_;clear Z1
   rw [ho];rfl
  ·refine ai st fun Z1 Z=>?_;clear st;refine ex13 Z1 fun o ho hc Z=>?_;clear Z1
   exact ⟨o,_,ho,hc,by decide⟩
theorem mW (S:Sx prog w s₀ env M X τ ω s) {o i e:Expr} {sp p:Pos} {a:Addr} {kvs:List (Str×D)} {k:Str} {d:D} {ω1 ω2:List (Addr×OD)} {rest:List Stmt} {Q:Flow→Shared→Prop}
  (he:EvD prog w A env X s e d) (ho:EvV prog w A env s o (.ref a)) (hi:EvD prog w A env X s i (.str k)) (hω:ω=ω1++(a,.dcs kvs)::ω2) (hne:∀ p∈ω1++ω2,p.1≠a) (hl:kvs.length≤1000000)
  (h:∀ s',Sx prog w s₀ env M X τ (ω1++(a,.dcs (dz kvs k d))::ω2) s'→WP prog w A (execs rest env) Q s')
  (hs:autoParam (swapsWith e (some (.Subscript o i sp)) p.line env=pure false) cT._auto_1) :
  WP prog w A (execs (.Assign [.Subscript o i sp] e p::rest) env) Q s:=by
 refine aK (wpAny_Assign_Subscript (he.go fun v s₁ k₁ h₁=>(ho.keep k₁).go fun u s₂ k₂ h₂=>(hi.keep (k₁.trans k₂)).go fun i s₃ k₃ h₃=>?_) hs)
 subst h₂
 have S3:=((S.keep k₁).keep k₂).keep k₃
 exact S3.dputS hω hne (d6 h₃) (h₁.keep (k₂.trans k₃).any) hl fun s' Z S'=>h s' S'
theorem sj {o i e:Expr} {ap pos:Pos} {kvs:List (Str×D)} {k:Str} {df:D} (c:Cx prog w env X τ ω s) {x:Str} {px:Pos} {a:Addr} (hx:τ.lookup x=some (.v (.ref a))) (hm:(a,OD.dcs kvs)∈ω) (hsys:(a == sysModules)=false)
  (hi:EvBs prog w A env X s [i,e] [.d (.str k),.d df]) (hd:autoParam ((x == ("__debug__":Str))=false) fb._auto_1)
  (hbase:autoParam (attributeBase (.Name x px) "get" env (eval (.Name x px) env)=eval (.Name x px) env) cT._auto_1) (hline:autoParam ((ap.endLine == pos.line)=true) cT._auto_1) :
  EvD prog w A env X s (.Call (.Attribute (.Name x px) "get" ap) [i,e] [] pos) ((cK kvs k).getD df):=by
 revert c hx hm hsys hi hd hbase hline
 revert e ap pos kvs k df x px a
 revert prog w A env X τ ω s o i;refine @(dr10 ?_);exists w10 _ _,prog,w,A,env,X,τ,ω,s,o,i
 intro e ap pos kvs k df x px a
 revert e ap pos kvs k df x px a;refine @(dr9 ?_);exists w9 _ _,e,ap,pos,kvs,k,df,x,px,a
 intro c hx hm hsys hi hd hbase hline
 intro s' kk
 refine dD (X:=X) (b:=.v (.ref a)) PySem.F.plainAttrs_dict PySem.F.slot_dict_get PySem.F.type_dict_get (Ev.keep (az (.ref a) c hx hd) kk) (hi.keep kk) (fun v s₁ k₁ h₁=>?_) (fun v vs s₁ k₁ h₁ e=>?_) (by simp) hbase hline
 ·subst h₁
  refine br ((c.keep (kk.trans k₁)).own _ hm) fun Z1 hX Z=>?_;refine ex12 Z1 fun ps hg hr=>?_;clear Z1
  exact ⟨hg.typeIs,hg.mapOf.noDict⟩
 ·subst h₁
  refine ex23 (mN e) fun u v Z1 h₂ h₃=>?_;subst Z1
  refine br ((c.keep (kk.trans k₁)).own _ hm) fun Z1 hX Z=>?_;refine ex12 Z1 fun ps hg hr=>?_;clear Z1
  refine call_meetsIn PySem.F.slot_dict_get hg.typeIs PySem.F.entry_dict_get (PySem.F.args_dict_get_3 _ _ _) (meets_dict_get_default (PySem.strKind prog w) a (d6 h₂) hsys v) ⟨_,hg.mapOf,k₁.trans Keep.toks,?_⟩
  have hgt:=hr.get k
  cases eq:cK kvs k with
  | none=>rw [eq] at hgt;rw [hgt];exact h₃
  | some b=>rw [eq] at hgt;refine ex12 hgt fun v' hv hrd=>?_;clear hgt;rw [hv];exact hrd
theorem iZ {v i:Expr} {kvs:List (Str×D)} {k:Str} {d:D} (hd:cK kvs k=some d)
  (hs:∀ (o:Addr) (u:Value),(PySem.strKind prog w).is k u=true→subscripted i false (.ref o) u=operate [.ref o,u] (getItem (.ref o) u)):cv prog w A X (subscriptTail v i) (.dcs kvs) (.str k) d:=fun s u x g h1 h2=>by
 refine Rd.dcsE (ds:=kvs) h1 fun a ps Z1 hx Z2 hr=>?_;subst Z1;refine ai Z2 fun hg hy=>?_;clear Z2
 have hgt:=hr.get k
 rw [hd] at hgt
 refine ex12 hgt fun y hy' hyr=>?_;clear hgt
 exact tail_any hg.typeIs PySem.slot_dict_getitem.lookup (wpAny_getItem_of (d6 h2) hg.mapOf hy' ⟨Keep.toks,hyr⟩) (hs _ _ (d6 h2))
noncomputable def gq:List Str→List D→List (Str×Bd)→List (Str×Bd)
 | x::xs,d::ds,τ=>gq xs ds ((x,.d d)::τ)
 | _,_,τ=>τ
theorem pc:∀ (xs:List (Str×Pos)) {ds:List D} {vs:List Value} {τ:List (Str×Bd)} {s:Shared} {Q:Unit→Shared→Prop},(∀ x∈xs,Own env x.1)→RdL prog w s.heap X ds vs→Sx prog w s₀ env M X τ ω s→xs.length=ds.length →
  (∀ s',Keep M s s'→Sx prog w s₀ env M X (gq (xs.map (·.1)) ds τ) ω s'→Q () s')→WP prog w A (assignInOrder (xs.map fun x=>assign (.Name x.1 x.2) env) vs) Q s
:=by
 intro xs
 induction xs with
 | nil =>
  intro ds vs τ s Q Z hr S hl h
  have:ds=[]:=List.length_eq_zero_iff.mp hl.symm
  subst this
  unfold RdL at hr;subst hr
  exact wpAny_pure (h s (Keep.refl _ _) S)
 | cons x xs ih =>
  intro ds vs τ s Q hx hr S hl h
  cases ds with
  | nil=>cases hl
  | cons d ds =>
   refine RdL.consE hr fun v r Z1 hv Z9=>?_;clear hr;revert Z9;intro hr;subst Z1
   show WP prog w A (do holding r (assign (.Name x.1 x.2) env v);assignInOrder (xs.map fun x=>assign (.Name x.1 x.2) env) r) Q s
   refine wpAny_bind (wpAny_holding (wpAny_assign_Name (S.store (hx x (.head _)) (b:=.d d) hv fun s' k S'=>?_)))
   exact ih (fun y hy=>hx y (.tail _ hy)) (hr.keep (k.more S.sub)) S' (by simpa using hl) fun s'' k' S''=>h s'' (k.trans k') S''
theorem fI:∀ (xs:List Str) (ds:List D) (τ:List (Str×Bd)),gq xs ds τ=gq xs ds []++τ
 | [],_,_=>by cases ‹List D› <;> rfl
 | x::xs,[],τ=>rfl
 | x::xs,d::ds,τ=>by
  show gq xs ds ((x,.d d)::τ)=gq xs ds [(x,.d d)]++τ
  rw [fI xs ds ((x,.d d)::τ),fI xs ds [(x,.d d)],List.append_assoc];rfl
theorem d7 (xs:List (Str×Pos)) {k:Nat} {p:Pos} {ds:List D} (hh:A.handled=none) (hx:∀ x∈xs,Own env x.1) (hl:xs.length=ds.length):Asg prog w A env M (.Tuple (xs.map fun x=>.Name x.1 x.2) k p) (.tup ds) (gq (xs.map (·.1)) ds []) :=
 fun X s₀ τ ω s v Q S hd h=>by
  refine hd.tupE fun a vs n Z1 hax hg hr=>?_;subst Z1
  have e1:∀ l:List (Str×Pos),assignEach (l.map fun x=>Expr.Name x.1 x.2) env=l.map fun x=>(false,assign (.Name x.1 x.2) env):=by
   intro l;induction l with
   | nil=>rfl
   | cons y r ih=>show (false,assign (.Name y.1 y.2) env)::assignEach (r.map fun x=>Expr.Name x.1 x.2) env=_;rw [ih];rfl
  refine wpAny_assign_Tuple hh (cb hg) (by rw [e1];simp [hr.length,hl]) (by
   rw [e1]
   rw [List.findIdx?_eq_none_iff]
   intro y hy
   refine mM hy fun z Z Z1=>?_;subst Z1
   rfl) fun h' hx'=>?_
  have k₁:Keep [] s { s with heap:=h' }:=Keep.extBut (tk:=s.toks) hx'
  rw [e1,List.map_map]
  refine pc xs hx (hr.keep k₁.any) (S.keep k₁) hl fun s' k S'=>h s' (k₁.any.trans k) ?_
  rw [fI] at S';exact S'
theorem uz (es:List Expr) (k:Nat) (p:Pos):(assignEach [.Tuple es k p] env).map (·.2)=[assign (.Tuple es k p) env]:=rfl
theorem uA (v:Value) (f:Value→Sem Unit):assignAll v [f]=f v:=rfl
theorem dw (S:Sx prog w s₀ env M X τ ω s) (xs:List (Str×Pos)) {k:Nat} {pt p:Pos} {e:Expr} {ds:List D} {rest:List Stmt} {Q:Flow→Shared→Prop} (hh:A.handled=none) (hx:∀ x∈xs,Own env x.1) (hl:xs.length=ds.length)
  (he:EvD prog w A env X s e (.tup ds)) (h:∀ s',Sx prog w s₀ env M X (gq (xs.map (·.1)) ds []++τ) ω s'→WP prog w A (execs rest env) Q s')
  (hs:swapsWithSole [.Tuple (xs.map fun x=>.Name x.1 x.2) k pt] e p.line env=pure false) (hw:swappedStores [.Tuple (xs.map fun x=>.Name x.1 x.2) k pt] e env=pure none) :
  WP prog w A (execs (.Assign [.Tuple (xs.map fun x=>.Name x.1 x.2) k pt] e p::rest) env) Q s :=
 aK (wpAny_Assign_stores (he.go fun v s₁ k₁ h₁=>by
  rw [uz,uA]
  exact d7 (k:=k) (p:=pt) xs hh hx hl X s₀ τ ω s₁ v (fun Z s'=>c5 prog w A env rest Q .next s') (S.keep k₁) h₁ fun s' k' S'=>h s' S') hs hw)
theorem gL (S:Sx prog w s₀ env M X τ ω s) {x xk xv:Str} {px pk pv pt ap cp p:Pos} {kt:Nat} {body rest:List Stmt} {Q:Flow→Shared→Prop} {kvs:List (Int×D)} (hh:A.handled=none) (hx:τ.lookup x=some (.d (.dci kvs)))
  (inv:Nat→List (Str×Bd)) (O:Nat→List (Addr×OD)) (R:Value→Shared→Prop) (h0:Covers τ (inv 0)) (hO:ω=O 0) (hxk:Own env xk) (hxv:Own env xv)
  (turn:∀ i k d X' s',kvs[i]?=some (k,d)→(∀ a∈X,a∈X')→Sx prog w s' env M X' ((xv,.d d)::(xk,.d (.int k))::inv i) (O i) s'→WP prog w A (execs body env) (iU prog w env M X' (inv (i + 1)) (O (i + 1)) R s') s')
  (done:∀ s',Sx prog w s₀ env M X (inv kvs.length) (O kvs.length) s'→WP prog w A (execs rest env) Q s') (hret:∀ v s',Keep M s s'→R v s'→Q (.ret v) s')
  (hline:autoParam ((ap.endLine == cp.line)=true) cT._auto_1) (hd:autoParam ((x == ("__debug__":Str))=false) fb._auto_1) (hbase:autoParam (attributeBase (.Name x px) "items" env (eval (.Name x px) env)=eval (.Name x px) env) cT._auto_1) :
  WP prog w A (execs (.For (.Tuple [.Name xk pk,.Name xv pv] kt pt) (.Call (.Attribute (.Name x px) "items" ap) [] [] cp) body [] p::rest) env) Q s:=by
 revert S hh hx h0 hO hxk hxv turn done hret hline hd hbase
 revert pk pv pt ap cp p kt body rest Q kvs inv O R
 revert prog w A env M X τ ω s s₀ x xk xv px;refine @(dr14 ?_);exists w14 _ _,prog,w,A,env,M,X,τ,ω,s,s₀,x,xk,xv,px
 intro pk pv pt ap cp p kt body rest Q kvs inv O R
 revert pk pv pt ap cp p kt body rest Q kvs inv O R;refine @(dr14 ?_);exists w14 _ _,pk,pv,pt,ap,cp,p,kt,body,rest,Q,kvs,inv,O,R
 intro S hh hx h0 hO hxk hxv turn done hret hline hd hbase
 refine aK (wpAny_For (hs:=by intro Z;rfl) (dD (X:=X) (b:=.d (.dci kvs)) PySem.F.plainAttrs_dict PySem.F.slot_dict_items PySem.F.type_dict_items (aa (.dci kvs) S.cx hx hd) al (fun v s₁ k₁ h₁=>?_) (fun v vs s₁ k₁ h₁ e=>?_) (by decide) hbase hline))
 ·refine Rd.dciE (ds:=kvs) h₁ fun a ps Z1 Z Z2 hr=>?_;subst Z1;refine ai Z2 fun hg hy=>?_;clear Z2
  exact ⟨hg.typeIs,hg.mapOf.noDict⟩
 refine Rd.dciE (ds:=kvs) h₁ fun d ps Z1 hdX Z2 hr=>?_;subst Z1;refine ai Z2 fun hg hy=>?_;clear Z2
 cases e
 refine call_meetsIn PySem.F.slot_dict_items hg.typeIs PySem.F.entry_dict_items (PySem.F.args_dict_items_1 _) (meets_dict_items (intKind prog w) d hy) ⟨⟨ps,hg⟩,?_⟩
 let sv:Shared:={ s₁ with heap:=s₁.heap.push { cls:=.type "dict_items",data:=.fields #[.ref d] } }
 have kv:Keep [] s₁ sv:=Keep.push (tk:=s₁.toks)
 have S1:=(S.keep k₁).keep kv
 have hgv:sv.heap.DictOf (intKind prog w) d ps:=hg.push _
 refine ex11 hgv.dictAt fun ep hat=>?_
 have hrv:RdI prog w sv.heap X kvs ps:=hr.keep kv.any
 have hdl:d < sv.heap.objs.size:=by refine cY hgv fun o ho=>?_;exact Heap.lt_size ho
 show WP prog w A (pyIter (.ref s₁.heap.objs.size)) _ sv
 refine wpAny_pyIter_items (knd:=intKind prog w) (d:=d) (kvs:=ps) (ep:=ep) ⟨_,Heap.get?_push_size _ rfl,rfl,rfl⟩ hat ?_
 let it:Addr:=sv.heap.objs.size
 let s₂:Shared:={ sv with heap:=sv.heap.push { cls:=.type "dict_itemiterator",data:=.fields #[.none,.bool false,.ref d,.int 0 0,.int ps.length 0,.int ep 0,.none,.none] } }
 have k₂:Keep [] sv s₂:=Keep.push (tk:=sv.toks)
 have hlen:=hr.length
 have hit0:IsItemIter s₂.heap it d 0 ps.length ep .none .none:=Heap.get?_push_size _ rfl
 have hat2:s₂.heap.DictAt (intKind prog w) d ps ep:=hat.push _
 have hnew:∀ b∈[it],sv.heap.get? b=none:=fun b hb=>by rw [ay hb];exact af _
 have S2:Sx prog w s₀ env M ([it]++X) (inv 0) (O 0) s₂:=((S1.avoid hnew k₂ (fun b hb=>by rw [ay hb];show (s₂.heap.get? it).isSome=true;rw [show s₂.heap.get? it=_ from hit0];rfl) (fun b hb=>by rw [ay hb];exact S1.hi_size)).cover h0).owns (by rw [hO];exact fun Z h=>h)
 have hwM:∀ b∈[it],b∉M:=fun b hb hm=>by
  have:=S1.cx.xlt b (S1.sub b hm)
  rw [hnew b hb] at this;exact nB this
 have hwC:∀ p∈env.cells,p.2∉[it]:=fun p hp hm=>by
  have:=S1.cx.xlt _ (S1.cx.ok.cel p hp).1
  rw [hnew _ hm] at this;exact nB this
 have hdit:d≠it:=Nat.ne_of_lt hdl
 have hdM:d∉it::M:=fun hm=>by
  refine mC hm (fun e=>?_) fun hm=>?_
  ·exact hdit e
  ·exact hdX (S.sub d hm)
 have fin:∀ s',Keep (it::M) s₂ s'→Keep M s s':=fun s' k=>(((k₁.trans kv).trans k₂).any.trans k).dropTo fun b hb=>(List.mem_cons.mp hb).elim (fun h=>.inr ((k₁.trans kv).none_back (hnew b (by rw [h];exact .head _)))) .inl
 refine dr (fun n s'=>∃ i ok ov,n=kvs.length - i∧i≤kvs.length∧Keep (it::M) s₂ s'∧Sx prog w s' env M ([it]++X) (inv i) (O i) s'∧IsItemIter s'.heap it d i ps.length ep ok ov∧s'.heap.DictAt (intKind prog w) d ps ep) (fun n s' hI=>?_) kvs.length ⟨0,.none,.none,rfl,Nat.zero_le _,Keep.refl _ _,S2.rebase,hit0,hat2⟩
 refine ex36 hI fun i ok ov Z1 hil kI SI hit hatI=>?_;clear hI;subst Z1
 by_cases hlt:i < kvs.length
 ·have hlt':i < ps.length:=by exact Nat.lt_of_lt_of_eq hlt (hlen).symm
  obtain ⟨⟨kk,vv⟩,hpi⟩:∃ q,ps[i]?=some q:=⟨ps[i],List.getElem?_eq_getElem hlt'⟩
  refine ex12 (hrv.at hpi) fun dd hdi hrd=>?_
  refine wpAny_pyNext_items_item hit hatI hpi fun key h' hkey heo ht hz hk=>?_
  refine wpAny_letOwnedTupleGo_items heo fun h'' hit' hs''=>?_
  have hkk:∀ b o,b∉[it]→s'.heap.get? b=some o→h''.get? b=some o:=fun b o hb e=>by
   have hbi:b≠it:=fun z=>hb (by rw [z];exact .head _)
   exact (hs''.2 b hbi).trans (hk b o hbi e)
  refine ai (SI.other (Y:=[it]) (h':=h'') (tk:=s'.toks) hkk (fun b hb Z=>by rw [ay hb,show h''.get? it=_ from hit'];rfl) (fun b hb=>mL hb) hwM hwC) fun Sa ka=>?_
  have hts:s'.heap.objs.size≠it:=fun z=>by
   have:=Heap.lt_size hit;exact absurd this (by rw [z];exact Nat.lt_irrefl _)
  have htup:h''.get? s'.heap.objs.size=some (ii [key,vv] 0):=(hs''.2 _ hts).trans ht
  have hfr:s'.heap.objs.size∉[it]++X:=SI.cx.fresh
  have hrd':Rd prog w h'' ([it]++X) dd vv:=Rd.mv (fun a o ha e=>by
   have hai:a∉[it]:=fun hm=>by rw [hnew a hm] at e;exact nO e
   have haM:a∉it::M:=fun hm=>(List.mem_cons.mp hm).elim (fun z=>hai (by rw [z];exact .head _)) fun hm=>ha (S.sub a hm)
   exact ⟨fun hm=>(List.mem_append.mp hm).elim hai ha,hkk a o hai (kI.heap a o haM (k₂.heap a o (fun h=>nomatch h) e))⟩) _ _ hrd
  have htd:Rd prog w h'' ([it]++X) (.tup [.int kk,dd]) (.ref s'.heap.objs.size):=Rd.tup_ hfr htup (.cons (o8 hkey) (.one hrd'))
  refine wpAny_mono (d7 [(xk,pk),(xv,pv)] hh (fun y hy=>by (refine mC hy (fun Z1=>?_) fun hy=>?_;subst Z1);exact hxk;rw [mS hy];exact hxv) rfl ([it]++X) _ _ _ _ _ _ Sa htd fun s₃ k₃ S3=>wpAny_mono (turn i kk dd ([it]++X) s₃ hdi (fun a ha=>mR ha) S3.rebase) (fun f s₄ hf=>?_) fun Z Z z=>z.elim) (fun Z Z z=>z) fun Z Z z=>z.elim
  have kM:∀ {s₄},Keep M s₃ s₄→Keep (it::M) s₂ s₄:=fun k=>((kI.trans (ka.more fun b hb=>by rw [ay hb];exact .head _)).trans (k₃.more fun b hb=>.tail _ hb)).trans (k.more fun b hb=>.tail _ hb)
  have hitM:it∉M:=hwM it (.head _)
  have hdM':d∉M:=fun hm=>hdM (.tail _ hm)
  have again:Sx prog w s₃ env M ([it]++X) (inv (i + 1)) (O (i + 1)) s₄→∃ m,m < kvs.length - i∧∃ i ok ov,m=kvs.length - i∧i≤kvs.length∧Keep (it::M) s₂ s₄∧Sx prog w s₄ env M ([it]++X) (inv i) (O i) s₄∧IsItemIter s₄.heap it d i ps.length ep ok ov∧s₄.heap.DictAt (intKind prog w) d ps ep:=fun S4 =>
   ⟨kvs.length - (i + 1),by lia,i + 1,key,vv,rfl,hlt,kM S4.base,S4.rebase,S4.base.heap it _ hitM (k₃.heap it _ hitM hit'),
    (hatI.at fun o e=>hkk d o (fun hm=>hdit (ay hm)) e).at fun o e=>S4.base.heap d o hdM' (k₃.heap d o hdM' e)⟩
  cases f with
  | next=>exact again hf
  | cont=>exact again hf
  | brk=>exact hf.elim
  | ret v=>exact hret v s₄ (fin s₄ (kM hf.1)) hf.2
 ·have hi':i=kvs.length:=by lia
  subst hi'
  refine wpAny_pyNext_items_end hh hit hatI (List.getElem?_eq_none (by exact Nat.le_of_eq hlen)) fun h₁ hx1=>?_
  dsimp only
  have hkA:∀ b o,b∉[it]→s'.heap.get? b=some o→h₁.get? b=some o:=fun b o hb e=>hx1 b o (fun z=>hb (by rw [z];exact .head _)) e
  have k':=fin s' kI
  have hsw:∀ a,(s.heap.get? a).isSome=true→a∉[it]:=fun a ha hm=>by rw [(k₁.trans kv).none_back (hnew a hm)] at ha;exact nB ha
  have kend:Keep M s { s' with heap:=h₁,toks:=s'.toks }:=⟨fun a o ha e=>hkA a o (hsw a (by rw [e];rfl)) (k'.heap a o ha e),fun a ha=>by
   have:=k'.live a ha
   cases e:s'.heap.get? a with
   | none=>rw [e] at this;exact nB this
   | some o=>show (h₁.get? a).isSome=true;rw [hkA a o (hsw a ha) e];rfl,k'.gens,k'.bare,k'.os⟩
  exact ax (prog:=prog) (w:=w) (A:=A) (env:=env) (Q:=fun f s=>c5 prog w A env rest Q f s) (done _ (SI.leave (tk:=s'.toks) hkA (fun b hb hx=>by have:=S1.cx.xlt b hx;rw [hnew b hb] at this;exact nB this) S.sub (fun p hp=>(S.cx.ok.cel p hp).1) (S.base.trans kend)))
noncomputable abbrev dI (l:List (Int×Int)):List (Int×D):=l.map fun p=>(p.1,.int p.2)
noncomputable def getN {K:Type} [DecidableEq K] (kvs:List (K×Int)) (k:K):Option Int:=(kvs.find? fun kv=>kv.1=k).map (·.2)
noncomputable def putN {K V:Type} [DecidableEq K] (kvs:List (K×V)) (k:K) (v:V):List (K×V) :=
 if kvs.any (fun kv=>kv.1=k) then kvs.map (fun kv=>if kv.1=k then (kv.1,v) else kv) else kvs++[(k,v)]
theorem fg (l:List (Int×Int)) (k v:Int):dz (dI l) k (.int v)=dI (putN l k v):=by
 have e:(dI l).any (fun kv=>decide (kv.1=k))=l.any (fun kv=>decide (kv.1=k)):=by simp [dI,List.any_map,Function.comp_def]
 unfold dz putN
 rw [e]
 split
 ·simp only [dI,List.map_map]
  refine List.map_congr_left fun p Z=>?_
  show (if p.1=k then (p.1,D.int v) else (p.1,D.int p.2))=_
  by_cases h:p.1=k <;> simp [h]
 ·simp [dI]
theorem d8 (l:List (Int×Int)) (k:Int):cK (dI l) k=(getN l k).map .int:=by
 unfold cK getN dI
 induction l with
 | nil=>rfl
 | cons p r ih =>
  rw [List.map_cons,List.find?_cons,List.find?_cons]
  by_cases h:p.1=k
  ·simp [h]
  ·simp only [h,decide_false];exact ih
theorem bY {K V:Type} [DecidableEq K] (l:List (K×V)) (k:K) (v:V):(putN l k v).length≤l.length + 1:=by
 unfold putN;split
 ·simp
 ·simp
noncomputable def bS (acc:List (Int×Int)) (p:Int×Int):List (Int×Int):=putN acc p.1 p.2
noncomputable def cB (acc:List (Int×Int)) (p:Int×Int):List (Int×Int):=match getN acc p.1 with
 | some v=>putN acc p.1 (v + p.2)
 | none=>putN acc p.1 p.2
noncomputable def pe (t s:List (Int×Int)):List (Int×Int):=s.foldl cB (t.foldl bS [])
theorem bv {α β:Type} {f:β→α→β} {x:β} {l:List α} {i:Nat} {a:α} (h:l[i]?=some a):(l.take (i + 1)).foldl f x=f ((l.take i).foldl f x) a:=by
 rw [List.take_add_one,h];simp
theorem de {f:List (Int×Int)→Int×Int→List (Int×Int)} (hf:∀ acc p,(f acc p).length≤acc.length + 1):∀ (l:List (Int×Int)) (x:List (Int×Int)),(l.foldl f x).length≤x.length + l.length
 | [],x=>Nat.le_refl _
 | p::r,x=>by
  have:=de hf r (f x p)
  have:=hf x p
  simp only [List.foldl_cons,List.length_cons];lia
theorem gM (acc:List (Int×Int)) (p:Int×Int):(cB acc p).length≤acc.length + 1:=by
 unfold cB;split <;> exact bY ..
theorem Sx.retD {Y:List Addr} {a:Addr} {kvs:List (Int×D)} (S:Sx prog w s env (a::M) (a::(M++Y)) τ ω s') (g:Gd Y s) (ha:s.heap.get? a=none) (hm:(a,OD.dci kvs)∈ω):Keep M s s'∧Rd prog w s'.heap Y (.dci kvs) (.ref a):=by
 refine ai (S.cx.own _ hm) fun Z1 Z=>?_;refine ex12 Z1 fun ps hg hr=>?_;clear Z1
 refine ⟨S.base.dropTo fun x hx=>?_,Rd.dci_ (g.liv.fresh ha) ⟨hg,S.sysI hm⟩ (RdI.mv (fun b o hb e=>⟨fun hx=>hb (.tail _ (mR hx)),e⟩) _ _ hr)⟩
 refine mC hx (fun Z1=>?_) fun hx=>?_;subst Z1
 ·exact .inr ha
 ·exact .inl hx
theorem Sx.retDS {Y:List Addr} {a:Addr} {kvs:List (Str×D)} (S:Sx prog w s env (a::M) (a::(M++Y)) τ ω s') (g:Gd Y s) (ha:s.heap.get? a=none) (hm:(a,OD.dcs kvs)∈ω):Keep M s s'∧Rd prog w s'.heap Y (.dcs kvs) (.ref a):=by
 refine ai (S.cx.own _ hm) fun Z1 Z=>?_;refine ex12 Z1 fun ps hg hr=>?_;clear Z1
 refine ⟨S.base.dropTo fun x hx=>?_,Rd.dcs_ (g.liv.fresh ha) ⟨hg,S.sysS hm⟩ (RdS.mv (fun b o hb e=>⟨fun hx=>hb (.tail _ (mR hx)),e⟩) _ _ hr)⟩
 refine mC hx (fun Z1=>?_) fun hx=>?_;subst Z1
 ·exact .inr ha
 ·exact .inl hx
theorem aC (S:Sx prog w s₀ env M X τ ω s) {x:Str} {px p:Pos} {e:Expr} {rest:List Stmt} {Q:Flow→Shared→Prop} (d:D) (hx:Own env x)
  (he:EvD prog w A env X s e d) (h:∀ s',Sx prog w s₀ env M X ((x,.d d)::τ) ω s'→WP prog w A (execs rest env) Q s')
  (hs:autoParam (swapsWith e (some (.Name x px)) p.line env=pure false) cT._auto_1):WP prog w A (execs (.Assign [.Name x px] e p::rest) env) Q s:=dT S (.d d) hx he h hs
theorem mX {f:Str} {q p:Pos} {e t:Expr} {i:Int} (c:Cx prog w env X τ ω s) (hf:EvV prog w A env s (.Name f q) (.builtin "isinstance")) (he:EvBs prog w A env X s [e,t] [.d (.int i),.v (.type "tuple")]) :
  EvD prog w A env X s (.Call (.Name f q) [e,t] [] p) (.bool false) :=
 bz hf he (fun s' Z=>aJ) fun vs s' k h=>by
  cases h with
  | cons h1 h2 =>
   refine ex12 (dZ h2) fun v Z1 h3=>?_;subst Z1
   have e:v=.type "tuple":=h3
   subst e
   refine Rd.intE (show Rd prog w s'.heap X (.int i) _ from h1) fun t Z1=>?_;subst Z1
   refine PySem.IsiPair.int_tuple ?_;exact ⟨Keep.toks,Rd.bool_⟩
theorem pg (l:List (Int×Int)):Fn prog w 1 35 [.dci (dI l)] (.int ((l.map (·.2)).foldl (· + ·) 0)):=by
 revert prog w l;refine @(dr3 ?_);exists w3 _ _,prog,w,l
 exact c7 (i:=3) (names:=["callers"]) (by decide +kernel) (fun A s X env M s₁ ao g hsc hM hlo hce S=>by
  first | (revert ao g hsc hM hlo hce S;revert A s X env M s₁;refine @(dr6 ?_);exists w6 _ _,A,s,X,env,M,s₁;intro ao g hsc hM hlo hce S) | skip
  have fe:Fe env 3:=⟨hsc,hlo,hce⟩
  refine aC S (.int 0) (fe.own rfl) ag fun s₂ S2=>?_
  refine fE S2 (ds:=(dI l).map (·.2)) (jI S2.cx ao.h (aa (.dci (dI l)) S2.cx rfl)) (fun i=>[("nc",.d (.int (((l.map (·.2)).take i).foldl (· + ·) 0)))]) (fun Z=>[]) (fun Z Z=>False) (fun i d=>[("calls",.d d)]) ⟨rfl,trivial⟩ rfl
   (fun i d Z=>au (fe.own rfl)) (fun i d X' s' hd hX S'=>?_) (fun s' S'=>?_) (fun Z Z Z h=>h.elim)
  ·obtain ⟨c,hc,rfl⟩:∃ c,(l.map (·.2))[i]?=some c∧d=.int c:=by
    simp only [dI,List.map_map,List.getElem?_map,Option.map_eq_some_iff] at hd ⊢
    refine ex12 hd fun p hp Z1=>?_;clear hd;subst Z1
    exact ⟨p.2,⟨p,hp,rfl⟩,rfl⟩
   refine jB S' (a:=.int (((l.map (·.2)).take i).foldl (· + ·) 0)) (b:=.int c) (fe.own rfl) rfl (aa (.int c) S'.cx rfl) dL fun s'' S''=>ax ?_
   show Sx _ _ _ _ _ _ _ _ _
   rw [bv hc]
   exact S''.cover ⟨rfl,trivial⟩
  ·refine ca S' (aa (.int ((l.map (·.2)).foldl (· + ·) 0)) S'.cx ?_) fun s₄ v S4 h=>⟨S4.base,h.less eR⟩
   rw [List.take_of_length_le (by simp [dI])];rfl) (mK fun Z Z Z Z=>rfl)
theorem qW (t l:List (Int×Int)) (ht:t.length≤1000) (hl:l.length≤1000):Fn prog w 1 28 [.dci (dI t),.dci (dI l)] (.dci (dI (pe t l))):=by
 revert ht hl
 revert prog w t l;refine @(dr4 ?_);exists w4 _ _,prog,w,t,l
 intro ht hl
 exact c7 (i:=2) (names:=["target", "source"]) (by decide +kernel) (fun A s X env M s₁ ao g hsc hM hlo hce S=>by
  first | (revert ao g hsc hM hlo hce S;revert A s X env M s₁;refine @(dr6 ?_);exists w6 _ _,A,s,X,env,M,s₁;intro ao g hsc hM hlo hce S) | skip
  have fe:Fe env 2:=⟨hsc,hlo,hce⟩
  refine pb S (fe.own rfl) fun a s₂ ha S2=>?_
  refine gL S2 (kvs:=dI t) ao.h rfl (fun Z=>[("new_callers",.v (.ref a)),("source",.d (.dci (dI l)))]) (fun i=>[(a,.dci (dI ((t.take i).foldl bS [])))]) (fun Z Z=>False) ⟨rfl,rfl,trivial⟩ rfl (fe.own rfl) (fe.own rfl)
   (fun i k d X' s' hd hX S'=>?_) (fun s' S'=>?_) (fun Z Z Z h=>h.elim)
  ·obtain ⟨c,hc,rfl⟩:∃ c,t[i]?=some (k,c)∧d=.int c:=by
    simp only [dI,List.getElem?_map,Option.map_eq_some_iff] at hd
    refine ex12 hd fun p hp e=>?_;clear hd
    cases e
    exact ⟨p.2,hp,rfl⟩
   refine mV (ω1:=[]) (ω2:=[]) (k:=k) (d:=.int c) S' (aa (.int c) S'.cx rfl) (az (.ref a) S'.cx rfl) (aa (.int k) S'.cx rfl) rfl (by simp) ?_ fun s'' S''=>ax ?_
   ·rw [List.length_map]
    have:=de (fun acc p=>bY acc p.1 p.2) (t.take i) []
    have h2:(t.take i).length≤t.length:=by rw [List.length_take];exact Nat.min_le_right ..
    have:((t.take i).foldl bS []).length≤[].length + (t.take i).length:=this
    simp at this;lia
   ·rw [fg] at S''
    show Sx _ _ _ _ _ _ _ _ _
    rw [bv hc]
    exact S''.cover ⟨rfl,rfl,trivial⟩
  ·rw [show (dI t).length=t.length from List.length_map ..,List.take_length] at S'
   have hb1:(t.foldl bS []).length≤1000:=by
    have:=de (fun acc p=>bY acc p.1 p.2) t []
    have:(t.foldl bS []).length≤[].length + t.length:=this
    simp at this;exact Nat.le_trans this ht
   refine gL S' (kvs:=dI l) ao.h rfl (fun Z=>[("new_callers",.v (.ref a))]) (fun i=>[(a,.dci (dI ((l.take i).foldl cB (t.foldl bS []))))]) (fun Z Z=>False) ⟨rfl,trivial⟩ rfl (fe.own rfl) (fe.own rfl)
    (fun i k d X' s' hd hX S'=>?_) (fun s' S'=>?_) (fun Z Z Z h=>h.elim)
   ·obtain ⟨c,hc,rfl⟩:∃ c,l[i]?=some (k,c)∧d=.int c:=by
     simp only [dI,List.getElem?_map,Option.map_eq_some_iff] at hd
     refine ex12 hd fun p hp e=>?_;clear hd
     cases e
     exact ⟨p.2,hp,rfl⟩
    have hlen:(dI ((l.take i).foldl cB (t.foldl bS []))).length≤1000000:=by
     rw [List.length_map]
     have:=de gM (l.take i) (t.foldl bS [])
     have h2:(l.take i).length≤l.length:=by rw [List.length_take];exact Nat.min_le_right ..
     lia
    refine ik S' _ (tK (k:=k) S'.cx (aa (.int k) S'.cx rfl) rfl (.head _) (S'.sysI (.head _))) (fun hb s₃ S3=>?_) (fun hb s₃ S3=>?_)
    ·refine ik S3 false (qu (mX S3.cx (aY _ S3.cx (fe.gl rfl) rfl) (aH (aa (.int c) S3.cx rfl) (qt (aY _ S3.cx (fe.gl rfl) rfl) al)))) (fun h=>nomatch h) (fun Z s₄ S4=>?_)
     rw [d8] at hb
     cases hgn:getN ((l.take i).foldl cB (t.foldl bS [])) k with
     | none=>rw [hgn] at hb;exact nB hb
     | some v =>
      refine sh (ω1:=[]) (ω2:=[]) (k:=k) (b:=.int v) (c:=.int c) S4 (az (.ref a) S4.cx rfl) (aa (.int k) S4.cx rfl) rfl (by simp) (by rw [d8,hgn];rfl) hlen (aa (.int c) S4.cx rfl) dL fun s'' S''=>ax (ax (ax ?_))
      rw [fg] at S''
      show Sx _ _ _ _ _ _ _ _ _
      have e:cB ((l.take i).foldl cB (t.foldl bS [])) (k,c)=putN ((l.take i).foldl cB (t.foldl bS [])) k (v + c):=by show (match getN _ k with | some v=>_ | none=>_)=_;rw [hgn]
      rw [bv hc,e]
      exact S''.cover ⟨rfl,trivial⟩
    ·rw [d8] at hb
     cases hgn:getN ((l.take i).foldl cB (t.foldl bS [])) k with
     | some v=>rw [hgn] at hb;exact nB hb.symm
     | none =>
      refine mV (ω1:=[]) (ω2:=[]) (k:=k) (d:=.int c) S3 (aa (.int c) S3.cx rfl) (az (.ref a) S3.cx rfl) (aa (.int k) S3.cx rfl) rfl (by simp) hlen fun s'' S''=>ax (ax ?_)
      rw [fg] at S''
      show Sx _ _ _ _ _ _ _ _ _
      have e:cB ((l.take i).foldl cB (t.foldl bS [])) (k,c)=putN ((l.take i).foldl cB (t.foldl bS [])) k c:=by show (match getN _ k with | some v=>_ | none=>_)=_;rw [hgn]
      rw [bv hc,e]
      exact S''.cover ⟨rfl,trivial⟩
   ·rw [show (dI l).length=l.length from List.length_map ..,List.take_length] at S'
    exact ca S' (az (.ref a) S'.cx rfl) fun s₄ v S4 e=>e ▸ S4.retD g (S.base.none_back ha) (.head _)) (il fun Z Z Z Z Z=>rfl)
structure Ent where
 cc:Int
 nc:Int
 tt:Int
 ct:Int
 cs:List (Int×Int)
instance:Nonempty Ent:=⟨⟨0,0,0,0,[]⟩⟩
noncomputable def Ent.d (e:Ent):D:=.tup [.int e.cc,.int e.nc,.int e.tt,.int e.ct,.dci (dI e.cs)]
noncomputable def lA (t e:Ent):Ent:=⟨e.cc + t.cc,e.nc + t.nc,e.tt + t.tt,e.ct + t.ct,pe t.cs e.cs⟩
theorem qX (t e:Ent) (ht:t.cs.length≤1000) (hl:e.cs.length≤1000):Fn prog w 2 21 [t.d,e.d] (lA t e).d:=by
 revert ht hl
 revert prog w t e;refine @(dr4 ?_);exists w4 _ _,prog,w,t,e
 intro ht hl
 exact c7 (i:=1) (names:=["target", "source"]) (by decide +kernel) (fun A s X env M s₁ ao g hsc hM hlo hce S=>by
  first | (revert ao g hsc hM hlo hce S;revert A s X env M s₁;refine @(dr6 ?_);exists w6 _ _,A,s,X,env,M,s₁;intro ao g hsc hM hlo hce S) | skip
  have fe:Fe env 1:=⟨hsc,hlo,hce⟩
  refine dw S [("cc",_),("nc",_),("tt",_),("ct",_),("callers",_)] (ds:=[.int e.cc,.int e.nc,.int e.tt,.int e.ct,.dci (dI e.cs)]) ao.h ?_ rfl (aa e.d S.cx rfl) (fun s₂ S2=>?_) rfl rfl
  ·intro x hx
   simp only [List.mem_cons,List.not_mem_nil,or_false] at hx
   (refine tv hx (fun Z1=>?_) (fun Z1=>?_) (fun Z1=>?_) (fun Z1=>?_) fun Z1=>?_ <;> subst Z1) <;> exact fe.own rfl
  refine dw S2 [("t_cc",_),("t_nc",_),("t_tt",_),("t_ct",_),("t_callers",_)] (ds:=[.int t.cc,.int t.nc,.int t.tt,.int t.ct,.dci (dI t.cs)]) ao.h ?_ rfl (aa t.d S2.cx rfl) (fun s₃ S3=>?_) rfl rfl
  ·intro x hx
   simp only [List.mem_cons,List.not_mem_nil,or_false] at hx
   (refine tv hx (fun Z1=>?_) (fun Z1=>?_) (fun Z1=>?_) (fun Z1=>?_) fun Z1=>?_ <;> subst Z1) <;> exact fe.own rfl
  have c:=S3.cx
  refine ca S3 (bp (ds:=[.int (e.cc + t.cc),.int (e.nc + t.nc),.int (e.tt + t.tt),.int (e.ct + t.ct),.dci (dI (pe t.cs e.cs))]) c
   (aH (aF c (aa (.int e.cc) c rfl) (aa (.int t.cc) c rfl) bR) (aH (aF c (aa (.int e.nc) c rfl) (aa (.int t.nc) c rfl) bR) (aH (aF c (aa (.int e.tt) c rfl) (aa (.int t.tt) c rfl) bR) (aH (aF c (aa (.int e.ct) c rfl) (aa (.int t.ct) c rfl) bR)
    (aH (b5 c ao (qW t.cs e.cs ht hl) (i:=2) (by decide) (bj _ c (fe.gl rfl) rfl) (aH (aa (.dci (dI t.cs)) c rfl) (aH (aa (.dci (dI e.cs)) c rfl) al))) al))))) (by simp)) fun s₄ v S4 h=>⟨S4.base,h.less eR⟩) (il fun Z Z Z Z Z=>rfl)
section
variable {R:GenEnd} {Y:Protocol} {n:Nat} {c:Code} {fs:List Frame} {K:Flow→Sem Fin} {H:Value→Sem Fin} {gd:Bool→Bool} {lv:List Value→List Value}
theorem d9 {st:Stmt} (h:wpAny (model prog w) (A.over c fs) (exec st env) (fun f s'=>Seg (model prog w) A R Y n s₀ c (K f) fs s') (fun Z Z=>False) s) :
  Seg (model prog w) A R Y n s₀ c ((exec st env).wrap K H gd lv) fs s :=
 seg_wrap (wpAny_mono h (fun Z Z x=>x) fun Z Z x=>x.elim)
theorem cV {t:Expr} {b o:List Stmt} {p:Pos} (h:wpAny (model prog w) (A.over c fs) (isTrue t env (eval t env)) (fun r s'=>Seg (model prog w) A R Y n s₀ c ((execs (if r=true then b else o) env).wrap K H gd lv) fs s') (fun Z Z=>False) s) :
  Seg (model prog w) A R Y n s₀ c ((exec (.If t b o p) env).wrap K H gd lv) fs s:=by
 rw [exec_If,Sem.bind_eq_wrap',Sem.wrap_wrap]
 refine seg_wrap (wpAny_standAt ?_)
 rw [Sem.bind_eq_wrap',Sem.wrap_wrap]
 refine seg_wrap (wpAny_mono h (fun r s' x=>?_) fun Z Z x=>x.elim)
 cases r <;> exact x
theorem kO {t iter:Expr} {body:List Stmt} {p:Pos}
  (h:wpAny (model prog w) (A.over c fs) (eval iter env) (fun x s₁=>wpAny (model prog w) (A.over c fs) (pyIter x) (fun it s₂=>∀ q,Seg (model prog w) A R Y n s₀ (.forLoop t it body [] env) ((model prog w).den (.forLoop t it body [] env))
   (.ret (fun r=>((match r with | .ok f=>(.pure f:Sem Flow) | .error e=>.raise e).onRaise fun (x:Value)=>do
    if (← field x 1) == Value.none then unsupported "frame.own-activation:exception-without-traceback"
    setFlight x env.frame).wrap K H gd lv) none (gd false) (lv []) c q []::fs) s₂) (fun Z Z=>False) s₁) (fun Z Z=>False) s)
  (hs:autoParam (∀ x,foldedSetIterable iter env x=pure x) e8._auto_1) :
  Seg (model prog w) A R Y n s₀ c ((exec (.For t iter body [] p) env).wrap K H gd lv) fs s:=by
 rw [exec_For,Sem.bind_eq_wrap',Sem.wrap_wrap]
 refine seg_wrap (wpAny_standAt ?_)
 rw [Sem.bind_eq_wrap',Sem.wrap_wrap]
 refine seg_wrap (wpAny_mono h (fun x s₁ hx=>?_) fun Z Z x=>x.elim)
 rw [hs x]
 show Seg _ A R Y n s₀ c (Sem.wrap K H gd lv (standAt iter.pos >>= fun Z=>holding [x] (pyIter x) >>= fun it=>runOwn (.forLoop t it body [] env) env)) fs s₁
 rw [Sem.bind_eq_wrap',Sem.wrap_wrap]
 refine seg_wrap (wpAny_standAt ?_)
 rw [Sem.bind_eq_wrap',Sem.wrap_wrap]
 refine seg_wrap (wpAny_holding (wpAny_mono hx (fun it s₂ hi=>?_) fun Z Z x=>x.elim))
 exact seg_call hi
theorem dg {t:Expr} {it:Value} {body:List Stmt}
  (h:wpAny (model prog w) (A.over (.forLoop t it body [] env) fs) (pyNext it) (fun r s₁=>match r with
   | none=>Seg (model prog w) A R Y n s₀ (.block [] env) ((model prog w).den (.block [] env)) fs s₁
   | some v=>wpAny (model prog w) (A.over (.forLoop t it body [] env) fs) (letOwnedTupleGo t it v) (fun Z s₂=>wpAny (model prog w) (A.over (.forLoop t it body [] env) fs) (assign t env v) (fun Z s₃ =>
     Seg (model prog w) A R Y n s₀ (.forLoop t it body [] env) ((execs body env).wrap (fun f=>match f with
      | .next | .cont=>.pure (.again (.forLoop t it body [] env))
      | .brk=>.pure (.done .next)
      | .ret v=>.pure (.done (.ret v))) (fun e=>(do noteFrame e env;theTreesLotGoes e:Sem Unit).wrap (fun Z=>.raise e) .raise id id) id id) fs s₃) (fun Z Z=>False) s₂) (fun Z Z=>False) s₁) (fun Z Z=>False) s) :
  Seg (model prog w) A R Y n s₀ (.forLoop t it body [] env) ((model prog w).den (.forLoop t it body [] env)) fs s:=by
 revert h
 revert prog w A env s s₀ R Y n fs t it body;refine @(dr13 ?_);exists w13 _ _,prog,w,A,env,s,s₀,R,Y,n,fs,t,it,body
 intro h
 show Seg _ A R Y n s₀ _ ((forTurn t it body [] env).onRaise (fun x=>do noteFrame x env;theTreesLotGoes x)) fs s
 unfold forTurn
 rw [Sem.onRaise_eq_wrap,Sem.bind_eq_wrap',Sem.wrap_wrap]
 refine seg_wrap (wpAny_standAt ?_)
 rw [Sem.bind_eq_wrap',Sem.wrap_wrap]
 refine seg_wrap (wpAny_onRaise (wpAny_mono h (fun r s₁ hr=>?_) fun Z Z x=>x.elim))
 cases r with
 | none=>exact seg_again rfl hr
 | some v =>
  show Seg _ A R Y n s₀ _ (Sem.wrap _ _ _ _ (letOwnedTupleGo t it v >>= fun Z=>assign t env v >>= fun Z=>execs body env >>= fun f=>_)) fs s₁
  rw [Sem.bind_eq_wrap',Sem.wrap_wrap]
  refine seg_wrap (wpAny_mono hr (fun Z s₂ h₂=>?_) fun Z Z x=>x.elim)
  rw [Sem.bind_eq_wrap',Sem.wrap_wrap]
  refine seg_wrap (wpAny_mono h₂ (fun Z s₃ h₃=>?_) fun Z Z x=>x.elim)
  rw [Sem.bind_eq_wrap',Sem.wrap_wrap]
  rw [Sem.wrap_congr (execs body env) _ _ (K':=fun f=>match f with
      | .next | .cont=>.pure (.again (.forLoop t it body [] env))
      | .brk=>.pure (.done .next)
      | .ret v=>.pure (.done (.ret v))) (H':=(fun e=>(do noteFrame e env;theTreesLotGoes e:Sem Unit).wrap (fun Z=>.raise e) .raise id id))
    (fun f=>by cases f <;> rfl)
    (fun e=>by first | exact Sem.bind_eq_wrap _ _ | (show (do noteFrame e env;theTreesLotGoes e:Sem Unit).bind (fun Z=>.raise e)=_;rw [Sem.bind_eq_wrap]))]
  exact h₃
theorem jK (h:Seg (model prog w) A R Y n s₀ (.block [] env) (.pure (.done .next)) fs s):Seg (model prog w) A R Y n s₀ (.block [] env) ((model prog w).den (.block [] env)) fs s:=h
end
theorem dh {scope:Scope} {args:List Value} {bs:List Bd} {names:List Str} {X0:List Addr} {qual:Str} {func:Option Addr} {code:Value} {env:Env} {s₁:Shared} (g:Gd X0 s) (hA:Args3 prog w s.heap X0 bs args)
  (hkind:((names.zip args).all fun y=>scope.names.lookup y.1 == some .local || scope.names.lookup y.1 == some .cell)=true)
  (hnd:names.Nodup) (hcn:((cellsFrom 0 scope.names []).map (·.1)).Nodup) (hk:scope.kind=.function)
  (he:env=newEnv scope s.heap.objs.size mainGlobals (cellsFrom (s.heap.objs.size + 1) scope.names []) qual func code none builtinsNs)
  (hs:InCallC s env.locals (bindL env.kindOf (names.zip args) fun Z=>none) env.cells (bindC env.kindOf (names.zip args) fun Z=>none) s₁) :
  env.scope=scope∧(∀ x∈env.locals::env.cells.map (·.2),s.heap.get? x=none)∧(∀ p∈env.cells,env.locals < p.2)∧(∀ x,(env.cells.lookup x).isSome=((cellsFrom 0 scope.names []).lookup x).isSome) ∧
   Sx prog w s env (env.locals::env.cells.map (·.2)) ((env.locals::env.cells.map (·.2))++X0) (names.zip bs) [] s₁∧s₁.gens=s.gens:=by
 revert g hA hkind hnd hcn hk he hs
 revert prog w s scope args bs names X0 qual func code env s₁;refine @(dr13 ?_);exists w13 _ _,prog,w,s,scope,args,bs,names,X0,qual,func,code,env,s₁
 intro g hA hkind hnd hcn hk he hs
 obtain ⟨top,hl,hh⟩:=g
 have hz:=top.size
 have k:=c6 hs.toInCall
 have kk:∀ b o,s.heap.get? b=some o→s₁.heap.get? b=some o:=fun b o e=>k.heap b o (fun h=>nomatch h) e
 have hsc:env.scope=scope:=by rw [he];rfl
 have hcl:env.cells=cellsFrom (s.heap.objs.size + 1) scope.names []:=by rw [he];rfl
 have hlo:env.locals=s.heap.objs.size:=by rw [he];rfl
 have hge:∀ p∈env.cells,s.heap.objs.size + 1≤p.2:=by rw [hcl];exact cP (Nat.le_refl _) fun p hp=>nomatch hp
 have hnm:env.cells.map (·.1)=(cellsFrom 0 scope.names []).map (·.1):=by rw [hcl];exact cy _ _ _ _ _ rfl
 have hnew:∀ x∈env.locals::env.cells.map (·.2),s.heap.get? x=none:=fun x hx=>by
  refine mC hx (fun Z1=>?_) fun hx=>?_;subst Z1
  ·rw [hlo];exact af _
  ·refine mM hx fun p hp Z1=>?_;subst Z1
   exact aU (Nat.le_of_succ_le (hge p hp))
 have hcell:∀ p∈env.cells,∃ v,s₁.heap.IsCell p.2 v:=fun p hp=>⟨_,hs.cell p.1 p.2 (cF (by rw [hnm];exact hcn) hp)⟩
 have hlow:∀ x∈env.locals::env.cells.map (·.2),178≤x:=fun x hx=>by
  refine mC hx (fun Z1=>?_) fun hx=>?_;subst Z1
  ·rw [hlo];exact hz
  ·refine mM hx fun p hp Z1=>?_;subst Z1
   exact Nat.le_trans hz (Nat.le_of_succ_le (hge p hp))
 have hliv:Liv (env.locals::env.cells.map (·.2)) s₁.heap:=fun x hx=>by
  refine mC hx (fun Z1=>?_) fun hx=>?_;subst Z1
  ·exact bV hs.toInCall.ns
  ·refine mM hx fun p hp Z1=>?_;subst Z1
   refine ex11 (hcell p hp) fun v hv=>?_
   exact bI hv
 have hgn:s₁.gens=s.gens:=by
  refine ex21 hs.toInCall.same fun h₁ tk e=>?_
  rw [e]
 refine ⟨hsc,hnew,fun p hp=>by rw [hlo];exact hge p hp,fun x=>dX hnm x,⟨⟨⟨by rw [hsc];exact hk,by rw [he];rfl,by rw [he];rfl,.head _,fun p hp=>⟨mL (.tail _ (List.mem_map_of_mem hp)),?_⟩,hs.apart⟩,⟨_,hs.toInCall.ns⟩,hcell,fun x b e=>?_,top.mv fun b o Z Z e=>kk b o e,fun x hx=>?_,fun x hx=>?_,fun p hp=>nomatch hp⟩,
  k.any,fun x hx=>mL hx,.head _,fun p hp Z=>.tail _ (List.mem_map_of_mem hp),fun p hp=>nomatch hp⟩,hgn⟩
 ·rw [hlo];exact Nat.ne_of_gt (hge p hp)
 ·refine ex12 (fw hA x b e) fun v hv hb=>?_
  have hm:=kF hv
  refine ⟨v,?_,(hb.beyond (Y:=(env.locals::env.cells.map (·.2))++X0) fun y hy=>?_).keep k.any⟩
  ·have hkx:=List.all_eq_true.mp hkind _ hm
   have hko:env.kindOf x=scope.names.lookup x:=by unfold Env.kindOf;rw [hsc]
   refine bQ (Bool.or_eq_true_iff.mp hkx) (fun q=>?_) fun q=>?_
   ·have q':env.kindOf x=some .local:=by rw [hko];simpa using q
    exact .inl ⟨q',_,hs.toInCall.ns,fy (dW hnd) hm q'⟩
   ·have q':env.kindOf x=some .cell:=by rw [hko];simpa using q
    have hsome:(env.cells.lookup x).isSome=true:=by
     rw [hcl]
     refine bQ (kindsX hkind (s.heap.objs.size + 1) _ hm) (fun z=>?_) fun z=>?_
     ·rw [← hko,q'] at z;cases z
     ·exact z.2
    refine iS hsome fun c' hc'=>?_
    exact .inr ⟨.inl q',c',hc',fz (dW hnd) hm q' ▸ hs.cell x c' hc'⟩
  ·refine mA hy (fun hy=>?_) fun hy=>?_
   ·exact .inr (hnew y hy)
   ·exact .inl hy
 ·refine mA hx (fun hx=>?_) fun hx=>?_
  ·exact hliv x hx
  ·exact hl.keep k x hx
 ·refine mA hx (fun hx=>?_) fun hx=>?_
  ·exact hlow x hx
  ·exact hh x hx
noncomputable def mY (prog:Program) (w:World) (X:List Addr) (b:Bd):Prop:=∀ h h' v,BdOk prog w h X b v→BdOk prog w h' X b v
theorem mZ {v:Value}:mY prog w X (.v v):=fun Z Z Z h=>h
theorem di {i:Int}:mY prog w X (.d (.int i)):=fun h h' v x=>by (refine Rd.intE (show Rd prog w h X (.int i) v from x) fun t Z1=>?_;subst Z1);exact (Rd.int_:Rd prog w h' X (.int i) _)
theorem gP:mY prog w X (.d .none):=fun h h' v x=>by have e:=Rd.none_inv (show Rd prog w h X .none v from x);subst e;exact (Rd.none_:Rd prog w h' X .none _)
theorem fJ:∀ {l:List Int} {h h':Heap} {vs:List Value},RdL prog w h X (l.map .int) vs→RdL prog w h' X (l.map .int) vs
 | [],_,_,_,x=>x
 | i::l,h,h',_,x=>by
  rw [List.map_cons] at x ⊢
  refine RdL.consE x fun v r Z1 a b=>?_;clear x;subst Z1
  refine a.intE fun t Z1=>?_;subst Z1
  exact .cons Rd.int_ (fJ b)
theorem Sx.flat (S:Sx prog w s₀ env M X τ ω s) (hk:∀ a o,(a∈X∨a < 178)→s.heap.get? a=some o→s'.heap.get? a=some o) (hτ:∀ p∈τ,mY prog w X p.2) (hω:∀ p∈ω,∃ l:List Int,p.2=.lst (l.map .int)):Sx prog w s' env M X τ ω s':=by
 revert S hk hτ hω
 revert prog w env M X τ ω s s' s₀;refine @(dr10 ?_);exists w10 _ _,prog,w,env,M,X,τ,ω,s,s',s₀
 intro S hk hτ hω
 obtain ⟨⟨ok,⟨m,h2⟩,h3,h4,h5,h6,h7,h12⟩,h8,h9,h10,h11,h13⟩:=S
 have loc:∀ o,s.heap.get? env.locals=some o→s'.heap.get? env.locals=some o:=fun o=>hk _ o (.inl ok.loc)
 refine ⟨⟨ok,⟨m,aW h2 loc⟩,fun p hp=>?_,fun x b e=>?_,h5.mv fun a o hl Z e=>hk a o (.inr hl) e,fun a ha=>?_,h7,fun p hp=>?_⟩,Keep.refl _ _,h9,h10,h11,h13⟩
 ·refine ex11 (h3 p hp) fun v hv=>?_
  exact ⟨v,aA hv fun o=>hk _ o (.inl (ok.cel p hp).1)⟩
 ·refine ex12 (h4 x b e) fun v q1 q2=>?_
  refine ⟨v,?_,hτ _ (ak e) _ _ _ q2⟩
  rcases q1 with ⟨q,m',hm',hv'⟩ | ⟨q,c,hc,hv'⟩
  ·exact .inl ⟨q,m',aW hm' loc,hv'⟩
  ·exact .inr ⟨q,c,hc,aA hv' fun o=>hk _ o (.inl (ok.cel _ (ak hc)).1)⟩
 ·refine iS (h6 a ha) fun o ho=>?_
  rw [hk a o (.inl ha) ho];rfl
 ·refine ex11 (hω p hp) fun l hl=>?_
  obtain ⟨a,od⟩:=p
  subst hl
  refine ai (h12 _ hp) fun Z1 q=>?_;refine ex22 Z1 fun vs n hg hr=>?_;clear Z1
  exact ⟨⟨vs,n,hk _ _ (.inl q.1) hg,fJ hr⟩,q⟩
noncomputable def KP (B:Nat) (G:Addr) (a:Addr):Prop:=a < B∨a=G
structure KG (B:Nat) (G:Addr) (s s':Shared):Prop where
 heap:∀ a o,KP B G a→s.heap.get? a=some o→s'.heap.get? a=some o
 gens:∀ (i:Nat) (x:GenState),s.gens[i]?=some x→s'.gens[i]?=some x
 bare:AllBare s.gens→AllBare s'.gens
 os:s'.os=s.os
theorem KG.refl (B:Nat) (G:Addr) (s:Shared):KG B G s s:=⟨fun Z Z Z e=>e,fun Z Z e=>e,id,rfl⟩
theorem KG.trans {B:Nat} {G:Addr} {s s' s'':Shared} (a:KG B G s s') (b:KG B G s' s''):KG B G s s'':=⟨fun x o hx e=>b.heap x o hx (a.heap x o hx e),fun i x e=>b.gens i x (a.gens i x e),fun e=>b.bare (a.bare e),b.os.trans a.os⟩
theorem Keep.kg {B:Nat} {G:Addr} {Y:List Addr} {s s':Shared} (k:Keep Y s s') (h:∀ a∈Y,¬ KP B G a):KG B G s s':=⟨fun a o ha e=>k.heap a o (fun hm=>h a hm ha) e,k.gens,k.bare,k.os⟩
noncomputable def KW (W:List Addr) (s s':Shared):Prop:=(∀ a o,a∉W→s.heap.get? a=some o→s'.heap.get? a=some o)∧∀ a,(s.heap.get? a).isSome=true→(s'.heap.get? a).isSome=true
noncomputable def YG (B:Nat) (G:Addr) (W:List Addr) (ys:List Int) (fin:Bool):Protocol:=fun m s₀ v s' qk =>
 (∃ y t,v=.int y t∧ys[ys.length - 1 - m]?=some y)∧KG B G s₀ s'∧((m=0→fin=true)→∀ s'',KW W s' s''→qk (.send .none) s'')
noncomputable def RG (B:Nat) (G:Addr) (fin:Bool):GenEnd:=fun n s₀ r s₁=>r=.ok (.ret .none)∧(n=0∧fin=true∧KG B G s₀ s₁)
inductive Strm:List Int→Option Int→List Int→Bool→Prop
 | nil {last:Option Int}:Strm [] last [] true
 | max {r:List Int} {last:Option Int}:Strm (127::r) last [] true
 | rep {r:List Int} {l:Int} (k:Nat):Strm (0::r) (some l) (List.replicate k l) false
 | cons {x:Int} {r:List Int} {last:Option Int} {ys:List Int} {fin:Bool}:x≠127→x≠0→Strm r (some x) ys fin→Strm (x::r) last (x::ys) fin
 | stop {r:List Int} {last:Option Int}:Strm r last [] false
noncomputable def gQ:Option Int→Bd
 | none=>.d .none
 | some l=>.d (.int l)
theorem fK {prog:Program} {w:World} {X:List Addr}:∀ {l:Option Int},mY prog w X (gQ l)
 | none=>gP
 | some _=>di
noncomputable def sk:Stmt:=(fnBody 6).getD 1 (.Pass ⟨0,0,0,0⟩)
noncomputable def fL:List Stmt:=match sk with | .For _ _ b _ _=>b | _=>[]
noncomputable def lB:Expr:=match sk with | .For t _ _ _ _=>t | t=>.Constant .none 0 ⟨0,0,0,0⟩
section
variable {fs:List Frame} {B:Nat} {G:Addr} {W:List Addr} {ys:List Int} {fin:Bool}
theorem ir {X:List Addr} {τ:List (Str×Bd)} {ω:List (Addr×OD)} {s:Shared} {x:Str} {p:Pos} {i:Int} {t:Tok} (c:Cx prog w env X τ ω s) (hx:env.kindOf x=some .globalImplicit) (hu:globTab.lookup x=some (.int i t)) (hd:autoParam ((x == ("__debug__":Str))=false) fb._auto_1) :
  EvD prog w A env X s (.Name x p) (.int i):=(bj (.int i t) c hx hu hd).imp fun s v e=>by subst e;exact Rd.int_
theorem gu {X:List Addr} {i:Int}:cv prog w A X (compareOp .Is) (.int i) .none (.bool false):=fun s u v Z h1 h2=>by
 refine h1.intE fun t Z1=>?_;subst Z1;rw [h2.none_inv]
 exact PyProof.Rows.is_int_none ⟨Keep.refl _ _,Rd.bool_⟩
theorem gR {l:Int} {body:List Stmt} {test:Expr} (fe:Fe env 6) (hB:¬ KP B G env.locals) (hLW:env.locals∉W) (hW:∀ a∈W,178≤a) (hc:env.cells=[])
  (hsp:splitAtGen fs=none) (hgu:fs.any Frame.guarded=false) (hco:env.scope.isCoroutine=false) (hi:interactive env=false)
  (ht:∀ A s,EvT prog w A env s test true) {q yp:Pos} {np:Pos} (hb:body=[.Expr (.Yield (some (.Name "last_interval" np)) yp) q]) :
  ∀ (k:Nat) (pre:List Int) (s₀ s:Shared),ys=pre++List.replicate k l→KG B G s₀ s→Sx prog w s env [env.locals] [env.locals] [("last_interval",.d (.int l))] [] s→(k=0→fin=true)→fin=false →
   Seg (model prog w) A (RG B G fin) (YG B G W ys fin) k s₀ (.whileLoop test body [] env) ((model prog w).den (.whileLoop test body [] env)) fs s
 | 0,_,_,_,_,_,_,h,h'=>by rw [h rfl] at h';exact nB h'.symm
 | k + 1,pre,s₀,s,hys,kg,S,_,hf=>by
  refine seg_whileLoop (wpAny_mono ((ht _ s) s (Keep.refl _ _)) (fun b s₁ hb1=>?_) fun Z Z z=>z.elim)
  rw [hb1.2,if_pos rfl]
  have S1:=(S.keep hb1.1).rebase
  have kg1:KG B G s₀ s₁:=kg.trans (hb1.1.kg fun a h=>nomatch h)
  subst hb
  refine seg_execs_cons (seg_Expr_Yield hsp rfl hgu (wpAny_mono ((aa (.int l) S1.cx rfl) s₁ (Keep.refl _ _)) (fun v s₂ hv qk hkap=>?_) fun Z Z z=>z.elim) hco hi)
  refine Rd.intE hv.2 fun t Z1=>?_;subst Z1
  have S2:=(S1.keep hv.1).rebase
  have kg2:KG B G s₀ s₂:=kg1.trans (hv.1.kg fun a h=>nomatch h)
  refine ⟨⟨l,t,rfl,?_⟩,kg2,fun hk s₃ hw=>hkap .none s₃ (seg_execs_nil (seg_again rfl (gR fe hB hLW hW hc hsp hgu hco hi ht rfl k (pre++[l]) s₃ s₃ ?_ (KG.refl _ _ _) (S2.flat (fun a o ha e=>hw.1 a o (fun hm=>?_) e) ?_ (fun p hp=>nomatch hp)) hk hf)))⟩
  ·rw [hys,List.replicate_succ]
   have:(pre++l::List.replicate k l).length - 1 - k=pre.length:=by simp
   rw [this,List.getElem?_append_right (Nat.le_refl _),Nat.sub_self];rfl
  ·rw [hys,List.replicate_succ];simp
  ·refine bQ ha (fun ha=>?_) fun ha=>?_
   ·exact hLW (ay ha ▸ hm)
   ·exact absurd (hW a hm) (Nat.not_le.mpr ha)
  ·intro p hp
   rw [mS hp];exact di
theorem m0 {c':Code} {k:Result→Sem Fin} {g:Bool} {l:List Value} {q:Pos} {kp:List Value} {h:Option Value} (e:splitAtGen fs=none):splitAtGen (.ret k h g l c' q kp::fs)=none:=by show (splitAtGen fs).map _=none;rw [e];rfl
theorem na {c':Code} {k:Result→Sem Fin} {l:List Value} {q:Pos} {kp:List Value} {h:Option Value} (e:fs.any Frame.guarded=false):List.any (.ret k h false l c' q kp::fs) Frame.guarded=false:=by rw [List.any_cons,e];rfl
theorem qY {c c':Code} {k:Result→Sem Fin} {g:Bool} {l:List Value} {q:Pos} {kp:List Value} (h:(A.over c' fs).handled=none):(A.over c (.ret k none g l c' q kp::fs)).handled=none:=h
theorem nb {row:List Int} {vs:List Value} {a I:Addr} (fe:Fe env 6) (hc:env.cells=[]) (hB:¬ KP B G env.locals) (hBI:¬ KP B G I) (hLW:env.locals∉W) (hIW:I∉W) (haW:a∉W) (hW:∀ a∈W,178≤a) (hIL:I≠env.locals) (haL:a≠env.locals) (haI:a≠I) (hI178:178≤I)
  (hsp:splitAtGen fs=none) (hgu:fs.any Frame.guarded=false) (hhd:∀ c,(A.over c fs).handled=none) (hco:env.scope.isCoroutine=false) (hi:interactive env=false)
  (hrow:∀ h,RdL prog w h [env.locals] (row.map .int) vs)
  (hK1:∀ c s₀ s,fin=true→KG B G s₀ s→Seg (model prog w) A (RG B G fin) (YG B G W ys fin) 0 s₀ c (.pure (.done .next)) fs s)
  (hK2:∀ c s₀ s,fin=true→KG B G s₀ s→Seg (model prog w) A (RG B G fin) (YG B G W ys fin) 0 s₀ c (.pure (.done (.ret .none))) fs s) :
  ∀ {rest:List Int} {last:Option Int} {ys':List Int} (hS:Strm rest last ys' fin) (i:Nat) (pre:List Int) (s₀ s:Shared),row.drop i=rest→ys=pre++ys'→KG B G s₀ s →
   Sx prog w s env [env.locals] [env.locals] [("last_interval",gQ last)] [] s→s.heap.IsListIter I a i→s.heap.IsList a vs.toArray→(ys'.length=0→fin=true) →
   Seg (model prog w) A (RG B G fin) (YG B G W ys fin) ys'.length s₀ (.forLoop lB (.ref I) fL [] env) ((model prog w).den (.forLoop lB (.ref I) fL [] env)) fs s:=by
 have hvl:Heap→vs.length=row.length:=fun h=>by have:=(hrow h).length;rw [List.length_map] at this;exact this
 have item:∀ (x:Int) (r:List Int) (last:Option Int) (n i:Nat) (s₀ s:Shared),row.drop i=x::r→KG B G s₀ s→Sx prog w s env [env.locals] [env.locals] [("last_interval",gQ last)] [] s→s.heap.IsListIter I a i→s.heap.IsList a vs.toArray →
   (∀ s',KG B G s₀ s'→Sx prog w s' env [env.locals] [env.locals] [("interval",.d (.int x)),("last_interval",gQ last)] [] s'→s'.heap.IsListIter I a (i + 1)→s'.heap.IsList a vs.toArray →
    Seg (model prog w) A (RG B G fin) (YG B G W ys fin) n s₀ (.forLoop lB (.ref I) fL [] env) ((execs fL env).wrap (fun f=>match f with
      | .next | .cont=>.pure (.again (.forLoop lB (.ref I) fL [] env))
      | .brk=>.pure (.done .next)
      | .ret v=>.pure (.done (.ret v))) (fun e=>(do noteFrame e env;theTreesLotGoes e:Sem Unit).wrap (fun Z=>.raise e) .raise id id) id id) fs s') →
   Seg (model prog w) A (RG B G fin) (YG B G W ys fin) n s₀ (.forLoop lB (.ref I) fL [] env) ((model prog w).den (.forLoop lB (.ref I) fL [] env)) fs s:=by
  intro x r last n i s₀ s hrest kg S hit hl h
  have hx:row[i]?=some x:=by have:=congrArg (·[0]?) hrest;simpa using this
  refine ex12 ((hrow s.heap).get (i:=i) (d:=.int x) (by rw [List.getElem?_map,hx];rfl)) fun v hv hvr=>?_
  refine hvr.intE fun t Z1=>?_;subst Z1
  refine dg (wpAny_pyNext_list_item hit hl (x:=.int x t) (by simpa using hv) fun h' hit' hs=>?_)
  have S1:Sx prog w { s with heap:=h' } env [env.locals] [env.locals] [("last_interval",gQ last)] [] { s with heap:=h' }:=S.flat (fun b o hb e=>(hs.2 b (fun z=>by
   subst z
   refine bQ hb (fun hb=>?_) fun hb=>?_
   ·exact hIL (ay hb)
   ·exact absurd hI178 (Nat.not_le.mpr hb))).trans e) (fun p hp=>by rw [mS hp];exact fK) (fun p hp=>nomatch hp)
  have kg1:KG B G s₀ { s with heap:=h' }:=kg.trans ⟨fun b o hb e=>(hs.2 b fun z=>hBI (z ▸ hb)).trans e,fun Z Z e=>e,id,rfl⟩
  refine wpAny_pure ?_
  refine wpAny_assign_Name (S1.store (fe.own rfl) (b:=.d (.int x)) (Rd.int_:Rd prog w h' [env.locals] (.int x) _) fun s₂ k₂ S2=>?_)
  refine h s₂ (kg1.trans (k₂.kg fun b hb=>by rw [ay hb];exact hB)) S2.rebase ?_ ?_
  ·refine ex12 hit' fun o ho q=>?_;clear hit'
   exact ⟨o,k₂.heap I o (fun hm=>hIL (ay hm)) ho,q⟩
  ·refine ex12 hl fun o ho q=>?_;clear hl
   exact ⟨o,k₂.heap a o (fun hm=>haL (ay hm)) ((hs.2 a haI).trans ho),q⟩
 intro rest last ys' hS
 induction hS with
 | nil =>
  intro i pre s₀ s hrest hys kg S hit hl hn
  refine dg (wpAny_pyNext_list_end (hhd _) hit hl ?_ fun h' hx=>?_)
  ·have:row.length≤i:=by have:=congrArg List.length hrest;simp at this;exact Nat.le_of_sub_eq_zero this
   rw [List.getElem?_toArray,List.getElem?_eq_none (by have:=hvl s.heap;lia)]
  ·exact jK (hK1 _ _ _ (hn rfl) (kg.trans ⟨fun b o hb e=>hx b o (fun z=>hBI (z ▸ hb)) e,fun Z Z e=>e,id,rfl⟩))
 | stop=>intro i pre s₀ s Z Z Z Z Z Z hn;exact absurd (hn rfl) (by decide)
 | @max r last =>
  intro i pre s₀ s hrest hys kg S hit hl hn
  refine item 127 r last 0 i s₀ s hrest kg S hit hl fun s₁ kg1 S1 hit1 hlA=>?_
  refine seg_execs_cons (cV ((aZ S1.cx (aa (.int 127) S1.cx rfl) (ir S1.cx (fe.gl rfl) rfl) cZ).go fun s₂ k₂=>?_))
  refine seg_execs_cons (d9 ?_)
  refine wpAny_Return_none ?_
  exact hK2 _ _ _ (hn rfl) (kg1.trans (k₂.kg fun a h=>nomatch h))
 | @rep r l k =>
  intro i pre s₀ s hrest hys kg S hit hl hn
  refine item 0 r (some l) _ i s₀ s hrest kg S hit hl fun s₁ kg1 S1 hit1 hlA=>?_
  refine seg_execs_cons (cV ((aZ S1.cx (aa (.int 0) S1.cx rfl) (ir S1.cx (fe.gl rfl) rfl) cZ).go fun s₂ k₂=>?_))
  refine seg_execs_nil ?_
  have S2:=(S1.keep k₂).rebase
  refine seg_execs_cons (cV ((aZ S2.cx (aa (.int 0) S2.cx rfl) ag cZ).go fun s₃ k₃=>?_))
  have S3:=(S2.keep k₃).rebase
  refine seg_execs_cons (cV ((aZ S3.cx (aa (.int l) S3.cx rfl) fu gu).go fun s₄ k₄=>?_))
  have S4:=(S3.keep k₄).rebase
  refine seg_execs_nil ?_
  refine seg_execs_cons (seg_While fun q=>?_)
  have kg4:KG B G s₀ s₄:=((kg1.trans (k₂.kg fun a h=>nomatch h)).trans (k₃.kg fun a h=>nomatch h)).trans (k₄.kg fun a h=>nomatch h)
  rw [List.length_replicate]
  refine gR (l:=l) fe hB hLW hW hc (m0 hsp) (na hgu) hco hi (fun A s=>qu (X:=[]) ft) rfl k pre s₀ s₄ hys kg4 (S4.cover ⟨rfl,trivial⟩) ?_ rfl
  rw [List.length_replicate] at hn;exact hn
 | @cons x r last ys'' fin h127 h0 hS ih =>
  intro i pre s₀ s hrest hys kg S hit hl hn
  have hrest':row.drop (i + 1)=r:=by
   have:=congrArg List.tail hrest
   simpa [List.tail_drop] using this
  refine item x r last _ i s₀ s hrest kg S hit hl fun s₁ kg1 S1 hit1 hlA=>?_
  refine seg_execs_cons (cV ((aZ S1.cx (aa (.int x) S1.cx rfl) (ir S1.cx (fe.gl rfl) rfl) cZ).go fun s₂ k₂=>?_))
  rw [if_neg (by simpa using h127)]
  refine seg_execs_nil ?_
  have S2:=(S1.keep k₂).rebase
  refine seg_execs_cons (cV ((aZ S2.cx (aa (.int x) S2.cx rfl) ag cZ).go fun s₃ k₃=>?_))
  rw [if_neg (by simpa using h0)]
  refine seg_execs_nil ?_
  have S3:=(S2.keep k₃).rebase
  have k13:Keep [] s₁ s₃:=k₂.trans k₃
  refine seg_execs_cons (seg_Expr_Yield hsp rfl hgu (wpAny_mono ((aa (.int x) S3.cx rfl) s₃ (Keep.refl _ _)) (fun v s₄ hv qk hkap=>?_) fun Z Z z=>z.elim) hco hi)
  refine Rd.intE hv.2 fun t Z1=>?_;subst Z1
  have S4:=(S3.keep hv.1).rebase
  have k14:=k13.trans hv.1
  have kg4:KG B G s₀ s₄:=kg1.trans (k14.kg fun a h=>nomatch h)
  refine ⟨⟨x,t,rfl,?_⟩,kg4,fun hk s₅ hw=>hkap .none s₅ ?_⟩
  ·rw [hys]
   have:(pre++x::ys'').length - 1 - ys''.length=pre.length:=by simp
   rw [this,List.getElem?_append_right (Nat.le_refl _),Nat.sub_self];rfl
  have S5:Sx prog w s₅ env [env.locals] [env.locals] [("interval",.d (.int x)),("last_interval",gQ last)] [] s₅:=S4.flat (fun b o hb e=>hw.1 b o (fun hm=>by
   refine bQ hb (fun hb=>?_) fun hb=>?_
   ·exact hLW (ay hb ▸ hm)
   ·exact absurd (hW b hm) (Nat.not_le.mpr hb)) e) (fun p hp=>by
    refine mC hp (fun Z1=>?_) fun hp=>?_;subst Z1
    ·exact di
    ·rw [mS hp];exact fK) (fun p hp=>nomatch hp)
  have hit5:s₅.heap.IsListIter I a (i + 1):=by
   refine ex12 hit1 fun o ho q=>?_;clear hit1
   exact ⟨o,hw.1 I o hIW (k14.heap I o (fun h=>nomatch h) ho),q⟩
  have hl5:s₅.heap.IsList a vs.toArray:=by
   refine ex12 hlA fun o ho q=>?_;clear hlA
   exact ⟨o,hw.1 a o haW (k14.heap a o (fun h=>nomatch h) ho),q⟩
  refine seg_execs_cons (d9 ?_)
  refine wpAny_Assign_Name ((aa (.int x) S5.cx rfl).go fun v s₆ k₆ h₆=>(S5.keep k₆).store (fe.own rfl) (b:=.d (.int x)) h₆ fun s₇ k₇ S7=>?_) rfl
  refine seg_execs_nil (seg_again rfl ?_)
  refine ih hK1 hK2 item (i + 1) (pre++[x]) s₅ s₇ hrest' (by rw [hys];simp) ((k₆.kg fun a h=>nomatch h).trans (k₇.kg fun b hb=>by rw [ay hb];exact hB)) (S7.rebase.cover ⟨rfl,trivial⟩) ?_ ?_ hk
  ·refine ex12 hit5 fun o ho q=>?_;clear hit5
   exact ⟨o,k₇.heap I o (fun hm=>hIL (ay hm)) (k₆.heap I o (fun h=>nomatch h) ho),q⟩
  ·refine ex12 hl5 fun o ho q=>?_;clear hl5
   exact ⟨o,k₇.heap a o (fun hm=>haL (ay hm)) (k₆.heap a o (fun h=>nomatch h) ho),q⟩
theorem Cx.at {X:List Addr} {τ:List (Str×Bd)} {ω:List (Addr×OD)} {s s':Shared} (c:Cx prog w env X τ ω s) (e:s'.heap=s.heap):Cx prog w env X τ ω s':=by
 obtain ⟨h1,h2,h3,h4,h5,h6,h7,h8⟩:=c
 exact ⟨h1,e ▸ h2,e ▸ h3,e ▸ h4,e ▸ h5,e ▸ h6,h7,e ▸ h8⟩
theorem Sx.kw {X:List Addr} {τ:List (Str×Bd)} {s₀ s s':Shared} {M:List Addr} (S:Sx prog w s₀ env M X τ [] s) (hw:KW W s s') (hWX:∀ a∈W,a∈X) (hWM:∀ a∈W,a∉M) (hc:env.cells=[]):Sx prog w s' env M X τ [] s':=by
 have k:Keep W s { s with heap:=s'.heap }:=⟨hw.1,hw.2,fun Z Z e=>e,id,rfl⟩
 have hl:env.locals∉W:=fun hm=>hWM _ hm S.mloc
 have loc:∀ o,s.heap.get? env.locals=some o→s'.heap.get? env.locals=some o:=fun o=>hw.1 _ o hl
 refine ⟨(S.cx.turn (s':={ s with heap:=s'.heap }) (τ':=τ) (ω':=[]) k hWX ?_ ?_ ?_ fun p hp=>nomatch hp).at rfl,Keep.refl _ _,S.sub,S.mloc,S.mcel,fun p hp=>nomatch hp⟩
 ·refine ex11 S.cx.ns fun m hm=>?_
  exact ⟨m,aW hm loc⟩
 ·intro p hp;rw [hc] at hp;exact nM hp
 ·intro x b e
  refine ex12 (S.cx.vars x b e) fun v h1 h2=>?_
  refine ⟨v,?_,h2⟩
  rcases h1 with ⟨q,m',hm',hv'⟩ | ⟨q,c,hcc,hv'⟩
  ·exact .inl ⟨q,m',aW hm' loc,hv'⟩
  ·rw [hc] at hcc;exact nO hcc
theorem nf {row:List Int} {X0:List Addr} (fe:Fe env 6) (hc:env.cells=[]) (hh:A.handled=none) (hWX:∀ a∈W,a∈X0) (hLW:env.locals∉W) {s₀ s:Shared} (hB:¬ KP B G env.locals) (hBL:B≤env.locals) (hG:(s.heap.get? G).isSome=true) (hco:env.scope.isCoroutine=false) (hi:interactive env=false)
  (S:Sx prog w s env [env.locals] ([env.locals]++X0) [("grouping",.d (am row))] [] s) (kg:KG B G s₀ s) (hS:Strm row none ys fin) (hn:ys.length=0→fin=true) (hrl:row.length≤1000) :
  Seg (model prog w) A (RG B G fin) (YG B G W ys fin) ys.length s₀ (.func (fnBody 6) env) ((model prog w).den (.func (fnBody 6) env)) [] s:=by
 revert fe hc hh hWX hLW hB hBL hG hco hi S kg hS hn hrl
 revert prog w A env B G W ys fin row X0 s₀ s;refine @(dr13 ?_);exists w13 _ _,prog,w,A,env,B,G,W,ys,fin,row,X0,s₀,s
 intro fe hc hh hWX hLW hB hBL hG hco hi S kg hS hn hrl
 refine seg_func (seg_execs_cons (d9 ?_))
 have hhd:∀ c,(A.over c []).handled=none:=fun c=>hh
 refine wpAny_Assign_Name ((fu (X:=[env.locals]++X0)).go fun v s₁ k₁ h₁=>(S.keep k₁).store (fe.own rfl) (b:=.d .none) h₁ fun s₂ k₂ S2=>?_) rfl
 refine seg_execs_cons (kO ?_)
 have kg2:KG B G s₀ s₂:=(kg.trans (k₁.kg fun a h=>nomatch h)).trans (k₂.kg fun b hb=>by rw [ay hb];exact hB)
 refine (aa (am row) S2.cx rfl).go fun v s₃ k₃ h₃=>?_
 have S3:=(S2.keep k₃).rebase
 refine Rd.lstE h₃ fun a vs n Z1 haX hg hr=>?_;subst Z1
 refine wpAny_pyIter_list (ah hg) fun q=>?_
 let I:Addr:=s₃.heap.objs.size
 let s₄:Shared:={ s₃ with heap:=s₃.heap.push { cls:=.type "list_iterator",data:=.fields #[.ref a,.int 0 0] } }
 have hLI:env.locals < I:=by refine ex11 S3.cx.ns fun m hm=>?_;exact hm.lt
 have hIs:¬ KP B G I:=fun h=>by
  refine bQ h (fun h=>?_) fun h=>?_
  ·exact absurd (Nat.lt_trans h (Nat.lt_of_le_of_lt hBL hLI)) (Nat.lt_irrefl _)
  ·have:=k₃.live G (k₂.live G (k₁.live G hG))
   rw [← h,af] at this;exact nB this
 have k₄:Keep [] s₃ s₄:=Keep.push (tk:=s₃.toks)
 have hIX:I∉[env.locals]++X0:=S3.cx.fresh
 have inX:∀ b,b∈X0→b∈[env.locals]++X0:=fun b h=>mR h
 have haW:a∉W:=fun hm=>haX (inX a (hWX a hm))
 have haL:a≠env.locals:=fun z=>haX (by rw [z];exact mL (.head _))
 have haI:a≠I:=Nat.ne_of_lt (Heap.lt_size hg)
 have S4:Sx prog w s₄ env [env.locals] [env.locals] [("last_interval",.d .none)] [] s₄:=(((S3.keep k₄).rebase.cover (τ':=[("last_interval",.d .none)]) ⟨rfl,trivial⟩).shrink (X:=[env.locals]) (fun b hb=>mL hb) (fun b hb=>hb) (by intro p hp;rw [hc] at hp;exact nM hp)).rebase
 have kg4:KG B G s₀ s₄:=(kg2.trans (k₃.kg fun a h=>nomatch h)).trans (k₄.kg fun a h=>nomatch h)
 refine nb (fs:=[_]) (row:=row) (vs:=vs) (a:=a) (I:=I) fe hc hB hIs hLW (fun hm=>hIX (inX I (hWX I hm))) haW (fun b hb=>S3.cx.xhi b (inX b (hWX b hb))) (Nat.ne_of_gt hLI) haL haI S3.cx.top.size (m0 rfl) (na rfl) (fun c=>qY (c':=.func (fnBody 6) env) (hhd _)) hco hi (fun h=>fJ (hr.less fun b hb=>mL hb))
  (fun c s₀ s hf kg'=>?_) (fun c s₀ s hf kg'=>?_) hS 0 [] s₀ s₄ rfl rfl kg4 S4 ⟨_,Heap.get?_push_size _ rfl,rfl,rfl⟩ ((ah hg).push _) hn
 ·exact seg_leaf (.ok .next) (seg_end (.ok (.ret .none)) ⟨rfl,rfl,hf,kg'⟩)
 ·exact seg_leaf (.ok (.ret .none)) (seg_end (.ok (.ret .none)) ⟨rfl,rfl,hf,kg'⟩)
end
structure KGg (B:Nat) (G:Addr) (g:Nat) (s s':Shared):Prop where
 heap:∀ a o,KP B G a→s.heap.get? a=some o→s'.heap.get? a=some o
 gens:∀ (i:Nat) (x:GenState),i≠g→s.gens[i]?=some x→s'.gens[i]?=some x
 bare:AllBare s.gens→AllBare s'.gens
 os:s'.os=s.os
section
variable {B:Nat} {G:Addr} {W:List Addr} {ys:List Int} {fin:Bool}
noncomputable def GenAt (prog:Program) (w:World) (A:Around) (B:Nat) (G:Addr) (W:List Addr) (ys:List Int) (fin:Bool) (g n:Nat) (s:Shared):Prop :=
 ∃ gs,s.gens[g]?=some gs∧((n=0→fin=true)→∀ s'',KW W s s''→gs.Goes (model prog w) A.in1 (RG B G fin) (YG B G W ys fin) n (.send .none) s'')
theorem bw {s:Shared} {g i:Nat} {x:GenState} (h:i≠g):(s.setGen g x).gens[i]?=s.gens[i]?:=(GenOnly.setGen s g x).2 i h
theorem kP {β γ:Type} {k:β→Sem γ} {E:Value→Shared→Prop} {Q:γ→Shared→Prop} (hh:A.handled=none)
  (h:∀ h' e,(∀ b o,s.heap.get? b=some o→h'.get? b=some o)→({ s with heap:=h' }:Shared).TypeIs (.ref e) "StopIteration"→E (.ref e) { s with heap:=h' }) :
  wpAny (model prog w) A (newExc (.type "StopIteration") [] >>= fun x=>(raiseNew x:Sem β) >>= k) Q E s:=by
 refine wpAny_bind ?_
 unfold newExc newTuple
 refine wpAny_bind (wpAny_newObj_type (wpAny_bind (m:=firstArgMember _ _) (wpAny_of_eq (a:=Value.none) (by first | rfl | (simp only [firstArgMember];rfl)) (wpAny_newObj_type ?_ (by size_fits)))) (by size_fits))
 exact wpAny_bind (wpAny_raiseNew_none hh (h _ _ (fun b o hb=>Heap.get?_push_of_some _ (Heap.get?_push_of_some _ hb)) ⟨_,Heap.get?_push_size _ rfl,rfl⟩))
theorem kQ {a:Addr} {g n:Nat} {gs:GenState} {R:GenEnd} {Y:Protocol} {Q:Option Value→Shared→Prop} {E:Value→Shared→Prop} (hh:A.handled=none) (hl:s.heap.NoLimit) (hroom:A.depth < recursionLimit)
  (hg:s.heap.IsGen a g) (hgs:s.gens[g]?=some gs) (hgo:gs.Goes (model prog w) A.in1 R Y n (.send .none) (s.setGen g .running))
  (hR:∀ r s₁,R n (s.setGen g .running) r s₁→(r=.ok (.ret .none)∧∀ h',(∀ b o,s₁.heap.get? b=some o→h'.get? b=some o)→Q none { s₁.setGen g .finished with heap:=h' }) ∨
   (∃ e T,r=.error (.ref e)∧s₁.TypeIs (.ref e) T∧isSubtype (.type T) (.type "StopIteration")=pure false∧s₁.heap.IsGen a g∧E (.ref e) (s₁.setGen g .finished)))
  (hY:∀ v s₁ gs',gs'.bare=true→Y (n - 1) (s.setGen g .running) v s₁ (fun r' s''=>match n with
    | 0=>False
    | m + 1=>gs'.Goes (model prog w) A.in1 R Y m r' s'')→Q (some v) (s₁.setGen g gs')):wpAny (model prog w) A (pyNext (.ref a)) Q E s:=by
 revert hh hl hroom hg hgs hgo hR hY
 revert prog w A s a g n gs R Y Q E;refine @(dr12 ?_);exists w12 _ _,prog,w,A,s,a,g,n,gs,R,Y,Q,E
 intro hh hl hroom hg hgs hgo hR hY
 unfold pyNext
 refine wpAny_bind (wpAny_attempt (wpAny_callSpecial?_slot (name:=Str.ofString "__next__") hg.typeIs slot_gen_next (wpAny_call_entry slot_gen_next hg.typeIs entry_gen_next ?_ (args_gen_next _))))
 show wpAny _ A.in1 (Builtin.Generator.genWake (.ref a) (.send .none)) _ _ s
 unfold Builtin.Generator.genWake
 refine wpAny_bind (wpAny_holding (wpAny_genNumber hg (wpAny_bind (wpAny_genState hgs ?_))))
 have fresh_or:gs.status=.fresh∨gs.status=.suspended:=by
  cases gs with
  | running=>exact hgo.elim
  | finished=>exact hgo.elim
  | fresh c=>exact .inl rfl
  | suspended k l c p fs cl=>exact .inr rfl
 refine bQ fresh_or (fun e=>?_) fun e=>?_ <;>
  (rw [e]
   refine wpAny_bind (wpAny_roomToWake hl hroom ?_)
   show wpAny _ A.in1 (.resume g (.send .none) [] _) _ _ s
   refine wpAny_resumeQ hgs hgo (fun x s₁ hx=>?_) (fun v s₁ gs' hb hv=>wpAny_pure ⟨v,rfl,wpAny_pure (hY v s₁ gs' hb hv)⟩)
   rcases hR x s₁ hx with ⟨rfl,hq⟩ | ⟨e,T,rfl,hT,hsub,hgA,hE⟩
   ·show wpAny _ A.in1 (newExc (.type "StopIteration") [] >>= fun x=>(raiseNew x:Sem PUnit) >>= _) _ _ _
    refine kP (A:=A.in1) hh fun h' e hk hT=>?_
    exact wpAny_bind (wpAny_isInstance hT isSubtype_stop (wpAny_pure (hq h' hk)))
   ·show wpAny _ A.in1 (Builtin.Generator.genLeft (.ref a) (.ref e)) _ _ _
    refine ex34 hgA fun o nm qn ho hc hd hsl=>?_;clear hgA
    have hT':(s₁.setGen g .finished).TypeIs (.ref e) T:=hT
    unfold Builtin.Generator.genLeft Builtin.Generator.madeByALambda Builtin.Generator.genEscaped
    refine wpAny_bind (wpAny_bind (wpAny_load ho (wpAny_pure ?_)))
    rw [hd,hc]
    refine wpAny_bind (wpAny_isInstance hT' hsub ?_)
    simp only [Bool.and_false,Bool.false_eq_true,if_false]
    refine wpAny_bind (wpAny_isInstance hT' hsub ?_)
    exact wpAny_bind (wpAny_throw (wpAny_bind (wpAny_isInstance hT' hsub (wpAny_throw hE)))))
theorem ph {g n:Nat} {Q:Option Value→Shared→Prop} (hh:A.handled=none) (hl:s.heap.NoLimit) (hroom:A.depth < recursionLimit) (hg:s.heap.IsGen G g) (hG:GenAt prog w A B G W ys fin g n s) (hn:n=0→fin=true)
  (hY:∀ y t s' m,n=m + 1→ys[ys.length - 1 - m]?=some y→KGg B G g s s'→GenAt prog w A B G W ys fin g m s'→Q (some (.int y t)) s')
  (hP:∀ s',n=0→KGg B G g s s'→Q none s'):WP prog w A (pyNext (.ref G)) Q s:=by
 revert hh hl hroom hg hG hn hY hP
 revert prog w A s B G W ys fin g n Q;refine @(dr12 ?_);exists w12 _ _,prog,w,A,s,B,G,W,ys,fin,g,n,Q
 intro hh hl hroom hg hG hn hY hP
 refine ex12 hG fun gs hgs hgo=>?_;clear hG
 have kset:∀ {s:Shared} {x:GenState},x.bare=true→AllBare s.gens→AllBare (s.setGen g x).gens:=fun {s x} hb ha=>by
  intro y hy
  refine ex21 (Array.mem_iff_getElem.mp hy) fun i hi Z1=>?_;subst Z1
  by_cases e:i=g
  ·subst e
   have hlt:i < s.gens.size:=by have:=(GenOnly.setGen s i x).1;exact Nat.lt_of_lt_of_eq hi this
   have:=setGen_self (s:=s) (x:=x) (Array.getElem?_eq_getElem hlt)
   rw [Array.getElem?_eq_getElem hi] at this
   rw [Option.some.inj this];exact hb
  ·have h1:=bw (s:=s) (x:=x) e
   rw [Array.getElem?_eq_getElem hi] at h1
   refine ex11 (Array.getElem?_eq_some_iff.mp h1.symm) fun hi' e'=>?_
   exact e' ▸ ha _ (Array.getElem_mem hi')
 have join:∀ {s₁:Shared} {x:GenState},x.bare=true→KG B G (s.setGen g .running) s₁→KGg B G g s (s₁.setGen g x):=fun {s₁ x} hb k =>
  ⟨fun a o ha e=>k.heap a o ha e,fun i y hi e=>by rw [bw hi];exact k.gens i y (by rw [bw hi];exact e),fun ha=>kset hb (k.bare (kset rfl ha)),k.os⟩
 refine kQ hh hl hroom hg hgs (hgo hn _ ⟨fun Z Z Z e=>e,fun Z e=>e⟩) (fun r s₁ hr=>.inl ?_) (fun v s₁ gs' hb hv=>?_)
 ·refine dS hr fun Z1 hn0 Z kg=>?_;clear hr;subst Z1
  refine ⟨rfl,fun h' hk=>?_⟩
  have:=join (x:=.finished) rfl kg
  exact hP _ hn0 ⟨fun a o ha e=>hk a o (this.heap a o ha e),this.gens,this.bare,this.os⟩
 ·refine br hv fun Z1 kg hk=>?_;clear hv;refine ex22 Z1 fun y t Z2 hy=>?_;subst Z2;clear Z1
  cases n with
  | zero=>exact (hk (fun Z=>hn rfl) s₁ ⟨fun Z Z Z e=>e,fun Z e=>e⟩).elim
  | succ m =>
   refine hY y t _ m rfl hy (join hb kg) ⟨gs',setGen_self (gs:=.running) (kg.gens g _ (setGen_self hgs)),fun h s'' hw=>hk h s'' hw⟩
theorem cL {α:Type} {m:Sem α} {Q:α→Shared→Prop} {E:Value→Shared→Prop} (h:WP prog w A m Q s):wpAny (model prog w) A m Q E s:=wpAny_mono h (fun Z Z x=>x) fun Z Z x=>x.elim
theorem ng {k:Nat} {row:List Int} {X0:List Addr} {v:Value} {Q:Value→Shared→Prop} (ao:Ao k A) (g:Gd X0 s) (hWX:∀ a∈W,a∈X0) (hv:Rd prog w s.heap X0 (am row) v) (hS:Strm row none ys fin) (hn:ys.length=0→fin=true) (hrl:row.length≤1000)
  (h:∀ G s',Keep [] s s'→s.heap.get? G=none→s'.heap.IsGen G s.gens.size→GenAt prog w A s.heap.objs.size G W ys fin s.gens.size ys.length s'→Q (.ref G) s'):WP prog w A (call (.ref 42) [v] []) Q s:=by
 revert ao g hWX hv hS hn hrl h
 revert prog w A s W ys fin k row X0 v Q;refine @(dr12 ?_);exists w12 _ _,prog,w,A,s,W,ys,fin,k,row,X0,v,Q
 intro ao g hWX hv hS hn hrl h
 obtain ⟨lo,⟨doc,pm,c,oc,vs,t,h1,h2,h3,h4,h5,h6⟩,ne⟩:=g.top.fn (42,6) (by decide)
 refine wpAny_call (codeAny_call_generator (fd:=fnOf (fnName 6) (fnName 6) (fnParams 6) (fnBody 6) (fnScope 6) .none .none doc pm none (.ref c) .none) (body:=fnBody 6) ao.lim h1 rfl (show (fnScope 6).isCoroutine=false by decide +kernel) (show (fnScope 6).isGenerator=true by decide +kernel) rfl ⟨c,oc,vs,t,rfl,h4,h5,h6⟩ ?_)
 rw [show bindArgs (fnOf (fnName 6) (fnName 6) (fnParams 6) (fnBody 6) (fnScope 6) .none .none doc pm none (.ref c) .none) ⟨[v],[]⟩=pure ((["grouping"]:List Str).zip [v]) from rfl]
 have hk1:((((["grouping"]:List Str).zip [v]).all fun y=>(fnScope 6).names.lookup y.1 == some .local || (fnScope 6).names.lookup y.1 == some .cell)=true):=by rfl
 refine wpAny_pure (wpAny_newFunctionEnv_cells (show (fnScope 6).kind=.function by decide +kernel) (kindsX hk1 _) fun env he s₁ hs=>?_)
 refine oW (dh (bs:=[.d (am row)]) g (.cons hv .nil) hk1 (by decide +kernel) (by decide +kernel) (by decide +kernel) he hs) fun hsc hnew hlo hce S hg=>?_
 have fe:Fe env 6:=⟨hsc,hlo,hce⟩
 have hc:env.cells=[]:=by rw [he];rfl
 rw [hc] at S hnew
 have k₁:Keep [] s s₁:=S.base.drop hnew
 have hL:s.heap.objs.size≤env.locals:=by rw [he];exact Nat.le_refl _
 have hLW:env.locals∉W:=fun hm=>by
  have:=g.liv _ (hWX _ hm)
  rw [hnew _ (.head _)] at this;exact nB this
 refine ex12 S.cx.top.lim fun mc c1 c2=>?_
 refine ⟨⟨mc,c1,c2⟩,?_⟩
 let obj:Obj:={ cls:=.type "generator",data:=.fields #[.int s₁.gens.size 0,.str (fnName 6) s₁.toks,.str (fnName 6) (s₁.toks + 1)] }
 let s₂:Shared:={ s₁ with gens:=s₁.gens.push (.fresh (.func (fnBody 6) env)),toks:=s₁.toks + 1 + 1,heap:=s₁.heap.push obj }
 have k₂:Keep [] s₁ s₂:=⟨fun a o Z e=>Heap.get?_push_of_some _ e,fun a e=>by
   refine iS e fun o ho=>?_
   show ((s₁.heap.push obj).get? a).isSome=true
   rw [Heap.get?_push_of_some _ ho];rfl,fun i x e=>by
   refine ex11 (Array.getElem?_eq_some_iff.mp e) fun hi Z=>?_
   show (s₁.gens.push _)[i]?=some x
   rw [Array.getElem?_push_lt hi,← e,Array.getElem?_eq_getElem hi],fun b=>AllBare.push b rfl,rfl⟩
 have hGe:s₂.heap.get? s₁.heap.objs.size=some obj:=Heap.get?_push_size _ rfl
 show Q (.ref s₁.heap.objs.size) s₂
 refine h _ s₂ (k₁.trans k₂) (k₁.none_back (af _)) ⟨obj,.str (fnName 6) s₁.toks,.str (fnName 6) (s₁.toks + 1),hGe,rfl,by rw [← hg],rfl⟩ ⟨.fresh (.func (fnBody 6) env),?_,fun Z s'' hw=>⟨rfl,?_⟩⟩
 ·show (s₁.gens.push _)[s.gens.size]?=_
  rw [← hg,Array.getElem?_push_size]
 ·have S2:=(S.keep k₂).rebase
  have S3:=S2.kw hw (fun a ha=>mR (hWX a ha)) (fun a ha hm=>hLW (by rw [← ay hm];exact ha)) hc
  refine nf (A:=A.in1) fe hc ao.h hWX hLW (fun hp=>?_) hL (hw.2 _ (by rw [hGe];rfl)) (by rw [hsc];decide +kernel) (by unfold interactive;rw [hsc];rfl) S3 (KG.refl _ _ _) hS hn hrl
  refine bQ hp (fun hp=>?_) fun hp=>?_
  ·exact absurd hL (Nat.not_le.mpr hp)
  ·refine ex11 S.cx.ns fun m hm=>?_
   exact absurd hm.lt (by rw [hp];exact Nat.lt_irrefl _)
end
theorem cW {h:Heap}:∀ {l:List Int} {vs:List Value},RdL prog w h X (l.map .int) vs→∃ xs:List (Int×Tok),vs=xs.map (fun p=>.int p.1 p.2)∧xs.map (·.1)=l
 | [],_,x=>by unfold RdL at x;subst x;exact ⟨[],rfl,rfl⟩
 | i::l,_,x=>by
  rw [List.map_cons] at x
  refine RdL.consE x fun v r Z1 a b=>?_;clear x;subst Z1
  refine a.intE fun t Z1=>?_;subst Z1
  refine ex12 (cW b) fun xs Z1 Z2=>?_;subst Z1;subst Z2
  exact ⟨(i,t)::xs,rfl,rfl⟩
theorem ec {h':Heap} {tk:Nat} (hk:∀ b o,s.heap.get? b=some o→h'.get? b=some o):Keep X s { s with heap:=h',toks:=tk }:=Keep.ext hk
theorem nh {a:Addr} {vs:List Value} {n:Nat} {l:List Int} (hh:A.handled=none) (hg:s.heap.get? a=some (bo vs n)) (hr:RdL prog w s.heap X (l.map .int) vs) :
  WP prog w A (call (.builtin "sum") [.ref a] []) (fun v s'=>Keep [] s s'∧∃ t,v=.int l.sum t) s:=by
 refine ex12 (cW hr) fun xs Z1 Z2=>?_;subst Z1;subst Z2
 refine sum_intListG (xs:=xs.toArray) hh (by have:=ah hg;simpa [intItems] using this) fun h' tk t' hk=>⟨ec hk,t',?_⟩
 rw [preSum_eq,List.take_of_length_le (by simp)]
theorem ni {f:Str} {q p:Pos} {x:Str} {px:Pos} {a:Addr} {l:List Int} (c:Cx prog w env X τ ω s) (hh:A.handled=none) (hf:EvV prog w A env s (.Name f q) (.builtin "sum")) (hx:τ.lookup x=some (.v (.ref a))) (hm:(a,OD.lst (l.map .int))∈ω)
  (hd:autoParam ((x == ("__debug__":Str))=false) fb._auto_1):EvD prog w A env X s (.Call (.Name f q) [.Name x px] [] p) (.int l.sum) :=
 bz hf (qt (X:=X) (az (.ref a) c hx hd) al) (fun s' Z=>aJ) fun vs s' k h=>by
  refine ex12 (dZ h) fun v Z1 h1=>?_;subst Z1
  subst h1
  refine ai ((c.keep k).own _ hm) fun Z1 Z=>?_;refine ex22 Z1 fun vs n hg hr=>?_;clear Z1
  exact wpAny_mono (nh hh hg hr) (fun v s'' q=>⟨q.1,by (refine ex11 q.2 fun t Z1=>?_;subst Z1);exact Rd.int_⟩) fun Z Z z=>z
theorem sn {f:Str} {q p:Pos} {e:Expr} {l:List Int} (c:Cx prog w env X τ ω s) (hh:A.handled=none) (hf:EvV prog w A env s (.Name f q) (.builtin "sum")) (he:EvD prog w A env X s e (am l))
  (hs:autoParam (∀ rest,starEach (e::rest) env=(false,eval e env)::starEach rest env) e8._auto_1):EvD prog w A env X s (.Call (.Name f q) [e] [] p) (.int l.sum) :=
 bz hf (aH (X:=X) he al hs) (fun s' Z=>aJ) fun vs s' k h=>by
  refine aO h fun v Z1 h1=>?_;subst Z1
  refine h1.lstE fun a vs n Z1 hx hg hr=>?_;subst Z1
  exact wpAny_mono (nh hh hg hr) (fun v s'' q=>⟨q.1,by (refine ex11 q.2 fun t Z1=>?_;subst Z1);exact Rd.int_⟩) fun Z Z z=>z
theorem GenAt.kw {B:Nat} {G:Addr} {W:List Addr} {ys:List Int} {fin:Bool} {g n:Nat} (x:GenAt prog w A B G W ys fin g n s) (hw:KW W s s') (hg:∀ gs,s.gens[g]?=some gs→s'.gens[g]?=some gs):GenAt prog w A B G W ys fin g n s':=by
 refine ex12 x fun gs h1 h2=>?_;clear x
 exact ⟨gs,hg gs h1,fun hn s'' h'=>h2 hn s'' ⟨fun a o ha e=>h'.1 a o ha (hw.1 a o ha e),fun a e=>h'.2 a (hw.2 a e)⟩⟩
theorem Keep.kw {W:List Addr} (k:Keep W s s'):KW W s s':=⟨k.heap,k.live⟩
noncomputable def szL (count:Int):List Int→List Int→List Int×Bool
 | acc,[]=>(acc,false)
 | acc,y::r=>if decide (count≤acc.sum) then (acc,true) else szL count (acc++[y]) r
theorem pi (row:List Int) (count:Int) (ys:List Int) (fin:Bool) (hS:Strm row none ys fin) (hfin:fin=false→(szL count [] ys).2=true) (hrl:row.length≤1000) (hyl:ys.length≤1000) :
  Fn prog w 2 133 [am row,.int count] (.tup [am (szL count [] ys).1,.bool (szL count [] ys).2]):=by
 revert hS hfin hrl hyl
 revert prog w row count ys fin;refine @(dr6 ?_);exists w6 _ _,prog,w,row,count,ys,fin
 intro hS hfin hrl hyl
 exact c7 (i:=17) (names:=["row", "count"]) (by decide +kernel) (fun A s X env M s₁ ao g hsc hM hlo hce S=>by
  first | (revert ao g hsc hM hlo hce S;revert A s X env M s₁;refine @(dr6 ?_);exists w6 _ _,A,s,X,env,M,s₁;intro ao g hsc hM hlo hce S) | skip
  have fe:Fe env 17:=⟨hsc,hlo,hce⟩
  refine cj (ds:=[]) S (fe.own rfl) al (by decide) fun a s₂ ha S2=>?_
  have hn0:ys.length=0→fin=true:=fun h=>by
   cases fin with
   | true=>rfl
   | false =>
    have:=hfin rfl
    have e:ys=[]:=List.length_eq_zero_iff.mp h
    rw [e] at this;exact nB this
  refine aK (wpAny_For (hs:=by intro Z;rfl) (wpAny_Call_NameR ((bj (.ref 42) S2.cx (fe.gl rfl) rfl).go fun v s₃ k₃ h₃=>?_)))
  subst h₃
  have S3:=S2.keep k₃
  refine cw (X:=a::(M++X)) (bs:=[.d (am row)]) (first:=[]) (aH (aa (am row) S3.cx rfl) al) (fun s' k=>cG (S3.cx.keep k).top (i:=6) (by decide)) fun vs s₄ k₄ h₄=>?_
  refine aO h₄ fun v Z1 hv=>?_;subst Z1
  have S4:=S3.keep k₄
  refine ng (W:=a::M) (fin:=fin) ao S4.cx.gd (fun b hb=>S4.sub b hb) hv hS hn0 hrl fun G s₅ k₅ hGn hGen hGat=>wpAny_pyIter_gen hGen ?_
  have S5:=S4.keep k₅
  have hGB:∀ b∈a::(M++X),b < s₄.heap.objs.size:=fun b hb=>by
   refine iS (S4.cx.xlt b hb) fun o ho=>?_
   exact Heap.lt_size ho
  have hGW:G∉a::M:=fun hm=>by
   have:=S4.cx.xlt G (S4.sub G hm)
   rw [hGn] at this;exact nB this
  have k25:Keep [] s₂ s₅:=(k₃.trans k₄).trans k₅
  let names:List (Str×Bd):=[("sizes",.v (.ref a)),("count",.d (.int count))]
  refine dr (fun n s'=>∃ i,n=ys.length + 1 - i∧i≤ys.length∧Keep (a::M) s₄ s'∧Sx prog w s' env (a::M) (a::(M++X)) names [(a,.lst ((ys.take i).map .int))] s'∧GenAt prog w A s₄.heap.objs.size G (a::M) ys fin s₄.gens.size (ys.length - i) s'∧s'.heap.IsGen G s₄.gens.size ∧
   szL count [] ys=szL count (ys.take i) (ys.drop i)) (fun n s' hI=>?_) (ys.length + 1) ⟨0,rfl,Nat.zero_le _,k₅.any,(S5.rebase.cover (τ':=names) ⟨rfl,rfl,trivial⟩),hGat,hGen,rfl⟩
  obtain ⟨i,rfl,hil,kI,SI,hgI,hGI,hsz⟩:=hI
  have back:∀ {s'':Shared} {b:Bool} {i:Nat},Sx prog w s env (a::M) (a::(M++X)) (names) [(a,.lst ((ys.take i).map .int))] s''→szL count [] ys=(ys.take i,b)→∀ {e:Expr} {kk:Nat} {p pr:Pos} {px:Pos} {Q:Flow→Shared→Prop} {rest:List Stmt},
    EvD prog w A env (M++X) s'' e (.bool b)→(∀ rest,starEach (e::rest) env=(false,eval e env)::starEach rest env)→(∀ v s',(Keep M s s'∧Rd prog w s'.heap X (.tup [am (szL count [] ys).1,.bool (szL count [] ys).2]) v)→Q (.ret v) s') →
    WP prog w A (execs (.Return (some (.Tuple [.Name "sizes" px,e] kk p)) pr::rest) env) Q s'':=by
   intro s'' b i S'' hb e kk p pr px Q rest he hst hq
   have SF:=Sx.freeze S S'' ha (.head _) (x:=("sizes":Str)) rfl (ω':=[]) (fun Z h=>nomatch h)
   refine ca SF (bp (ds:=[am (ys.take i),.bool b]) SF.cx (aH (aa (am (ys.take i)) SF.cx rfl) (aH he al hst)) (by simp)) fun s₆ v S6 h=>hq v s₆ ⟨S6.base,?_⟩
   rw [hb]
   exact h.less eR
  have baseS:∀ {s''},Keep (a::M) s₄ s''→Keep (a::M) s s'':=fun k=>S4.base.trans k
  refine cL (ph ao.h SI.cx.top.lim ao.lim hGI hgI ?_ (fun y t s₆ m hm hy kg hg6=>?_) (fun s₆ hn kg=>?_))
  ·intro h
   cases fin with
   | true=>rfl
   | false =>
    have e:ys.drop i=[]:=List.drop_eq_nil_iff.mpr (by exact Nat.le_of_sub_eq_zero h)
    have:=hfin rfl
    rw [hsz,e] at this;exact nB this
  ·have him:m=ys.length - 1 - i:=by rw [Nat.sub_right_comm,hm];rfl
   have hilt:i < ys.length:=by lia
   have hyi:ys[i]?=some y:=by rw [show ys.length - 1 - m=i by rw [him];exact Nat.sub_sub_self (Nat.le_pred_of_lt hilt)] at hy;exact hy
   have keepS:Keep (a::M) s₄ s₆:=⟨fun b o hb e=>kg.heap b o (.inl (Heap.lt_size e)) (kI.heap b o hb e),fun b hb=>by
     refine iS hb fun o ho=>?_
     refine iS (kI.live b hb) fun o' ho'=>?_
     rw [kg.heap b o' (.inl (Heap.lt_size ho)) ho'];rfl,fun q x e=>kg.gens q x (fun z=>by
     refine ex11 (Array.getElem?_eq_some_iff.mp e) fun hq Z=>?_
     rw [z] at hq;exact absurd hq (Nat.lt_irrefl _)) (kI.gens q x e),fun e=>kg.bare (kI.bare e),kg.os.trans kI.os⟩
   have S6:Sx prog w s₆ env (a::M) (a::(M++X)) names [(a,.lst ((ys.take i).map .int))] s₆:=SI.flat (fun b o hb e=>kg.heap b o (.inl (hb.elim (hGB b) fun h=>Nat.lt_of_lt_of_le h S4.cx.top.size)) e) (fun p hp=>by
     refine mC hp (fun Z1=>?_) fun hp=>?_;subst Z1
     ·exact mZ
     ·rw [mS hp];exact di) (fun p hp=>⟨ys.take i,by rw [mS hp]⟩)
   refine wpAny_pure (wpAny_assign_Name (cL (S6.store (fe.own rfl) (b:=.d (.int y)) (Rd.int_:Rd prog w s₆.heap (a::(M++X)) (.int y) _) fun s₇ k₇ S7=>cL ?_)))
   have hstep:szL count (ys.take i) (ys.drop i)=if decide (count≤(ys.take i).sum) then (ys.take i,true) else szL count (ys.take i++[y]) (ys.drop (i + 1)):=by
    rw [List.drop_eq_getElem_cons hilt]
    have:ys[i]=y:=by rw [List.getElem?_eq_getElem hilt] at hyi;exact Option.some.inj hyi
    rw [this];rfl
   refine ik S7 (decide (count≤(ys.take i).sum)) (aZ S7.cx (ni S7.cx ao.h (aY _ S7.cx (fe.gl rfl) rfl) rfl (.head _)) (aa (.int count) S7.cx rfl) tB) (fun hb s₈ S8=>?_) (fun hb s₈ S8=>?_)
   ·have S8':=(S8.cover (τ':=names) ⟨rfl,rfl,trivial⟩).based (s₀:=s) (baseS keepS)
    refine back S8' (b:=true) (by rw [hsz,hstep,hb,if_pos rfl]) (ft (b:=true)) (by intro Z;rfl) fun v s' h=>h
   ·refine ax (d0 (ω1:=[]) (ω2:=[]) S8 rfl rfl (by simp) (aa (.int y) S8.cx rfl) (by rw [List.length_map,List.length_take];lia) fun s₉ S9=>ax ?_)
    have kk:Keep (a::M) s₆ s₉:=S9.base
    refine ⟨ys.length + 1 - (i + 1),by lia,i + 1,rfl,hilt,keepS.trans kk,?_,?_,?_,?_⟩
    ·have e:(ys.take i).map D.int++[.int y]=(ys.take (i + 1)).map .int:=by rw [List.take_add_one,hyi];simp
     rw [e] at S9
     exact S9.rebase.cover ⟨rfl,rfl,trivial⟩
    ·rw [show ys.length - (i + 1)=m by lia]
     exact hg6.kw kk.kw fun gs e=>kk.gens _ _ e
    ·refine ex32 hGI fun o nm qn ho r=>?_;clear hGI
     exact ⟨o,nm,qn,kk.heap G o hGW (kg.heap G o (.inr rfl) ho),r⟩
    ·rw [hsz,hstep,hb,if_neg (by decide),List.take_add_one,hyi];rfl
  ·have hie:i=ys.length:=by lia
   subst hie
   have keepS:Keep (a::M) s₄ s₆:=⟨fun b o hb e=>kg.heap b o (.inl (Heap.lt_size e)) (kI.heap b o hb e),fun b hb=>by
     refine iS hb fun o ho=>?_
     refine iS (kI.live b hb) fun o' ho'=>?_
     rw [kg.heap b o' (.inl (Heap.lt_size ho)) ho'];rfl,fun q x e=>kg.gens q x (fun z=>by
     refine ex11 (Array.getElem?_eq_some_iff.mp e) fun hq Z=>?_
     rw [z] at hq;exact absurd hq (Nat.lt_irrefl _)) (kI.gens q x e),fun e=>kg.bare (kI.bare e),kg.os.trans kI.os⟩
   have S6:Sx prog w s₆ env (a::M) (a::(M++X)) names [(a,.lst ((ys.take ys.length).map .int))] s₆:=SI.flat (fun b o hb e=>kg.heap b o (.inl (hb.elim (hGB b) fun h=>Nat.lt_of_lt_of_le h S4.cx.top.size)) e) (fun p hp=>by
     refine mC hp (fun Z1=>?_) fun hp=>?_;subst Z1
     ·exact mZ
     ·rw [mS hp];exact di) (fun p hp=>⟨ys.take ys.length,by rw [mS hp]⟩)
   refine cL (ax ?_)
   refine back (S6.based (s₀:=s) (baseS keepS)) (b:=false) (by rw [hsz,List.drop_length];rfl) (ft (b:=false)) (by intro Z;rfl) fun v s' h=>h) (il fun Z Z Z Z Z=>rfl)
noncomputable def SDh (F:List Addr) (h h':Heap):Prop:=∀ b o,h.get? b=some o→∃ sl,h'.get? b=some { o with slots:=sl }∧(b∉F→sl=o.slots)
theorem SDh.refl (F:List Addr) (h:Heap):SDh F h h:=fun b o e=>⟨o.slots,e,fun Z=>rfl⟩
theorem SDh.trans {F:List Addr} {h h' h'':Heap} (a:SDh F h h') (b:SDh F h' h''):SDh F h h'':=fun x o e=>by
 refine ex12 (a x o e) fun sl h1 h2=>?_
 refine ex12 (b x _ h1) fun sl' h3 h4=>?_
 exact ⟨sl',h3,fun hx=>(h4 hx).trans (h2 hx)⟩
theorem SDh.off {F:List Addr} {h h':Heap} (a:SDh F h h') {b:Addr} {o:Obj} (hb:b∉F) (e:h.get? b=some o):h'.get? b=some o:=by
 refine ex12 (a b o e) fun sl h1 h2=>?_
 rw [h2 hb] at h1;exact h1
noncomputable def FrO (F:List Addr) (h:Heap) (x:Env):Prop:=∃ L o,x.frame=some L∧L∈F∧h.get? L=some o∧o.isFreed=false∧x.scope.kind≠.module
theorem bX (o:Obj) (sl:Array (Option Value)):({ o with slots:=sl }:Obj).isFreed=o.isFreed:=by obtain ⟨c,d,dt,s⟩:=o;cases dt <;> rfl
theorem FrO.sd {F F':List Addr} {h h':Heap} {x:Env} (a:FrO F h x) (s:∀ o L,x.frame=some L→h.get? L=some o→∃ sl,h'.get? L=some { o with slots:=sl }):FrO F h' x:=by
 refine ex25 a fun L o h1 h2 h3 h4 h5=>?_;clear a
 refine ex11 (s o L h1 h3) fun sl h6=>?_
 exact ⟨L,_,h1,h2,h6,by rw [bX];exact h4,h5⟩
section
variable {M:Model} {A:Around} {E:Value→Shared→Prop}
theorem gS {F:List Addr}:∀ (l:List Env) {s:Shared} {Q:Unit→Shared→Prop},(∀ x∈l,FrO F s.heap x)→(∀ h',SDh F s.heap h'→Q () { s with heap:=h' })→wpAny M A (readyFrames l) Q E s
 | [],s,Q,_,h=>wpAny_pure (h s.heap (SDh.refl _ _))
 | x::r,s,Q,hF,h=>by
  refine ex25 (hF x (.head _)) fun L o h1 h2 h3 h4 h5=>?_
  simp only [readyFrames,h1]
  refine wpAny_bind (wpAny_load h3 ?_)
  by_cases hr:((o.slots.getD 3 none).isSome)=true
  ·rw [if_pos hr];exact wpAny_pure (h _ (SDh.refl _ _))
  ·refine wF hr ?_
   refine wpAny_bind (wpAny_of_eq (a:=false) (by simp [behindIsImport,h5]) ?_)
   have go:∀ v,wpAny M A (do
     update L fun o=>{ o with slots:=#[some x.code,some (.ref x.globals),o.slots.getD 2 none,some v,o.slots.getD 4 none,x.func.map Value.ref,some (.ref x.builtins)]++(x.cells.map fun c=>some (.ref c.2)).toArray }
     readyFrames r) Q E s:=fun v=>by
    let f:Obj→Obj:=fun o=>{ o with slots:=#[some x.code,some (.ref x.globals),o.slots.getD 2 none,some v,o.slots.getD 4 none,x.func.map Value.ref,some (.ref x.builtins)]++(x.cells.map fun c=>some (.ref c.2)).toArray }
    have hs:Heap.SameBut L s.heap (s.heap.update L f):=Heap.SameBut.update ..
    have hself:(s.heap.update L f).get? L=some (f o):=Heap.get?_update_self _ h3 (by rw [show f o={ o with slots:=_ } from rfl,bX];exact h4)
    have sd:SDh F s.heap (s.heap.update L f):=fun b ob e=>by
     by_cases hb:b=L
     ·subst hb;rw [h3] at e;refine sE e fun e=>?_;subst e
      exact ⟨_,hself,fun hn=>absurd h2 hn⟩
     ·exact ⟨ob.slots,(hs.2 b hb).trans e,fun Z=>rfl⟩
    refine wpAny_bind (wpAny_update h3 ?_)
    refine gS r (s:={ s with heap:=s.heap.update L f }) (fun y hy=>(hF y (.tail _ hy)).sd (F':=F) fun o' L' hl' hg'=>?_) fun h' hs'=>h h' (sd.trans hs')
    refine ex12 (sd L' o' hg') fun sl q Z=>?_
    exact ⟨sl,q⟩
   cases r with
   | nil=>exact wpAny_bind (wpAny_keptBack_nil fun v=>go v)
   | cons y r=>exact wpAny_bind (wpAny_pure (go _))
noncomputable def oR (F:List Addr) (cls:Value) (e T:Addr) (fl:Value) (h:Heap):Prop :=
 e∉F∧T∉F∧T≠e∧∃ oe vs oT ts,h.get? e=some oe∧oe.cls=cls∧oe.data=.fields vs∧vs[1]?=some (.ref T)∧h.get? T=some oT∧oT.data=.fields ts∧ts[3]?=some fl
theorem i3 {F:List Addr} {env:Env} {outer:List Env} {L e:Addr} {oe:Obj} {vs:Array Value} {head:Value} {had:Bool} {s:Shared} {Q:Unit→Shared→Prop} (hfr:A.frames=some (env::outer)) (hF:∀ x∈env::outer,FrO F s.heap x) (hLF:∀ a∈F,(s.heap.get? a).isSome=true) (hf:env.frame=some L)
  (he:s.heap.get? e=some oe) (hd:oe.data=.fields vs) (hsz:1 < vs.size) (heF:e∉F)
  (h:∀ h' T,(∀ b o,b≠e→s.heap.get? b=some o→∃ sl,h'.get? b=some { o with slots:=sl }∧(b∉F→sl=o.slots))→s.heap.get? T=none→oR F oe.cls e T (rawInt L) h'→Q () { s with heap:=h' }) :
  wpAny M A (do let a ← PySem.frameOf env;let pl ← entryPlaceOf L had;let b ← EntryCells.newEntry head a .none (rawInt L) .none pl;setField (.ref e) 1 b) Q E s:=by
 revert hfr hF hLF hf he hd hsz heF h
 revert M A E F env outer L e oe vs head had s Q;refine @(dr14 ?_);exists w14 _ _,M,A,E,F,env,outer,L,e,oe,vs,head,had,s,Q
 intro hfr hF hLF hf he hd hsz heF h
 have hdw:((env::outer).dropWhile fun x=>x.frame != env.frame)=env::outer:=by simp [List.dropWhile]
 unfold PySem.frameOf
 refine wpAny_bind (wpAny_bind (wpAny_frameEnvs hfr ?_))
 rw [hdw]
 unfold frameObject
 refine wpAny_bind (wpAny_bind (gS (env::outer) hF fun h₁ hsA=>wpAny_pure ?_))
 rw [hf]
 refine wpAny_pure ?_
 refine wpAny_bind (wpAny_entryPlaceOf fun pl hpl=>?_)
 unfold EntryCells.newEntry newFields
 refine wpAny_bind (wpAny_newObj_type ?_ (hpl.sizeOk5 _ _ _ _ _))
 have he1:h₁.get? e=some oe:=hsA.off heF he
 let ot:Obj:={ cls:=.type "traceback",dict:=none,data:=.fields ([head,.ref L,.none,rawInt L,.none]++(if pl.isEmpty then List.replicate 6 Value.none else pl)).toArray }
 have he2:(h₁.push ot).get? e=some oe:=Heap.get?_push_of_some _ he1
 refine wpAny_setField he2 hd hsz ?_
 have hTe:h₁.objs.size≠e:=Nat.ne_of_gt (Heap.lt_size he1)
 have hd3:=Obj.data_mapFields hd (·.setIfInBounds 1 (Value.ref h₁.objs.size))
 have hTn:s.heap.get? h₁.objs.size=none:=by
  cases q:s.heap.get? h₁.objs.size with
  | none=>rfl
  | some o =>
   refine ex12 (hsA _ o q) fun sl h2 Z=>?_
   exact absurd (Heap.lt_size h2) (Nat.lt_irrefl _)
 refine h _ h₁.objs.size (fun b o hb e=>?_) hTn ⟨heF,fun hm=>?_,hTe,_,_,ot,_,Heap.get?_update_self _ he2 (Obj.isFreed_of_fields hd3),Obj.cls_mapFields _ _,hd3,by simp [hsz],?_,rfl,?_⟩
 ·refine ex12 (hsA b o e) fun sl h1 h2=>?_
  refine ⟨sl,?_,h2⟩
  rw [Heap.get?_update_other _ _ (Ne.symm hb)]
  exact Heap.get?_push_of_some _ h1
 ·have:=hLF _ hm;rw [hTn] at this;exact nB this
 ·rw [Heap.get?_update_other _ _ (Ne.symm hTe)]
  exact Heap.get?_push_size h₁ rfl
 ·rcases hpl with rfl | ⟨_,_,_,_,_,_,_,rfl⟩ <;> simp
noncomputable def SDb (F N:List Addr) (h h':Heap):Prop:=∀ b o,b∉N→h.get? b=some o→∃ sl,h'.get? b=some { o with slots:=sl }∧(b∉F→sl=o.slots)
theorem bD {F:List Addr} {cls fl:Value} {e T:Addr} {fr:Option Addr} {s:Shared} {Q:Unit→Shared→Prop} (x:oR F cls e T fl s.heap)
  (h:∀ h',(∀ b,b≠T→h'.get? b=s.heap.get? b)→oR F cls e T (fr.elim .none fun f=>rawInt f) h'→Q () { s with heap:=h' }):wpAny M A (setFlight (.ref e) fr) Q E s:=by
 obtain ⟨heF,hTF,hTe,oe,vs,oT,ts,h1,hc,h2,h3,h4,h5,h6⟩:=x
 unfold setFlight
 refine wpAny_bind (wpAny_field h1 h2 h3 ?_)
 refine wT (show (Value.ref T != Value.none)=true from by simp) ?_
 have hsz:3 < ts.size:=(Array.getElem?_eq_some_iff.mp h6).1
 refine wpAny_setField h4 h5 hsz (h _ (fun b hb=>Heap.get?_update_other _ _ (Ne.symm hb)) ⟨heF,hTF,hTe,oe,vs,_,_,(Heap.get?_update_other _ _ hTe).trans h1,hc,h2,h3,Heap.get?_update_self _ h4 (Obj.isFreed_of_fields (Obj.data_mapFields h5 _)),Obj.data_mapFields h5 _,?_⟩)
 simp [hsz]
theorem gT {F:List Addr} {cls:Value} {e T:Addr} {L:Addr} {env:Env} {s:Shared} {Q:Unit→Shared→Prop} (x:oR F cls e T (rawInt L) s.heap) (hf:env.frame=some L) (h:Q () s):wpAny M A (noteFrame (.ref e) env) Q E s:=by
 obtain ⟨heF,hTF,hTe,oe,vs,oT,ts,h1,hc,h2,h3,h4,h5,h6⟩:=x
 exact wpAny_noteFrame_inFlight hf h1 h2 h3 h4 h5 h6 h
theorem jL {F:List Addr} {env:Env} {outer:List Env} {L e:Addr} {oe:Obj} {vs:Array Value} {s:Shared} {Q:Unit→Shared→Prop} (hfr:A.frames=some (env::outer)) (hF:∀ x∈env::outer,FrO F s.heap x) (hLF:∀ a∈F,(s.heap.get? a).isSome=true) (hf:env.frame=some L)
  (he:s.heap.get? e=some oe) (hd:oe.data=.fields vs) (h1:vs[1]?=some .none) (heF:e∉F)
  (h:∀ h' T,SDb F [e] s.heap h'→s.heap.get? T=none→oR F oe.cls e T (rawInt L) h'→Q () { s with heap:=h' }):wpAny M A (noteFrame (.ref e) env) Q E s:=by
 unfold noteFrame
 rw [hf]
 refine wpAny_bind (wpAny_field he hd h1 ?_)
 refine wF (by decide) ?_
 exact i3 hfr hF hLF hf he hd (Array.getElem?_eq_some_iff.mp h1).1 heF fun h' T k=>h h' T fun b o hb e=>k b o (fun z=>hb (by rw [z];exact .head _)) e
theorem lC {F:List Addr} {cls:Value} {env:Env} {outer:List Env} {L e T:Addr} {s:Shared} {Q:Unit→Shared→Prop} (hfr:A.frames=some (env::outer)) (hF:∀ x∈env::outer,FrO F s.heap x) (hLF:∀ a∈F,(s.heap.get? a).isSome=true) (hf:env.frame=some L)
  (x:oR F cls e T .none s.heap) (h:∀ h' T',SDb F [e,T] s.heap h'→s.heap.get? T'=none→oR F cls e T' (rawInt L) h'→Q () { s with heap:=h' }):wpAny M A (noteFrame (.ref e) env) Q E s:=by
 revert hfr hF hLF hf x h
 revert M A E F cls env outer L e T s Q;refine @(dr12 ?_);exists w12 _ _,M,A,E,F,cls,env,outer,L,e,T,s,Q
 intro hfr hF hLF hf x h
 obtain ⟨heF,hTF,hTe,oe,vs,oT,ts,h1,hc,h2,h3,h4,h5,h6⟩:=x
 unfold noteFrame
 rw [hf]
 refine wpAny_bind (wpAny_field h1 h2 h3 ?_)
 refine wT (show (Value.ref T != Value.none)=true from by simp) ?_
 refine wpAny_bind (wpAny_field h4 h5 h6 ?_)
 refine wF (show ¬ ((Value.none == rawInt L)=true) from by simp [rawInt]) ?_
 refine wpAny_bind (wpAny_setField h4 h5 (Array.getElem?_eq_some_iff.mp h6).1 ?_)
 have other:∀ b,b≠T→(s.heap.update T (Obj.mapFields (·.setIfInBounds 3 Value.none))).get? b=s.heap.get? b:=fun b hb=>Heap.get?_update_other _ _ (Ne.symm hb)
 have hself:=Heap.get?_update_self (Obj.mapFields (·.setIfInBounds 3 Value.none)) h4 (Obj.isFreed_of_fields (Obj.data_mapFields h5 _))
 refine i3 hfr (fun y hy=>?_) (fun a ha=>?_) hf ((other e (Ne.symm hTe)).trans h1) h2 (Array.getElem?_eq_some_iff.mp h3).1 heF fun h' T' k hn fl=>h h' T' (fun b o hb e=>?_) ?_ (hc ▸ fl)
 ·refine ex25 (hF y hy) fun L' o' q1 q2 q3 q4 q5=>?_
  exact ⟨L',o',q1,q2,(other _ fun z=>hTF (z ▸ q2)).trans q3,q4,q5⟩
 ·rw [other a fun z=>hTF (z ▸ ha)];exact hLF a ha
 ·exact k b o (fun z=>hb (by rw [z];exact .head _)) ((other b fun z=>hb (by rw [z];exact .tail _ (.head _))).trans e)
 ·by_cases z:T'=T
  ·subst z;rw [hself] at hn;exact nO hn.symm
  ·rw [← other T' z];exact hn
end
theorem SDh.ns {F:List Addr} {h h':Heap} {a:Addr} {m:Str→Option Value} (x:SDh F h h') (n:h.Ns a m):h'.Ns a m:=by
 refine ex33 n fun o es ep ho hd r=>?_;clear n
 refine ex12 (x a o ho) fun sl h1 Z=>?_
 exact ⟨_,es,ep,h1,hd,r⟩
theorem SDh.cell {F:List Addr} {h h':Heap} {a:Addr} {v:Option Value} (x:SDh F h h') (n:h.IsCell a v):h'.IsCell a v:=by
 refine ex12 n fun o ho hd=>?_;clear n
 refine ex12 (x a o ho) fun sl h1 Z=>?_
 exact ⟨_,h1,hd⟩
theorem Cx.sd {F:List Addr} (c:Cx prog w env X τ ω s) (hs:SDh F s.heap s'.heap) (hF:∀ a∈F,a∈X) (hω:∀ p∈ω,p.1∉F):Cx prog w env X τ ω s':=by
 obtain ⟨ok,⟨m,ns⟩,cells,vars,top,xlt,xhi,own⟩:=c
 have off:∀ b o,b∉X→s.heap.get? b=some o→b∉X∧s'.heap.get? b=some o:=fun b o hb e=>⟨hb,hs.off (fun hm=>hb (hF b hm)) e⟩
 refine ⟨ok,⟨m,hs.ns ns⟩,fun p hp=>?_,fun x b e=>?_,top.mv fun a o hl Z e=>hs.off (fun hm=>absurd (xhi a (hF a hm)) (Nat.not_le.mpr hl)) e,fun a ha=>?_,xhi,fun p hp=>⟨(own p hp).1.mv off fun o e=>hs.off (hω p hp) e,(own p hp).2⟩⟩
 ·refine ex11 (cells p hp) fun v hv=>?_
  exact ⟨v,hs.cell hv⟩
 ·refine ex12 (vars x b e) fun v h1 h2=>?_
  refine ⟨v,?_,?_⟩
  ·rcases h1 with ⟨q,m',hm',hv'⟩ | ⟨q,c,hc,hv'⟩
   ·exact .inl ⟨q,m',hs.ns hm',hv'⟩
   ·exact .inr ⟨q,c,hc,hs.cell hv'⟩
  ·cases b with
   | d d=>exact Rd.mv off d v h2
   | v u=>exact h2
 ·refine iS (xlt a ha) fun o ho=>?_
  refine ex12 (hs a o ho) fun sl h1 Z=>?_
  rw [h1];rfl
structure KX (F N:List Addr) (s s':Shared):Prop where
 heap:SDb F N s.heap s'.heap
 gens:∀ (i:Nat) (x:GenState),s.gens[i]?=some x→s'.gens[i]?=some x
 bare:AllBare s.gens→AllBare s'.gens
 os:s'.os=s.os
noncomputable def RX (F:List Addr) (L:Addr):GenEnd:=fun Z s₀ r s₁=>∃ e T N,r=.error (.ref e)∧oR F (.type "ValueError") e T .none s₁.heap∧KX F N s₀ s₁∧s₀.heap.get? e=none∧s₀.heap.get? T=none∧(∀ a∈N,a=L∨s₀.heap.get? a=none)
section
variable {Y:Protocol}
theorem lD:∀ {X:List Addr},cv prog w A X (compareOp .Is) .none .none (.bool true):=fun s u v Z h1 h2=>by
 rw [h1.none_inv,h2.none_inv]
 exact wpAny_is_self rfl ⟨Keep.refl _ _,Rd.bool_⟩
theorem eD {h h':Heap} (hl:∀ a,(h.get? a).isSome=true→(h'.get? a).isSome=true) {a:Addr} (e:h'.get? a=none):h.get? a=none:=by
 cases q:h.get? a with
 | none=>rfl
 | some o=>have:=hl a (by rw [q];rfl);rw [e] at this;exact nB this
theorem lE {r:List Int} {X0 F:List Addr} {l:List Env} (fe:Fe env 6) (hc:env.cells=[]) (hh:A.handled=none) (hfm:env.frame=some env.locals) (hfr:A.frames=some l) (hco:env.scope.isCoroutine=false) (hi:interactive env=false) (hkind:env.scope.kind≠.module) {s:Shared}
  (S:Sx prog w s env [env.locals] ([env.locals]++X0) [("grouping",.d (am (0::r)))] [] s) (hFo:∀ x∈l,FrO F s.heap x∧x.frame≠some env.locals) (hFl:∀ a∈F,(s.heap.get? a).isSome=true) (hL:env.locals∈F) :
  Seg (model prog w) A (RX F env.locals) Y 0 s (.func (fnBody 6) env) ((model prog w).den (.func (fnBody 6) env)) [] s:=by
 revert fe hc hh hfm hfr hco hi hkind S hFo hFl hL
 revert prog w A env Y r X0 F l s;refine @(dr10 ?_);exists w10 _ _,prog,w,A,env,Y,r,X0,F,l,s
 intro fe hc hh hfm hfr hco hi hkind S hFo hFl hL
 have hhd:∀ c,(A.over c []).handled=none:=fun c=>hh
 refine seg_func (seg_execs_cons (d9 ?_))
 refine wpAny_Assign_Name ((fu (X:=[env.locals]++X0)).go fun v s₁ k₁ h₁=>(S.keep k₁).store (fe.own rfl) (b:=.d .none) h₁ fun s₂ k₂ S2=>?_) rfl
 refine seg_execs_cons (kO ?_)
 refine (aa (am (0::r)) S2.cx rfl).go fun v s₃ k₃ h₃=>?_
 have S3:=S2.keep k₃
 refine Rd.lstE h₃ fun a vs n Z1 haX hg hr=>?_;subst Z1
 refine wpAny_pyIter_list (ah hg) fun q=>?_
 let I:Addr:=s₃.heap.objs.size
 let s₄:Shared:={ s₃ with heap:=s₃.heap.push { cls:=.type "list_iterator",data:=.fields #[.ref a,.int 0 0] } }
 have k₄:Keep [] s₃ s₄:=Keep.push (tk:=s₃.toks)
 have S4:=S3.keep k₄
 have hit:s₄.heap.IsListIter I a 0:=⟨_,Heap.get?_push_size _ rfl,rfl,rfl⟩
 have hl:s₄.heap.IsList a vs.toArray:=(ah hg).push _
 refine ex12 (hr.get (i:=0) (d:=.int 0) rfl) fun v0 hv0 hv0r=>?_
 refine hv0r.intE fun t0 Z1=>?_;subst Z1
 refine dg (wpAny_pyNext_list_item hit hl (x:=.int 0 t0) (by simpa using hv0) fun h' hit' hs=>?_)
 have hIn:s.heap.get? I=none:=eD (fun b hb=>k₃.live b (k₂.live b (k₁.live b hb))) (af _)
 have hIX:I∉[env.locals]++X0:=S3.cx.fresh
 have k₅:Keep [I] s₄ { s₄ with heap:=h' }:=Keep.sameBut (tk:=s₄.toks) hs (.head _) (by (refine ex12 hit' fun o ho Z=>?_;clear hit');rw [ho];rfl)
 have hIL:I≠env.locals:=fun z=>hIX (by rw [z];exact mL (.head _))
 have hIF:∀ b,b∈F→b≠I:=fun b hb z=>by have:=hFl b hb;rw [z,hIn] at this;exact nB this
 have S5:Sx prog w { s₄ with heap:=h' } env [env.locals] [env.locals] [("last_interval",.d .none)] [] { s₄ with heap:=h' }:=((S4.cover (τ':=[("last_interval",.d .none)]) ⟨rfl,trivial⟩).shrink (X:=[env.locals]) (fun b hb=>mL hb) (fun b hb=>hb) (by intro p hp;rw [hc] at hp;exact nM hp)).flat (fun b o hb e=>(hs.2 b (fun z=>by
   subst z
   refine bQ hb (fun hb=>?_) fun hb=>?_
   ·exact hIL (ay hb)
   ·exact absurd S3.cx.top.size (Nat.not_le.mpr hb))).trans e) (fun p hp=>by rw [mS hp];exact gP) (fun p hp=>nomatch hp)
 refine wpAny_pure (wpAny_assign_Name (S5.store (fe.own rfl) (b:=.d (.int 0)) (Rd.int_:Rd prog w h' [env.locals] (.int 0) _) fun s₆ k₆ S6=>?_))
 refine seg_execs_cons (cV ((aZ S6.cx (aa (.int 0) S6.cx rfl) (ir S6.cx (fe.gl rfl) rfl) cZ).go fun s₇ k₇=>?_))
 refine seg_execs_nil ?_
 have S7:=S6.keep k₇
 refine seg_execs_cons (cV ((aZ S7.cx (aa (.int 0) S7.cx rfl) ag cZ).go fun s₈ k₈=>?_))
 have S8:=S7.keep k₈
 refine seg_execs_cons (cV ((aZ S8.cx (aa .none S8.cx rfl) fu lD).go fun s₉ k₉=>?_))
 have S9:=S8.keep k₉
 refine seg_execs_cons (seg_wrap ?_)
 refine wpAny_Raise_call PySem.F.excCall_ValueError PySem.F.excRaise_ValueError ?_ rfl (cL ((aY (.type "ValueError") S9.cx (fe.gl rfl) rfl).go fun f s10 k10 hAO=>⟨hAO,cL (Calls.evalArgs_plain (EvBs.go (aH (X:=[env.locals]) (aX (x:="invalid grouping")) al) _ fun vs' s11 k11 hAA=>?_))⟩))
 ·exact hhd _
 refine aO hAA fun v Z1 Z=>?_;subst Z1
 refine ⟨rfl,by show 1≤sizeLine;rw [aM];decide,fun h₂ e hm=>?_⟩
 have k611:Keep [] s₆ s11:=(((k₇.trans k₈).trans k₉).trans k10).trans k11
 have kN:Keep [env.locals,I] s s11:=(((((k₁.any.trans (k₂.more fun b hb=>by rw [ay hb];exact .head _)).trans k₃.any).trans k₄.any).trans (k₅.more fun b hb=>by rw [ay hb];exact .tail _ (.head _))).trans (k₆.more fun b hb=>by rw [ay hb];exact .head _)).trans k611.any
 have hen:s11.heap.get? e=none:=hm.new
 have hens:s.heap.get? e=none:=eD kN.live hen
 refine ex13 hm.there fun tt hoe Z Z=>?_
 let s12:Shared:={ s11 with heap:=h₂ }
 have hFl12:∀ b∈F,(s12.heap.get? b).isSome=true:=fun b hb=>by
  refine iS (kN.live b (hFl b hb)) fun o ho=>?_
  show (h₂.get? b).isSome=true
  rw [hm.keeps b o ho];rfl
 have heF:e∉F:=fun h=>by have:=hFl e h;rw [hens] at this;exact nB this
 have frs:∀ x∈env::l,FrO F s12.heap x:=fun x hx=>by
  refine mC hx (fun Z1=>?_) fun hx=>?_;subst Z1
  ·refine ex43 S9.cx.ns fun m o es ep ho hd Z=>?_
   have:s12.heap.get? x.locals=some o:=hm.keeps _ o (k11.heap _ o (fun h=>nomatch h) (k10.heap _ o (fun h=>nomatch h) ho))
   exact ⟨_,o,hfm,hL,this,by obtain ⟨c,d,dt,sl⟩:=o;cases hd;rfl,hkind⟩
  ·refine ai (hFo x hx) fun Z1 hne=>?_;refine ex25 Z1 fun L' o h1 h2 h3 h4 h5=>?_;clear Z1
   exact ⟨L',o,h1,h2,hm.keeps _ o (kN.heap L' o (fun hm=>(List.mem_cons.mp hm).elim (fun z=>hne (z ▸ h1)) fun hm=>hIF L' h2 (ay hm)) h3),h4,h5⟩
 refine seg_wrap (wpAny_bind (jL (F:=F) (outer:=l) (by show pushEnvs [] (pushEnvs [env] A.frames)=_;rw [hfr];rfl) frs hFl12 hfm hoe rfl rfl heF fun h₃ T k3' hTn fl=>wpAny_theTreesLotGoes ?_))
 refine seg_leaf (.error (.ref e)) ?_
 show Seg _ A _ _ 0 s _ (Sem.wrap _ _ _ _ ((do
    if (← field (.ref e) 1) == Value.none then unsupported "frame.own-activation:exception-without-traceback"
    setFlight (.ref e) env.frame:Sem Unit) >>= fun Z=>.raise (.ref e))) [] _
 rw [Sem.bind_eq_wrap',Sem.wrap_wrap]
 have fl':=fl
 obtain ⟨_,_,hTe,oe,vsC,oT,ts,q1,_,q2,q3,q4,q5,q6⟩:=fl
 refine seg_wrap (wpAny_bind (wpAny_field q1 q2 q3 ?_))
 refine wF (show ¬ ((Value.ref T == Value.none)=true) from by simp) ?_
 refine bD fl' fun h₄ k4' fl4=>?_
 rw [hfm] at fl4
 show Seg _ A _ _ 0 s _ (Sem.wrap _ _ _ _ (leaving env (.ref e))) [] _
 refine seg_wrap ?_
 unfold leaving
 refine wpAny_bind (gT fl4 hfm (bD fl4 fun h₅ k5' fl5=>?_))
 have hTs:s.heap.get? T=none:=eD (fun b hb=>by
  refine iS (kN.live b hb) fun o ho=>?_
  show (h₂.get? b).isSome=true
  rw [hm.keeps b o ho];rfl) hTn
 refine seg_end (.error (.ref e)) ⟨e,T,[env.locals,I,e,T],rfl,fl5,⟨fun b o hb eb=>?_,kN.gens,kN.bare,kN.os⟩,hens,hTs,fun b hb=>?_⟩
 ·have hbN:b∉[env.locals,I]:=fun hm=>hb (by
   refine mC hm (fun Z1=>?_) fun hm=>?_;subst Z1
   ·exact .head _
   ·rw [ay hm];exact .tail _ (.head _))
  have hbT:b≠T:=fun z=>hb (by rw [z];exact .tail _ (.tail _ (.tail _ (.head _))))
  refine ex12 (k3' b o (fun hm=>hb (by rw [ay hm];exact .tail _ (.tail _ (.head _)))) (hm.keeps b o (kN.heap b o hbN eb))) fun sl h6 h7=>?_
  exact ⟨sl,by rw [k5' b hbT];show h₄.get? b=_;rw [k4' b hbT];exact h6,h7⟩
 ·refine mC hb (fun Z1=>?_) fun hb=>?_;subst Z1
  ·exact .inl rfl
  refine mC hb (fun Z1=>?_) fun hb=>?_;subst Z1
  ·exact .inr hIn
  refine mC hb (fun Z1=>?_) fun hb=>?_;subst Z1
  ·exact .inr hens
  ·rw [ay hb];exact .inr hTs
end
theorem lF {k:Nat} {row:List Int} {X0:List Addr} {v:Value} {Q:Value→Shared→Prop} (ao:Ao k A) (g:Gd X0 s) (hv:Rd prog w s.heap X0 (am row) v)
  (h:∀ G s' env,Keep [] s s'→s.heap.get? G=none→s'.heap.IsGen G s.gens.size→s'.gens[s.gens.size]?=some (.fresh (.func (fnBody 6) env))→Fe env 6→env.cells=[]→env.frame=some env.locals→s.heap.get? env.locals=none→env.scope=fnScope 6 →
   Sx prog w s' env [env.locals] ([env.locals]++X0) [("grouping",.d (am row))] [] s'→Q (.ref G) s'):WP prog w A (call (.ref 42) [v] []) Q s:=by
 revert ao g hv h
 revert prog w A s k row X0 v Q;refine @(dr9 ?_);exists w9 _ _,prog,w,A,s,k,row,X0,v,Q
 intro ao g hv h
 obtain ⟨lo,⟨doc,pm,c,oc,vs,t,h1,h2,h3,h4,h5,h6⟩,ne⟩:=g.top.fn (42,6) (by decide)
 refine wpAny_call (codeAny_call_generator (fd:=fnOf (fnName 6) (fnName 6) (fnParams 6) (fnBody 6) (fnScope 6) .none .none doc pm none (.ref c) .none) (body:=fnBody 6) ao.lim h1 rfl (show (fnScope 6).isCoroutine=false by decide +kernel) (show (fnScope 6).isGenerator=true by decide +kernel) rfl ⟨c,oc,vs,t,rfl,h4,h5,h6⟩ ?_)
 rw [show bindArgs (fnOf (fnName 6) (fnName 6) (fnParams 6) (fnBody 6) (fnScope 6) .none .none doc pm none (.ref c) .none) ⟨[v],[]⟩=pure ((["grouping"]:List Str).zip [v]) from rfl]
 have hk1:((((["grouping"]:List Str).zip [v]).all fun y=>(fnScope 6).names.lookup y.1 == some .local || (fnScope 6).names.lookup y.1 == some .cell)=true):=by rfl
 refine wpAny_pure (wpAny_newFunctionEnv_cells (show (fnScope 6).kind=.function by decide +kernel) (kindsX hk1 _) fun env he s₁ hs=>?_)
 refine oW (dh (bs:=[.d (am row)]) g (.cons hv .nil) hk1 (by decide +kernel) (by decide +kernel) (by decide +kernel) he hs) fun hsc hnew hlo hce S hg=>?_
 have fe:Fe env 6:=⟨hsc,hlo,hce⟩
 have hc:env.cells=[]:=by rw [he];rfl
 rw [hc] at S hnew
 have k₁:Keep [] s s₁:=S.base.drop hnew
 have hL:s.heap.objs.size≤env.locals:=by rw [he];exact Nat.le_refl _
 refine ex12 S.cx.top.lim fun mc c1 c2=>?_
 refine ⟨⟨mc,c1,c2⟩,?_⟩
 let obj:Obj:={ cls:=.type "generator",data:=.fields #[.int s₁.gens.size 0,.str (fnName 6) s₁.toks,.str (fnName 6) (s₁.toks + 1)] }
 let s₂:Shared:={ s₁ with gens:=s₁.gens.push (.fresh (.func (fnBody 6) env)),toks:=s₁.toks + 1 + 1,heap:=s₁.heap.push obj }
 have k₂:Keep [] s₁ s₂:=⟨fun a o Z e=>Heap.get?_push_of_some _ e,fun a e=>by
   refine iS e fun o ho=>?_
   show ((s₁.heap.push obj).get? a).isSome=true
   rw [Heap.get?_push_of_some _ ho];rfl,fun i x e=>by
   refine ex11 (Array.getElem?_eq_some_iff.mp e) fun hi Z=>?_
   show (s₁.gens.push _)[i]?=some x
   rw [Array.getElem?_push_lt hi,← e,Array.getElem?_eq_getElem hi],fun b=>AllBare.push b rfl,rfl⟩
 have hGe:s₂.heap.get? s₁.heap.objs.size=some obj:=Heap.get?_push_size _ rfl
 show Q (.ref s₁.heap.objs.size) s₂
 refine h _ s₂ env (k₁.trans k₂) (k₁.none_back (af _)) ⟨obj,.str (fnName 6) s₁.toks,.str (fnName 6) (s₁.toks + 1),hGe,rfl,by rw [← hg],rfl⟩ ?_ fe hc (by rw [he];rfl) (hnew _ (.head _)) hsc (S.keep k₂).rebase
 show (s₁.gens.push _)[s.gens.size]?=_
 rw [← hg,Array.getElem?_push_size]
structure SDS (F:List Addr) (s s':Shared):Prop where
 heap:SDh F s.heap s'.heap
 gens:∀ (i:Nat) (x:GenState),s.gens[i]?=some x→s'.gens[i]?=some x
 bare:AllBare s.gens→AllBare s'.gens
 os:s'.os=s.os
theorem i4 {s:Shared} {g:Nat} {x:GenState} (hb:x.bare=true) (ha:AllBare s.gens):AllBare (s.setGen g x).gens:=by
 intro y hy
 refine ex21 (Array.mem_iff_getElem.mp hy) fun i hi Z1=>?_;subst Z1
 by_cases e:i=g
 ·subst e
  have hlt:i < s.gens.size:=by have:=(GenOnly.setGen s i x).1;exact Nat.lt_of_lt_of_eq hi this
  have:=setGen_self (s:=s) (x:=x) (Array.getElem?_eq_getElem hlt)
  rw [Array.getElem?_eq_getElem hi] at this
  rw [Option.some.inj this];exact hb
 ·have h1:=bw (s:=s) (x:=x) e
  rw [Array.getElem?_eq_getElem hi] at h1
  refine ex11 (Array.getElem?_eq_some_iff.mp h1.symm) fun hi' e'=>?_
  exact e' ▸ ha _ (Array.getElem_mem hi')
theorem so {M:Model} {c:Code} {R:Result→Shared→Prop} (h:∀ K:Result→Shared→Prop,(∀ r s,R r s→K r s)→codeAny M A c K s):codeAny M A c R s:=h R fun Z Z z=>z
theorem tL {M:Model} {α:Type} {t:Sem α} {Q:α→Shared→Prop} {E:Value→Shared→Prop} (h:∀ (K:α→Shared→Prop) (F:Value→Shared→Prop),(∀ v s,Q v s→K v s)→(∀ e s,E e s→F e s)→wpAny M A t K F s):wpAny M A t Q E s:=h Q E (fun Z Z z=>z) fun Z Z z=>z
theorem lG {r:List Int} {X F:List Addr} {l:List Env} {v:Value} {Q:Value→Shared→Prop} (ao:Ao 3 A) (hfr:A.frames=some l) (g:Gd X s) (hFX:∀ a∈F,a∈X) (hFo:∀ x∈l,FrO F s.heap x) (hv:Rd prog w s.heap X (am (0::r)) v)
  (h:∀ s',SDS F s s'→Q (.bool true) s'):WP prog w A (call (.ref 140) [v] []) Q s:=by
 revert ao hfr g hFX hFo hv h
 revert prog w A s r X F l v Q;refine @(dr10 ?_);exists w10 _ _,prog,w,A,s,r,X,F,l,v,Q
 intro ao hfr g hFX hFo hv h
 obtain ⟨lo,⟨doc,pm,c,oc,vs,t,h1,h2,h3,h4,h5,h6⟩,ne⟩:=g.top.fn (140,18) (by decide)
 refine wpAny_call (codeAny_call_function (fd:=fnOf (fnName 18) (fnName 18) (fnParams 18) (fnBody 18) (fnScope 18) .none .none doc pm none (.ref c) .none) (body:=fnBody 18) ao.lim h1 rfl (show (fnScope 18).isCoroutine=false by decide +kernel) (show (fnScope 18).isGenerator=false by decide +kernel) rfl ⟨c,oc,vs,t,rfl,h4,h5,h6⟩ ?_)
 rw [show bindArgs (fnOf (fnName 18) (fnName 18) (fnParams 18) (fnBody 18) (fnScope 18) .none .none doc pm none (.ref c) .none) ⟨[v],[]⟩=pure ((["row"]:List Str).zip [v]) from rfl]
 have hk1:((((["row"]:List Str).zip [v]).all fun y=>(fnScope 18).names.lookup y.1 == some .local || (fnScope 18).names.lookup y.1 == some .cell)=true):=by rfl
 refine wpAny_pure (wpAny_newFunctionEnv_cells (show (fnScope 18).kind=.function by decide +kernel) (kindsX hk1 _) fun env he s₁ hs=>?_)
 refine oW (dh (bs:=[.d (am (0::r))]) g (.cons hv .nil) hk1 (by decide +kernel) (by decide +kernel) (by decide +kernel) he hs) fun hsc hnew hlo hce S hg=>?_
 have fe:Fe env 18:=⟨hsc,hlo,hce⟩
 have hc:env.cells=[]:=by rw [he];rfl
 have hfm:env.frame=some env.locals:=by rw [he];rfl
 rw [hc] at S hnew
 have hLs:s.heap.get? env.locals=none:=hnew _ (.head _)
 refine ex12 S.cx.top.lim fun mc c1 c2=>?_
 refine ⟨⟨mc,c1,c2⟩,codeAny_func ?_⟩
 let A':Around:=A.deeper env
 have ao':Ao 2 A':=ao.deeper
 have hfr':A'.frames=some (env::l):=by show pushEnvs [env] A.frames=_;rw [hfr];rfl
 have k01:Keep [] s s₁:=S.base.drop hnew
 refine wpAny_mono (Q:=fun f s'=>Q (dU f) s') (E:=fun Z Z=>False) ?_ (fun f s' q=>by cases f <;> exact q) fun Z Z z=>z.elim
 show WP prog w A' (execs (fnBody 18) env) (fun f s'=>Q (dU f) s') s₁
 refine aK (wpAny_Try_except ?_)
 refine wpAny_execs_cons ?_
 refine wpAny_For (hs:=by intro Z;rfl) (cL (wpAny_Call_NameR ((bj (.ref 42) S.cx (fe.gl rfl) rfl).go fun vB s₂ k₂ h₂=>?_)))
 subst h₂
 have S2:=S.keep k₂
 refine cw (X:=[env.locals]++X) (bs:=[.d (am (0::r))]) (first:=[]) (aH (aa (am (0::r)) S2.cx rfl) al) (fun s' k=>cG (S2.cx.keep k).top (i:=6) (by decide)) fun vs s₄ k₄ h₄=>?_
 refine aO h₄ fun v Z1 hv=>?_;subst Z1
 have S4:=S2.keep k₄
 refine lF ao' S4.cx.gd hv fun G s₅ eg k₅ hGn hGen hgs feg hcg hfg hLg hscg Sg=>cL (wpAny_pyIter_gen hGen ?_)
 have k14:Keep [] s₁ s₄:=k₂.trans k₄
 have k04:Keep [] s s₄:=k01.trans k14
 have k05:Keep [] s s₅:=k04.trans k₅
 have inX:∀ a∈X,a∈[env.locals]++X:=fun a h=>mR h
 have hlive4:(s₄.heap.get? env.locals).isSome=true:=S4.cx.xlt _ (mL (.head _))
 have hLne:eg.locals≠env.locals:=fun z=>by rw [z] at hLg;rw [hLg] at hlive4;exact nB hlive4
 have hFlive:∀ a∈F,(s.heap.get? a).isSome=true:=fun a ha=>g.liv a (hFX a ha)
 have hLgs:s.heap.get? eg.locals=none:=k04.none_back hLg
 have hLgF:eg.locals∉F:=fun hm=>by have:=hFlive _ hm;rw [hLgs] at this;exact nB this
 let F':List Addr:=eg.locals::env.locals::F
 have fr5:∀ x∈env::l,FrO F' s₅.heap x∧x.frame≠some eg.locals:=fun x hx=>by
  refine mC hx (fun Z1=>?_) fun hx=>?_;subst Z1
  ·refine ex43 S4.cx.ns fun m o es ep ho hd Z=>?_
   refine ⟨⟨_,o,hfm,.tail _ (.head _),k₅.heap _ o (fun h=>nomatch h) ho,by obtain ⟨c,d,dt,sl⟩:=o;cases hd;rfl,by rw [hsc];decide +kernel⟩,fun z=>?_⟩
   rw [hfm] at z;exact hLne (Option.some.inj z).symm
  ·refine ex25 (hFo x hx) fun L' o q1 q2 q3 q4 q5=>?_
   refine ⟨⟨L',o,q1,.tail _ (.tail _ q2),k05.heap L' o (fun h=>nomatch h) q3,q4,q5⟩,fun z=>?_⟩
   rw [q1] at z;exact hLgF (by rw [← Option.some.inj z];exact q2)
 have hFl5:∀ a∈F',(s₅.heap.get? a).isSome=true:=fun a ha=>by
  refine mC ha (fun Z1=>?_) fun ha=>?_;subst Z1
  ·exact Sg.cx.xlt _ (mL (.head _))
  refine mC ha (fun Z1=>?_) fun ha=>?_;subst Z1
  ·exact k₅.live _ hlive4
  ·exact k05.live a (hFlive a ha)
 refine so fun K hK=>?_
 refine dr (fun n s'=>s'=s₅) (fun n s' hI=>?_) 0 rfl
 subst hI
 let sr:Shared:=s'.setGen s₄.gens.size .running
 have Sr:Sx prog w sr eg [eg.locals] ([eg.locals]++([env.locals]++X)) [("grouping",.d (am (0::r)))] [] sr:=⟨Sg.cx.at rfl,Keep.refl _ _,Sg.sub,Sg.mloc,Sg.mcel,Sg.mown⟩
 refine kQ (R:=RX F' eg.locals) (Y:=fun Z Z Z Z Z=>False) (n:=0) ao'.h Sg.cx.top.lim ao'.lim hGen hgs ⟨rfl,lE (A:=A'.in1) (l:=env::l) (F:=F') feg hcg ao'.h hfg hfr' (by rw [hscg];decide +kernel) (by unfold interactive;rw [hscg];rfl) (by rw [hscg];decide +kernel) Sr fr5 hFl5 (.head _)⟩ (fun rr s₆ hR=>.inr ?_) (fun Z Z Z Z hY=>hY.elim)
 refine ex36 hR fun e T N Z1 fl kx hen hTn hN=>?_;clear hR;subst Z1
 obtain ⟨heF,hTF,hTe,oe,vsC,oT,ts,q1,qc,q2,q3,q4,q5,q6⟩:=id fl
 have hGF:G∉F':=fun hm=>by
  refine mC hm (fun z=>?_) fun hm=>?_
  ·refine ex43 Sg.cx.ns fun m o es ep ho hd Z=>?_
   refine ex34 hGen fun o' nm qn ho' Z hd' Z=>?_;clear hGen
   rw [z,ho] at ho';refine sE ho' fun ho'=>?_;subst ho';rw [hd] at hd';cases hd'
  refine mC hm (fun z=>?_) fun hm=>?_
  ·rw [← z,hGn] at hlive4;exact nB hlive4
  ·have:=k04.live _ (hFlive _ hm);rw [hGn] at this;exact nB this
 have hGN:G∉N:=fun hm=>by
  refine ex32 hGen fun o' nm qn ho' Z=>?_;clear hGen
  refine bQ (hN G hm) (fun z=>?_) fun z=>?_
  ·exact hGF (by rw [z];exact .head _)
  ·rw [show sr.heap.get? G=s'.heap.get? G from rfl,ho'] at z;exact nO z.symm
 refine ⟨e, "ValueError",rfl,⟨oe,q1,qc⟩,by rw [isSubtype_type];kernel_rfl,?_,?_⟩
 ·refine ex34 hGen fun o' nm qn ho' r1 r2 r3=>?_;clear hGen
  refine ex12 (kx.heap G o' hGN ho') fun sl w1 w2=>?_
  rw [w2 hGF] at w1
  exact ⟨o',nm,qn,w1,r1,r2,r3⟩
 let s₇:Shared:=s₆.setGen s₄.gens.size .finished
 have kx57:SDb F' N s'.heap s₇.heap:=kx.heap
 have fr7:∀ x∈env::l,FrO F' s₇.heap x:=fun x hx=>by
  refine ai (fr5 x hx) fun Z1 w6=>?_;refine ex25 Z1 fun L' o w1 w2 w3 w4 w5=>?_;clear Z1
  have hn:L'∉N:=fun hm=>by
   refine bQ (hN L' hm) (fun z=>?_) fun z=>?_
   ·exact w6 (z ▸ w1)
   ·rw [show sr.heap.get? L'=s'.heap.get? L' from rfl,w3] at z;exact nO z.symm
  refine ex12 (kx57 L' o hn w3) fun sl w7 Z=>?_
  exact ⟨L',_,w1,w2,w7,by rw [bX];exact w4,w5⟩
 have hFl7:∀ a∈env.locals::F,(s₇.heap.get? a).isSome=true:=fun a ha=>by
  have hl:=hFl5 a (.tail _ ha)
  refine iS hl fun o ho=>?_
  have hn:a∉N:=fun hm=>by
   refine bQ (hN a hm) (fun z=>?_) fun z=>?_
   ·refine mC ha (fun z'=>?_) fun ha=>?_
    ·exact hLne (z.symm.trans z')
    ·exact hLgF (z ▸ ha)
   ·rw [show sr.heap.get? a=s'.heap.get? a from rfl,ho] at z;exact nO z.symm
  refine ex12 (kx57 a o hn ho) fun sl w7 Z=>?_
  rw [w7];rfl
 have fr7':∀ x∈env::l,FrO (env.locals::F) s₇.heap x:=fun x hx=>by
  refine ex25 (fr7 x hx) fun L' o w1 w2 w3 w4 w5=>?_
  refine ⟨L',o,w1,?_,w3,w4,w5⟩
  refine mC w2 (fun z=>?_) fun w2=>?_
  ·exact absurd (z ▸ w1) (fr5 x hx).2
  ·exact w2
 have fl7:oR (env.locals::F) (.type "ValueError") e T .none s₇.heap:=⟨fun hm=>heF (.tail _ hm),fun hm=>hTF (.tail _ hm),hTe,oe,vsC,oT,ts,q1,qc,q2,q3,q4,q5,q6⟩
 show wpAny (model prog w) A' (noteFrame (.ref e) env) _ _ s₇
 refine lC hfr' fr7' hFl7 hfm fl7 fun h₈ T8 k₈ hT8 fl8=>?_
 have sd8:∀ b o,s₄.heap.get? b=some o→b≠T8∧b≠T∧∃ sl,h₈.get? b=some { o with slots:=sl }∧(b∉env.locals::F→sl=o.slots):=fun b o hg=>by
  have hg5:s'.heap.get? b=some o:=k₅.heap b o (fun h=>nomatch h) hg
  have hbL:b≠eg.locals:=fun z=>by rw [z,hLg] at hg;exact nO hg
  have hbN:b∉N:=fun hm=>by
   refine bQ (hN b hm) (fun z=>?_) fun z=>?_
   ·exact hbL z
   ·rw [show sr.heap.get? b=s'.heap.get? b from rfl,hg5] at z;exact nO z.symm
  have hbe:b≠e:=fun z=>by rw [← z,show sr.heap.get? b=s'.heap.get? b from rfl,hg5] at hen;exact nO hen.symm
  have hbT:b≠T:=fun z=>by rw [← z,show sr.heap.get? b=s'.heap.get? b from rfl,hg5] at hTn;exact nO hTn.symm
  refine ex12 (kx57 b o hbN hg5) fun sl w1 w2=>?_
  refine ex12 (k₈ b _ (fun hm=>by
   refine mC hm (fun z=>?_) fun hm=>?_
   ·exact hbe z
   ·exact hbT (ay hm)) w1) fun sl' w3 w4=>?_
  refine ⟨fun z=>(by rw [← z,w1] at hT8;exact nO hT8.symm),hbT,sl',w3,fun hn=>(w4 hn).trans (w2 fun hm=>?_)⟩
  refine mC hm (fun z=>?_) fun hm=>?_
  ·exact hbL z
  ·exact hn hm
 refine dS (id fl8) fun Z Z Z Z1=>?_;refine ex45 Z1 fun oe8 vs8 Z Z u1 uc u2 u3 Z=>?_;clear Z1
 refine hK _ _ ?_
 refine wpAny_bind (wpAny_field u1 u2 u3 ?_)
 refine wF (show ¬ ((Value.ref T8 == Value.none)=true) from by simp) ?_
 refine bD fl8 fun h₉ k₉ fl9=>?_
 rw [hfm] at fl9
 refine gT fl9 hfm (bD fl9 fun hAO k10 fl10=>?_)
 refine dS (id fl10) fun Z Z Z Z1=>?_;refine ex45 Z1 fun oe10 vs10 Z Z y1 yc y2 y3 Z=>?_;clear Z1
 have sdF:SDh (env.locals::F) s₄.heap hAO:=fun b o hg=>by
  refine br (sd8 b o hg) fun hbT Z Z1=>?_;refine ex12 Z1 fun sl w1 w2=>?_;clear Z1
  exact ⟨sl,by rw [k10 b hbT];show h₉.get? b=_;rw [k₉ b hbT];exact w1,w2⟩
 have hcx:=S4.cx.sd (s':={ s₇ with heap:=hAO }) sdF (fun a ha=>by
  refine mC ha (fun Z1=>?_) fun ha=>?_;subst Z1
  ·exact mL (.head _)
  ·exact inX a (hFX a ha)) (fun p hp=>nomatch hp)
 refine wpAny_handleBy_builtin (T:="ValueError") (X:="ValueError") (b:=true) PySem.F.excRaise_ValueError.isExc (by rw [isSubtype_type];kernel_rfl) (by rw [isSubtype_type];kernel_rfl)
  (cL ((aY (.type "ValueError") hcx (fe.gl rfl) rfl).go fun c₁ s11 k11 hcA=>⟨hcA,⟨oe10,k11.heap e _ (fun h=>nomatch h) y1,yc⟩,?_⟩))
 refine r7 rfl ?_
 have fl11:oR (env.locals::F) (.type "ValueError") e T8 .none s11.heap:=by
  obtain ⟨z1,z2,z3,a1,a2,a3,a4,a5,a6,a7,a8,a9,a10,a11⟩:=fl10
  exact ⟨z1,z2,z3,a1,a2,a3,a4,k11.heap _ _ (fun h=>nomatch h) a5,a6,a7,a8,k11.heap _ _ (fun h=>nomatch h) a9,a10,a11⟩
 refine bD fl11 fun hAB k12 fl12=>cL (aK (wpAny_Return_some ((ft (X:=[]) (b:=true)).go fun v s13 kAC hAC=>?_)))
 rw [Rd.bool_inv hAC]
 refine h s13 ⟨fun b o hg=>?_,fun q x hq=>?_,fun ha=>?_,?_⟩
 ·have hg4:s₄.heap.get? b=some o:=k04.heap b o (fun h=>nomatch h) hg
  refine ex12 (sdF b o hg4) fun sl w1 w2=>?_
  have hbT:=(sd8 b o hg4).1
  have hbL:b≠env.locals:=fun z=>by rw [z,hLs] at hg;exact nO hg
  refine ⟨sl,kAC.heap b _ (fun h=>nomatch h) (by show hAB.get? b=_;rw [k12 b hbT];exact k11.heap b _ (fun h=>nomatch h) w1),fun hn=>w2 fun hm=>?_⟩
  refine mC hm (fun z=>?_) fun hm=>?_
  ·exact hbL z
  ·exact hn hm
 ·have hlt:q≠s₄.gens.size:=fun z=>by
   refine ex11 (Array.getElem?_eq_some_iff.mp (k04.gens q x hq)) fun hq' Z=>?_
   rw [z] at hq';exact absurd hq' (Nat.lt_irrefl _)
  refine kAC.gens q x (k11.gens q x ?_)
  show s₇.gens[q]?=some x
  rw [bw hlt]
  refine kx.gens q x ?_
  rw [bw hlt]
  exact k05.gens q x hq
 ·refine kAC.bare (k11.bare ?_)
  show AllBare s₇.gens
  exact i4 rfl (kx.bare (i4 rfl (k05.bare ha)))
 ·exact kAC.os.trans (k11.os.trans (kx.os.trans k05.os))
theorem fM {a b:Int} (hb:b≠0) (hs:b.natAbs < 1073741824):cv prog w A X (binaryOp .FloorDiv) (.int a) (.int b) (.int (a.fdiv b)):=fun s u v Z h1 h2=>by
 refine h1.intE fun t Z1=>?_;subst Z1;refine h2.intE fun t' Z1=>?_;subst Z1
 exact PyProof.Rows.floordiv_int hb ⟨Keep.toks,Rd.int_⟩ (.inl (PyProof.noPylong_small hs))
theorem cM {a b:Str} (hl:a.length + b.length≤16777216):cv prog w A X (binaryOp .Add) (.str a) (.str b) (.str (a++b)):=fun s u v Z h1 h2=>by
 refine h1.strE fun t Z1=>?_;subst Z1;refine h2.strE fun t' Z1=>?_;subst Z1
 exact PyProof.Rows.add_str (fun t' tk=>⟨Keep.toks,Rd.str_⟩) (by rw [aM];exact hl)
noncomputable def pj (x y:Str):Bool:=!(Builtin.Str.occurrences x y 0 x.length 1).isEmpty
theorem qx {a b:Str}:cv prog w A X (compareOp .In) (.str b) (.str a) (.bool (pj a b)):=fun s u v Z h1 h2=>by
 refine h1.strE fun t Z1=>?_;subst Z1;refine h2.strE fun t' Z1=>?_;subst Z1
 exact PyProof.Rows.in_str ⟨Keep.refl _ _,Rd.bool_⟩
theorem qZ {a b:Str}:cv prog w A X (compareOp .NotIn) (.str b) (.str a) (.bool (!pj a b)):=fun s u v Z h1 h2=>by
 refine h1.strE fun t Z1=>?_;subst Z1;refine h2.strE fun t' Z1=>?_;subst Z1
 exact PyProof.Rows.notIn_str ⟨Keep.refl _ _,Rd.bool_⟩
noncomputable def dO (ns:List Int):Nat→List Int
 | 0=>[12,7,66,27,10]
 | i + 1=>(dO ns i).set (i % 5) ((dO ns i).getD (i % 5) 0 + ns.getD i 0)
theorem ee {ns:List Int}:∀ {i:Nat},(dO ns i).length=5
 | 0=>rfl
 | i + 1=>by unfold dO;rw [List.length_set];exact ee
theorem sq (i:Nat):(i:Int).fmod 5=((i % 5:Nat):Int):=by
 rw [Int.fmod_eq_emod_of_nonneg _ (by decide)];rfl
theorem q7 (ns:List Int) (hl:ns.length≤16777216):Fn prog w 1 98 [am ns] (am (dO (ns.take 60) (ns.take 60).length)):=by
 revert hl
 revert prog w ns;refine @(dr3 ?_);exists w3 _ _,prog,w,ns
 intro hl
 exact c7 (i:=12) (names:=["script"]) (by decide +kernel) (fun A s X env M s₁ ao g hsc hM hlo hce S=>by
  first | (revert ao g hsc hM hlo hce S;revert A s X env M s₁;refine @(dr6 ?_);exists w6 _ _,A,s,X,env,M,s₁;intro ao g hsc hM hlo hce S) | skip
  have fe:Fe env 12:=⟨hsc,hlo,hce⟩
  refine cj (ds:=[.int 12,.int 7,.int 66,.int 27,.int 10]) S (fe.own rfl) (aH ag (aH ag (aH ag (aH ag (aH ag al))))) (by decide) fun a s₂ ha S2=>?_
  refine aC S2 (.int 0) (fe.own rfl) ag fun s₃ S3=>?_
  have e60:jD (ns.map D.int) none (some 60)=(ns.take 60).map .int:=by show (ns.map D.int).take 60=_;rw [List.map_take]
  refine fE S3 (ds:=(ns.take 60).map .int) (bu S3.cx ao.h (Ev.to (fD (ds:=ns.map .int) (a:=none) (b:=some 60) (lo:=none) (hi:=some _) S3.cx (aa (am ns) S3.cx rfl) trivial (ag (i:=60)) (fun Z h=>nomatch h) (fun x h=>by (refine sE h fun h=>?_;subst h);decide) (.inl rfl) (by rw [List.length_map];exact hl)) (congrArg D.lst e60))) (fun i=>[("place",.d (.int i)),("sums",.v (.ref a))]) (fun i=>[(a,.lst ((dO (ns.take 60) i).map .int))]) (fun Z Z=>False) (fun i d=>[("number",.d d)]) ⟨rfl,rfl,trivial⟩ rfl
   (fun i d Z=>au (fe.own rfl)) (fun i d X' s' hd hX S'=>?_) (fun s' S'=>?_) (fun Z Z Z h=>h.elim)
  ·obtain ⟨n,hn,rfl⟩:∃ n,(ns.take 60)[i]?=some n∧d=.int n:=by
    rw [List.getElem?_map,Option.map_eq_some_iff] at hd
    refine ex12 hd fun n h1 h2=>?_;clear hd
    exact ⟨n,h1,h2.symm⟩
   have hgd:(ns.take 60).getD i 0=n:=by rw [List.getD_eq_getElem?_getD,hn];rfl
   have h5:i % 5 < 5:=Nat.mod_lt _ (by decide)
   have hget:((dO (ns.take 60) i).map D.int)[i % 5]?=some (.int ((dO (ns.take 60) i).getD (i % 5) 0)):=by
    rw [List.getElem?_map,List.getD_eq_getElem?_getD,List.getElem?_eq_getElem (by rw [ee];exact h5)];rfl
   refine kH (ω1:=[]) (ω2:=[]) (n:=i % 5) (b:=.int ((dO (ns.take 60) i).getD (i % 5) 0)) (c:=.int n) S' (az (.ref a) S'.cx rfl) (aF S'.cx (aa (.int (i:Int)) S'.cx rfl) ag (fv (by decide))) rfl (by simp) ?_ hget (by rw [List.length_map,ee];decide) (aa (.int n) S'.cx rfl) dL fun s₄ S4=>?_
   ·rw [sq,if_neg (by lia)]
   refine jB S4 (a:=.int (i:Int)) (b:=.int 1) (fe.own rfl) rfl ag dL fun s₅ S5=>ax ?_
   have e:((dO (ns.take 60) i).map D.int).set (i % 5) (.int ((dO (ns.take 60) i).getD (i % 5) 0 + n))=(dO (ns.take 60) (i + 1)).map .int:=by
    show _=List.map D.int (List.set _ _ _)
    rw [List.map_set,hgd]
   rw [e] at S5
   exact S5.cover ⟨by show _=some (Bd.d (D.int ((i + 1:Nat):Int)));rfl,rfl,trivial⟩
  ·rw [List.length_map] at S'
   exact ca S' (az (.ref a) S'.cx rfl) fun s₄ v S4 e=>e ▸ S4.retL g (S.base.none_back ha) (.head _)) (mK fun Z Z Z Z=>rfl)
noncomputable def sgn (n:Int):Str:=Txt.item "a\"\\ \n#" (n.fmod 6)
noncomputable def nj (n:Int):Str:=Txt.item " \t\n\r" ((n.fdiv 24).fmod 4)
noncomputable def lH (n:Int):Int:=(n.fdiv 6).fmod 4
noncomputable def wri (n:Int):Str :=
 if lH n == 1 then "\"\\"++sgn n++"\"" else if lH n == 2 && pj "a#" (sgn n) then sgn n++nj n else if lH n == 3 && !pj "\"\\" (sgn n) then "\""++sgn n++"\"" else "\\"++sgn n++nj n
theorem ba {a b:Int} (hb:0 < b):0≤a.fmod b∧a.fmod b < b:=by
 rw [Int.fmod_eq_emod_of_nonneg _ (by exact Int.le_of_lt hb)]
 exact ⟨Int.emod_nonneg _ (by lia),Int.emod_lt_of_pos _ hb⟩
theorem pn (n:Int):(sgn n).length=1:=by
 have h:=ba (a:=n) (b:=6) (by decide)
 unfold sgn
 refine tw (by lia:n.fmod 6=0∨n.fmod 6=1∨n.fmod 6=2∨n.fmod 6=3∨n.fmod 6=4∨n.fmod 6=5) (fun h=>?_) (fun h=>?_) (fun h=>?_) (fun h=>?_) (fun h=>?_) fun h=>?_ <;> (rw [h];decide +kernel)
theorem po (n:Int):(nj n).length=1:=by
 have h:=ba (a:=n.fdiv 24) (b:=4) (by decide)
 unfold nj
 refine oQ (by lia:(n.fdiv 24).fmod 4=0∨(n.fdiv 24).fmod 4=1∨(n.fdiv 24).fmod 4=2∨(n.fdiv 24).fmod 4=3) (fun h=>?_) (fun h=>?_) (fun h=>?_) fun h=>?_ <;> (rw [h];decide +kernel)
theorem iu {a b:Str} {m n:Nat} (h1:a.length=m) (h2:b.length=n):(a++b).length=m + n:=by rw [← h1,← h2];exact Array.size_append ..
theorem lI (n:Int):Fn prog w 1 105 [.int n] (.tup [.str (sgn n),.str (wri n)]):=by
 revert prog w n;refine @(dr3 ?_);exists w3 _ _,prog,w,n
 exact c7 (i:=13) (names:=["number"]) (by decide +kernel) (fun A s X env M s₁ ao g hsc hM hlo hce S=>by
  first | (revert ao g hsc hM hlo hce S;revert A s X env M s₁;refine @(dr6 ?_);exists w6 _ _,A,s,X,env,M,s₁;intro ao g hsc hM hlo hce S) | skip
  have fe:Fe env 13:=⟨hsc,hlo,hce⟩
  have r6:=ba (a:=n) (b:=6) (by decide)
  have r24:=ba (a:=n.fdiv 24) (b:=4) (by decide)
  refine aC S (.str (sgn n)) (fe.own rfl) (cH S.cx (aX (x:="a\"\\ \n#")) (aF S.cx (aa (.int n) S.cx rfl) ag (fv (by decide))) (ff r6.1 r6.2 (by decide +kernel))) fun s₂ S2=>?_
  refine aC S2 (.int (lH n)) (fe.own rfl) (aF S2.cx (aF S2.cx (aa (.int n) S2.cx rfl) ag (fM (by decide) (by decide))) ag (fv (by decide))) fun s₃ S3=>?_
  refine aC S3 (.str (nj n)) (fe.own rfl) (cH S3.cx (aX (x:=" \t\n\r")) (aF S3.cx (aF S3.cx (aa (.int n) S3.cx rfl) ag (fM (by decide) (by decide))) ag (fv (by decide))) (ff r24.1 r24.2 (by decide +kernel))) fun s₄ S4=>?_
  have l1:=pn n
  have l2:=po n
  have fin:∀ {τ:List (Str×Bd)} {s':Shared} {v:Value} {t:Str},Sx prog w s env M (M++X) τ [] s'→Rd prog w s'.heap (M++X) (.tup [.str (sgn n),.str t]) v→t=wri n→Keep M s s'∧Rd prog w s'.heap X (.tup [.str (sgn n),.str (wri n)]) v:=fun S h e=>⟨S.base,e ▸ h.less eR⟩
  refine ik S4 (lH n == 1) (aZ S4.cx (aa (.int (lH n)) S4.cx rfl) ag cZ) (fun hb s₅ S5=>?_) (fun hb s₅ S5=>ax ?_)
  ·refine ca S5 (bp (ds:=[.str (sgn n),.str ("\"\\"++sgn n++"\"")]) S5.cx (aH (aa (.str (sgn n)) S5.cx rfl) (aH (aF S5.cx (aF S5.cx (aX (x:="\"\\")) (aa (.str (sgn n)) S5.cx rfl) (cM (by rw [l1];decide))) (aX (x:="\"")) (cM (by rw [iu (m:=2) rfl l1];decide))) al)) (by simp)) fun s₆ v S6 h=>fin S6 h (by unfold wri;rw [if_pos hb])
  refine ik S5 (lH n == 2 && pj "a#" (sgn n)) (kL (aZ S5.cx (aa (.int (lH n)) S5.cx rfl) ag cZ) fun Z=>aZ S5.cx (aa (.str (sgn n)) S5.cx rfl) (aX (x:="a#")) qx) (fun hb2 s₆ S6=>?_) (fun hb2 s₆ S6=>ax ?_)
  ·refine ca S6 (bp (ds:=[.str (sgn n),.str (sgn n++nj n)]) S6.cx (aH (aa (.str (sgn n)) S6.cx rfl) (aH (aF S6.cx (aa (.str (sgn n)) S6.cx rfl) (aa (.str (nj n)) S6.cx rfl) (cM (by rw [l1,l2];decide))) al)) (by simp)) fun s₆ v S6 h=>fin S6 h (by unfold wri;rw [hb,hb2];rfl)
  refine ik S6 (lH n == 3 && !pj "\"\\" (sgn n)) (kL (aZ S6.cx (aa (.int (lH n)) S6.cx rfl) ag cZ) fun Z=>aZ S6.cx (aa (.str (sgn n)) S6.cx rfl) (aX (x:="\"\\")) qZ) (fun hb3 s₇ S7=>?_) (fun hb3 s₇ S7=>ax ?_)
  ·refine ca S7 (bp (ds:=[.str (sgn n),.str ("\""++sgn n++"\"")]) S7.cx (aH (aa (.str (sgn n)) S7.cx rfl) (aH (aF S7.cx (aF S7.cx (aX (x:="\"")) (aa (.str (sgn n)) S7.cx rfl) (cM (by rw [l1];decide))) (aX (x:="\"")) (cM (by rw [iu (m:=1) rfl l1];decide))) al)) (by simp)) fun s₆ v S6 h=>fin S6 h (by unfold wri;rw [hb,hb2,hb3];rfl)
  ·refine ca S7 (bp (ds:=[.str (sgn n),.str ("\\"++sgn n++nj n)]) S7.cx (aH (aa (.str (sgn n)) S7.cx rfl) (aH (aF S7.cx (aF S7.cx (aX (x:="\\")) (aa (.str (sgn n)) S7.cx rfl) (cM (by rw [l1];decide))) (aa (.str (nj n)) S7.cx rfl) (cM (by rw [iu (m:=1) rfl l1,l2];decide))) al)) (by simp)) fun s₆ v S6 h=>fin S6 h (by unfold wri;rw [hb,hb2,hb3];rfl)) (mK fun Z Z Z Z=>rfl)
theorem lJ {R:Result→Shared→Prop} {elt t0 i0 t1 i1:Expr} {scope:Scope} {pos:Pos} {it acc:Value} (I:Nat→Shared→Prop)
  (turn:∀ n s,I n s→wpAny (model prog w) A (pyNext it) (fun r s₁=>match r with
   | none=>R (.ok .next) s₁
   | some v=>wpAny (model prog w) A (letOwnedTupleGo t1 it v) (fun Z s₂=>wpAny (model prog w) A (assign t1 env v) (fun Z s₃ =>
      wpAny (model prog w) A (eval elt env) (fun x s₄ =>
       wpAny (model prog w) A (call (.builtin "list.append") [acc,x]) (fun Z s₅=>∃ m,m < n∧I m s₅) (fun Z Z=>False) s₄) (fun Z Z=>False) s₃) (fun Z Z=>False) s₂) (fun Z Z=>False) s₁) (fun Z Z=>False) s)
  (n:Nat) (h:I n s):codeAny (model prog w) A (.compLoop (.ListComp elt [⟨t0,i0,[],0⟩,⟨t1,i1,[],0⟩] scope pos) 1 it acc env) R s:=by
 revert turn h
 revert t1 i1 scope pos it acc I n
 revert prog w A env s R elt t0 i0;refine @(dr9 ?_);exists w9 _ _,prog,w,A,env,s,R,elt,t0,i0
 intro t1 i1 scope pos it acc I n
 revert t1 i1 scope pos it acc I n;refine @(dr8 ?_);exists w8 _ _,t1,i1,scope,pos,it,acc,I,n
 intro turn h
 refine codeAny_loop rfl I (fun n s hI=>?_) n h
 show wpAny _ A ((compTurn (.ListComp elt [⟨t0,i0,[],0⟩,⟨t1,i1,[],0⟩] scope pos) 1 it acc env).onRaise (fun x=>do noteFrame x env;theTreesLotGoes x)) _ _ s
 refine wpAny_noted ?_
 show wpAny _ A (do
  standAt i1.pos
  match ← pyNext it with
  | none=>pure (.done .next)
  | some v =>
   letOwnedTupleGo t1 it v
   assign t1 env v
   let ok ← forIn ([]:List Expr) true fun c r=>if r=true then do let ok ← isTrue c env (eval c env);pure (ForInStep.yield ok) else pure (ForInStep.yield r)
   if ok then do
    (do let _ ← call (.builtin "list.append") [acc,← eval elt env])
    again (.compLoop (.ListComp elt [⟨t0,i0,[],0⟩,⟨t1,i1,[],0⟩] scope pos) 1 it acc env)
   else again (.compLoop (.ListComp elt [⟨t0,i0,[],0⟩,⟨t1,i1,[],0⟩] scope pos) 1 it acc env)) _ _ s
 refine wpAny_bind (wpAny_standAt (wpAny_bind (wpAny_mono (turn n s hI) (fun r s₁ h₁=>?_) fun Z Z h'=>h'.elim)))
 cases r with
 | none=>exact wpAny_pure h₁
 | some v =>
  refine wpAny_bind (wpAny_mono h₁ (fun Z s₂ h₁=>?_) fun Z Z h'=>h'.elim)
  refine wpAny_bind (wpAny_mono h₁ (fun Z s₂ h₂=>wpAny_bind (wpAny_tests_nil ?_)) fun Z Z h'=>h'.elim)
  refine wT rfl ?_
  refine wpAny_bind (wpAny_bind (wpAny_mono h₂ (fun x s₄ h₄=>wpAny_bind (wpAny_mono h₄ (fun Z s₅ h₅=>wpAny_pure (wpAny_pure ⟨rfl,h₅⟩)) fun Z Z h'=>h'.elim)) fun Z Z h'=>h'.elim))
theorem q8 {R:Result→Shared→Prop} {elt t0 i0 t1 i1:Expr} {scope:Scope} {pos:Pos} {it acc:Value}
  (h0:codeAny (model prog w) A (.compLoop (.ListComp elt [⟨t0,i0,[],0⟩,⟨t1,i1,[],0⟩] scope pos) 1 it acc env) R s)
  (h:WP prog w A (pyIter it) (fun it' s'=>codeAny (model prog w) A (.compLoop (.ListComp elt [⟨t0,i0,[],0⟩,⟨t1,i1,[],0⟩] scope pos) 1 it' acc env) R s') s) :
  codeAny (model prog w) A (.compStart (.ListComp elt [⟨t0,i0,[],0⟩,⟨t1,i1,[],0⟩] scope pos) 1 it acc env) R s:=by
 refine codeAny_of_tree ?_
 show wpAny _ _ ((compStart (.ListComp elt [⟨t0,i0,[],0⟩,⟨t1,i1,[],0⟩] scope pos) 1 it acc env).onRaise (fun x=>do noteFrame x env;standAt theWindowsPlace)) _ _ s
 refine wpAny_notedAt ?_
 unfold compStart
 show wpAny _ _ (ask >>= _) _ _ s
 refine wpAny_bind (wpAny_askSetting (wpAny_ite ?_))
 split
 ·exact wpAny_pure (And.intro rfl h0)
 ·refine wpAny_bind (wpAny_rule ?_)
  show wpAny _ _ (standAt i1.pos >>= _) _ _ s
  exact wpAny_bind (wpAny_standAt (wpAny_bind (wpAny_mono h (fun it' s' h'=>wpAny_pure (And.intro rfl h')) fun Z Z x=>x.elim)))
theorem lK {R:Result→Shared→Prop} {elt t0 i0 t1 i1:Expr} {scope:Scope} {pos:Pos} {it acc:Value} (I:Nat→Shared→Prop)
  (turn:∀ n s,I n s→wpAny (model prog w) A (pyNext it) (fun r s₁=>match r with
   | none=>R (.ok .next) s₁
   | some v=>wpAny (model prog w) A (letOwnedTupleGo t0 it v) (fun Z s₂=>wpAny (model prog w) A (assign t0 env v) (fun Z s₃ =>
      wpAny (model prog w) A (eval i1 env) (fun x s₄=>wpAny (model prog w) A (pyIter x) (fun it' s₅ =>
       codeAny (model prog w) A (.compStart (.ListComp elt [⟨t0,i0,[],0⟩,⟨t1,i1,[],0⟩] scope pos) 1 it' acc env) (fun r s₆=>(∃ f,r=.ok f)∧∃ m,m < n∧I m s₆) s₅) (fun Z Z=>False) s₄) (fun Z Z=>False) s₃) (fun Z Z=>False) s₂) (fun Z Z=>False) s₁) (fun Z Z=>False) s)
  (hs:∀ x,foldedSetIterable i1 env x=pure x) (n:Nat) (h:I n s):codeAny (model prog w) A (.compLoop (.ListComp elt [⟨t0,i0,[],0⟩,⟨t1,i1,[],0⟩] scope pos) 0 it acc env) R s:=by
 revert turn hs h
 revert t1 i1 scope pos it acc I n
 revert prog w A env s R elt t0 i0;refine @(dr9 ?_);exists w9 _ _,prog,w,A,env,s,R,elt,t0,i0
 intro t1 i1 scope pos it acc I n
 revert t1 i1 scope pos it acc I n;refine @(dr8 ?_);exists w8 _ _,t1,i1,scope,pos,it,acc,I,n
 intro turn hs h
 refine codeAny_loop rfl I (fun n s hI=>?_) n h
 show wpAny _ A ((compTurn (.ListComp elt [⟨t0,i0,[],0⟩,⟨t1,i1,[],0⟩] scope pos) 0 it acc env).onRaise (fun x=>do noteFrame x env;theTreesLotGoes x)) _ _ s
 refine wpAny_noted ?_
 show wpAny _ A (do
  standAt i0.pos
  match ← pyNext it with
  | none=>pure (.done .next)
  | some v =>
   letOwnedTupleGo t0 it v
   assign t0 env v
   let ok ← forIn ([]:List Expr) true fun c r=>if r=true then do let ok ← isTrue c env (eval c env);pure (ForInStep.yield ok) else pure (ForInStep.yield r)
   if ok then do
    let x ← eval i1 env
    standAt i1.pos
    let x ← foldedSetIterable i1 env x
    let _ ← runOwn (.compStart (.ListComp elt [⟨t0,i0,[],0⟩,⟨t1,i1,[],0⟩] scope pos) 1 (← holding [x] (pyIter x)) acc env) env
    again (.compLoop (.ListComp elt [⟨t0,i0,[],0⟩,⟨t1,i1,[],0⟩] scope pos) 0 it acc env)
   else again (.compLoop (.ListComp elt [⟨t0,i0,[],0⟩,⟨t1,i1,[],0⟩] scope pos) 0 it acc env)) _ _ s
 refine wpAny_bind (wpAny_standAt (wpAny_bind (wpAny_mono (turn n s hI) (fun r s₁ h₁=>?_) fun Z Z h'=>h'.elim)))
 cases r with
 | none=>exact wpAny_pure h₁
 | some v =>
  refine wpAny_bind (wpAny_mono h₁ (fun Z s₂ h₁=>?_) fun Z Z h'=>h'.elim)
  refine wpAny_bind (wpAny_mono h₁ (fun Z s₂ h₂=>wpAny_bind (wpAny_tests_nil ?_)) fun Z Z h'=>h'.elim)
  refine wT rfl ?_
  refine wpAny_bind (wpAny_mono h₂ (fun x s₃ h₃=>wpAny_bind (wpAny_standAt (wpAny_bind (wpAny_of_eq (hs x) (wpAny_bind (wpAny_holding (wpAny_mono h₃ (fun it' s₄ h₄=>?_) fun Z Z h'=>h'.elim))))))) fun Z Z h'=>h'.elim)
  refine wpAny_bind (wpAny_runOwn (codeAny_mono h₄ fun r s₅ h₅=>?_))
  refine ai h₅ fun Z1 hm=>?_;clear h₅;refine ex11 Z1 fun f Z2=>?_;subst Z2;clear Z1
  exact wpAny_pure ⟨rfl,hm⟩
theorem i5 {p:Str×Bd}:∀ {τ τ':List (Str×Bd)},Covers (p::τ) τ'→Covers (p::τ) τ':=fun h=>h
theorem q9 {elt t0 i0 i1:Expr} {x1:Str} {px:Pos} {scope:Scope} {pos:Pos} {D':Addr} {acc es:List D} {g:D→D} {it:Value} {Q:Result→Shared→Prop}
  (S:Sx prog w s₀ env M X τ [(D',.lst acc)] s) (hi:EvI prog w A env X s i1 es) (hx:Own env x1) (hl:acc.length + es.length≤16777216) (hcov:∀ e,Covers ((x1,.d e)::τ) τ)
  (helt:∀ e∈es,∀ X' ω s',(∀ a∈X,a∈X')→Cx prog w env X' ((x1,.d e)::τ) ω s'→EvD prog w A env X' s' elt (g e))
  (h:∀ s',Keep M s s'→Sx prog w s₀ env M X τ [(D',.lst (acc++es.map g))] s'→Q (.ok .next) s') :
  WP prog w A (eval i1 env) (fun x s₄=>WP prog w A (pyIter x) (fun it' s₅=>codeAny (model prog w) A (.compStart (.ListComp elt [⟨t0,i0,[],0⟩,⟨.Name x1 px,i1,[],0⟩] scope pos) 1 it' (.ref D') env) Q s₅) s₄) s:=by
 revert S hi hx hl hcov helt h
 revert i1 x1 px scope pos D' acc es g it Q
 revert prog w A env M X τ s s₀ elt t0 i0;refine @(dr12 ?_);exists w12 _ _,prog,w,A,env,M,X,τ,s,s₀,elt,t0,i0
 intro i1 x1 px scope pos D' acc es g it Q
 revert i1 x1 px scope pos D' acc es g it Q;refine @(dr11 ?_);exists w11 _ _,i1,x1,px,scope,pos,D',acc,es,g,it,Q
 intro S hi hx hl hcov helt h
 refine wpAny_mono (hi s (Keep.refl _ _)) (fun v s₁ q=>wpAny_mono q.2 (fun it s₂ q₂=>?_) fun Z Z z=>z.elim) fun Z Z z=>z
 refine ai q₂ fun k₂ Z1=>?_;clear q₂;refine ex32 Z1 fun I wr St Z2 Z3=>?_;subst Z2;rcases Z3 with ⟨⟨fp,P,W,hfp,hP⟩,hst,hnew,hhi,hlive,hgo⟩;clear Z1
 have k₁:=q.1
 have S1:=S.keep k₁
 have S2:Sx prog w s₀ env M (wr++X) τ [(D',.lst acc)] s₂:=S1.avoid hnew k₂ (hlive _ _ hst) hhi
 have hwM:∀ b∈wr,b∉M:=fun b hb hm=>by
  have:=S1.cx.xlt b (S1.sub b hm)
  rw [hnew b hb] at this;exact nB this
 have hwC:∀ p∈env.cells,p.2∉wr:=fun p hp hm=>by
  have:=S1.cx.xlt _ (S1.cx.ok.cel p hp).1
  rw [hnew _ hm] at this;exact nB this
 have fin:∀ s',Keep (wr++M) s₂ s'→Keep M s s':=fun s' k=>((k₁.trans k₂).any.trans k).dropTo fun b hb=>(List.mem_append.mp hb).elim (fun h=>.inr (k₁.none_back (hnew b h))) .inl
 have loop:codeAny (model prog w) A (.compLoop (.ListComp elt [⟨t0,i0,[],0⟩,⟨.Name x1 px,i1,[],0⟩] scope pos) 1 (.ref I) (.ref D') env) Q s₂:=by
  refine lJ (fun n s'=>∃ i,n=es.length - i∧i≤es.length∧Keep (wr++M) s₂ s'∧Sx prog w s' env M (wr++X) τ [(D',.lst (acc++(es.take i).map g))] s'∧St i s'.heap) (fun n s' hI=>?_) es.length ⟨0,rfl,Nat.zero_le _,Keep.refl _ _,by simpa using S2.rebase,hst⟩
  refine ex15 hI fun i Z1 hil kI SI hSt=>?_;clear hI;subst Z1
  by_cases hlt:i < es.length
  ·refine W.item i s' _ _ hlt hSt fun v h₁ tk1 hPv hstA hkA=>?_
   refine ex12 (hP i v hPv) fun d hd hrd=>?_
   refine ai (SI.other (Y:=wr) hkA (fun b hb Z=>hlive _ _ hstA b hb) (fun b hb=>mL hb) hwM hwC (tk:=tk1)) fun Sa ka=>?_
   have hrd':Rd prog w h₁ (wr++X) d v:=hrd h₁ _ fun a o ha e=>by
    have haw:a∉wr:=fun hm=>by rw [hnew a hm] at e;exact nO e
    have h2:=k₂.heap a o (fun h=>nomatch h) e
    have h3:=kI.heap a o (fun hm=>(List.mem_append.mp hm).elim haw fun hm=>ha (S.sub a hm)) h2
    exact ⟨fun hm=>(List.mem_append.mp hm).elim haw ha,hkA a o haw h3⟩
   dsimp only
   refine wpAny_pure ?_
   refine wpAny_mono (au (d:=d) (A:=A) hx (wr++X) _ _ _ _ v _ Sa hrd' fun s₃ k₃ S3=>?_) (fun Z Z z=>z) fun Z Z z=>z.elim
   refine (helt d (List.mem_of_getElem? hd) (wr++X) _ s₃ (fun a ha=>mR ha) S3.cx).go fun y s₄ k₄ h₄=>?_
   have S4:=S3.keep k₄
   refine S4.append (ω1:=[]) (ω2:=[]) rfl (fun p hp=>nomatch hp) h₄ (by simp;lia) fun s₅ k₅ S5=>?_
   have hDM:D'∈M:=S.mown _ (.head _)
   have kk:Keep M s₃ s₅:=k₄.any.trans (k₅.more fun b hb=>by rw [ay hb];exact hDM)
   have kM:Keep (wr++M) s₂ s₅:=((kI.trans (ka.more fun b hb=>mL hb)).trans (k₃.more fun b hb=>mR hb)).trans (kk.more fun b hb=>mR hb)
   refine ⟨es.length - (i + 1),by lia,i + 1,rfl,hlt,kM,?_,W.frame _ _ _ hstA fun b hb o e=>?_⟩
   ·have e:acc++(es.take (i + 1)).map g=acc++(es.take i).map g++[g d]:=by rw [List.take_add_one,hd];simp
    rw [e]
    exact S5.rebase.cover (i5 (hcov d))
   ·have hbM:b∉M:=fun hm=>(hfp b hb).1 (S.sub b hm)
    exact kk.heap b o hbM (k₃.heap b o hbM e)
  ·have hi':i=es.length:=by lia
   subst hi'
   refine W.done s' _ _ hSt fun h₁ tk1 hkA=>?_
   dsimp only
   have k':=fin s' kI
   have hsw:∀ a,(s.heap.get? a).isSome=true→a∉wr:=fun a ha hm=>by rw [k₁.none_back (hnew a hm)] at ha;exact nB ha
   have kend:Keep M s { s' with heap:=h₁,toks:=tk1 }:=⟨fun a o ha e=>hkA a o (hsw a (by rw [e];rfl)) (k'.heap a o ha e),fun a ha=>by
    have:=k'.live a ha
    cases e:s'.heap.get? a with
    | none=>rw [e] at this;exact nB this
    | some o=>show (h₁.get? a).isSome=true;rw [hkA a o (hsw a ha) e];rfl,k'.gens,k'.bare,k'.os⟩
   rw [List.take_length] at SI
   exact h _ kend (SI.leave hkA (fun b hb hx=>by have:=S1.cx.xlt b hx;rw [hnew b hb] at this;exact nB this) S.sub (fun p hp=>(S.cx.ok.cel p hp).1) (S.base.trans kend))
 exact q8 loop (W.self 0 _ _ _ hst loop)
structure Comp2Ok (prog:Program) (w:World) (A:Around) (env:Env) (X:List Addr) (s:Shared) (x0 x1:Str) (i1 elt:Expr) (scope:Scope) (τ τf:List (Str×Bd)) (ds:List D) (es:D→List D) (g:D→D→D):Prop where
 free:∀ p∈scope.names,p.2=.free→(env.cells.lookup p.1).isSome=true
 freeK:∀ p∈scope.names,p.2=.free→env.kindOf p.1=some .cell∨env.kindOf p.1=some .free
 nodup:(scope.names.map (·.1)).Nodup
 kind:scope.kind=.function
 cov:Covers τ τf
 covF:((τf.map (·.1)).all fun x=>scope.names.lookup x == some .free && !(x == ("__classdict__":Str)))=true
 len:(ds.flatMap fun d=>(es d).map (g d)).length≤16777216
 own0:∀ cenv,Ce cenv scope→Own cenv x0
 own1:∀ cenv,Ce cenv scope→Own cenv x1
 cov0:∀ d,Covers ((x0,.d d)::τf) τf
 cov1:∀ d e,Covers ((x1,.d e)::(x0,.d d)::τf) ((x0,.d d)::τf)
 it1:∀ d∈ds,∀ cenv X' ω s',(∀ a∈X,a∈X')→Ce cenv scope→Cx prog w cenv X' ((x0,.d d)::τf) ω s'→EvI prog w A cenv X' s' i1 (es d)
 elt:∀ d∈ds,∀ e∈es d,∀ cenv X' ω s',(∀ a∈X,a∈X')→Ce cenv scope→Cx prog w cenv X' ((x1,.d e)::(x0,.d d)::τf) ω s'→EvD prog w A cenv X' s' elt (g d e)
theorem jM {i1 iter elt:Expr} {x0 x1:Str} {p0 p1:Pos} {scope:Scope} {pos:Pos} {τf:List (Str×Bd)} {ds:List D} {es:D→List D} {g:D→D→D} {use:Option (Value→Sem Unit)} {Q:Value→Shared→Prop}
  (c:Cx prog w env X τ ω s) (hi:EvI prog w A env X s iter ds) (ok:Comp2Ok prog w A env X s x0 x1 i1 elt scope τ τf ds es g) (hs1:∀ (cenv:Env) x,foldedSetIterable i1 cenv x=pure x)
  (fin:∀ D' C' s' m f vs n,s.heap.get? D'=none→s.heap.get? C'=none→D'≠C'→178≤D'→178≤C'→Keep [] s s'→s'.heap.get? D'=some (bo vs n)→RdL prog w s'.heap (D'::C'::X) (ds.flatMap fun d=>(es d).map (g d)) vs→s'.heap.Ns C' m →
   compPost (model prog w) A (fun Z Z=>False) use Q (.ref D') C' (.ok f) s') :
  WP prog w A (eval iter env) (fun x s₁=>WP prog w A (pyIter x) (fun it s₂=>WP prog w A (newList []) (fun acc s₃ =>
   WP prog w A (newFunctionEnv scope env.globals (bK env.cells scope.names []) [] env.qual none .none (some env)) (fun cenv s₄ =>
    codeAny (model prog w) A (.compStart (.ListComp elt [⟨.Name x0 p0,iter,[],0⟩,⟨.Name x1 p1,i1,[],0⟩] scope pos) 0 it acc { cenv with scope:=relabel scope env }) (compPost (model prog w) A (fun Z Z=>False) use Q acc cenv.locals) s₄) s₃) s₂) s₁) s:=by
 revert c hi ok hs1 fin
 revert x1 p0 p1 scope pos τf ds es g use Q
 revert prog w A env X τ ω s i1 iter elt x0;refine @(dr12 ?_);exists w12 _ _,prog,w,A,env,X,τ,ω,s,i1,iter,elt,x0
 intro x1 p0 p1 scope pos τf ds es g use Q
 revert x1 p0 p1 scope pos τf ds es g use Q;refine @(dr11 ?_);exists w11 _ _,x1,p0,p1,scope,pos,τf,ds,es,g,use,Q
 intro c hi ok hs1 fin
 refine mQ (O:=fun Z Z=>[]) (u0:=0) (σ:=fun d=>[(x0,.d d)]) (acc:=fun i=>(ds.take i).flatMap fun d=>(es d).map (g d))
  (It:=fun cenv ac K s=>WP prog w A (eval i1 cenv) (fun x s₄=>WP prog w A (pyIter x) (fun it' s₅=>codeAny (model prog w) A (.compStart (.ListComp elt [⟨.Name x0 p0,iter,[],0⟩,⟨.Name x1 p1,i1,[],0⟩] scope pos) 1 it' ac cenv) (fun r s₆=>(∃ f,r=.ok f)∧K s₆) s₅) s₄) s)
  c (fun Z h=>nomatch h) (fun Z Z=>rfl) hi ok.free ok.freeK ok.nodup ok.kind ok.cov ok.covF rfl (fun d Z=>ok.cov0 d) (fun d Z cenv M ce=>au (ok.own0 _ ce)) (fun cenv it ac R I turn n s h=>lK I turn (hs1 _) n h) (fun i d u hd hlt cenv M' X' D' s₅ K hXX ce Z S5 hK=>?_)
  fun D' C' s' m vs n Z h1 h2 h3 h4 h5 h6 h7 h8 Z h9=>fin D' C' s' m .next vs n h1 h2 h3 h4 h5 h6 h7 (by rw [List.take_length] at h8;exact h8) h9
 have hdm:d∈ds:=List.mem_of_getElem? hd
 have hstep:((ds.take (i + 1)).flatMap fun d=>(es d).map (g d))=((ds.take i).flatMap fun d=>(es d).map (g d))++(es d).map (g d):=by
  rw [List.take_add_one,hd];simp
 have hlen:((ds.take i).flatMap fun d=>(es d).map (g d)).length + (es d).length≤16777216:=by
  have h1:((ds.take (i + 1)).flatMap fun d=>(es d).map (g d)).length≤(ds.flatMap fun d=>(es d).map (g d)).length:=by
   conv=>rhs;rw [← List.take_append_drop (i + 1) ds]
   rw [List.flatMap_append,List.length_append];exact Nat.le_add_right _ _
  rw [hstep,List.length_append,List.length_map] at h1
  exact Nat.le_trans h1 ok.len
 refine q9 (t0:=.Name x0 p0) (i0:=iter) (px:=p1) (scope:=scope) (pos:=pos) (x1:=x1) (it:=.none) S5 (ok.it1 d hdm _ _ _ s₅ hXX ce S5.cx) (ok.own1 _ ce) hlen (fun e=>ok.cov1 d e) (fun e he X' ω s' hX' c'=>ok.elt d hdm e he _ _ _ s' (fun a ha=>hX' a (hXX a ha)) ce c') fun s₆ k₆ S6=>⟨⟨_,rfl⟩,hK s₆ 0 ?_⟩
 rw [hstep]
 exact S6
theorem re (S:Sx prog w s₀ env M X τ ω s) {y:Str} {py p:Pos} {i1 iter elt:Expr} {x0 x1:Str} {p0 p1:Pos} {scope:Scope} {pos:Pos} {τf:List (Str×Bd)} {ds:List D} {es:D→List D} {g:D→D→D} {rest:List Stmt} {Q:Flow→Shared→Prop}
  (hy:Own env y) (hsw:swapsWith (.ListComp elt [⟨.Name x0 p0,iter,[],0⟩,⟨.Name x1 p1,i1,[],0⟩] scope pos) (some (.Name y py)) p.line env=pure true)
  (hi:EvI prog w A env X s iter ds) (ok:Comp2Ok prog w A env X s x0 x1 i1 elt scope τ τf ds es g)
  (hnames:∀ x∈scope.names,x.2=.local→scope.names.lookup x.1=some .local)
  (h:∀ s',Sx prog w s₀ env M X ((y,.d (.lst (ds.flatMap fun d=>(es d).map (g d))))::τ) ω s'→WP prog w A (execs rest env) Q s')
  (hs1:autoParam (∀ (cenv:Env) x,foldedSetIterable i1 cenv x=pure x) tu._auto_1) (hs:autoParam (∀ x,foldedSetIterable iter env x=pure x) e8._auto_1) :
  WP prog w A (execs (.Assign [.Name y py] (.ListComp elt [⟨.Name x0 p0,iter,[],0⟩,⟨.Name x1 p1,i1,[],0⟩] scope pos) p::rest) env) Q s:=by
 revert S hy hsw hi ok hnames h hs1 hs
 revert iter elt x0 x1 p0 p1 scope pos τf ds es g rest Q
 revert prog w A env M X τ ω s s₀ y py p i1;refine @(dr14 ?_);exists w14 _ _,prog,w,A,env,M,X,τ,ω,s,s₀,y,py,p,i1
 intro iter elt x0 x1 p0 p1 scope pos τf ds es g rest Q
 revert iter elt x0 x1 p0 p1 scope pos τf ds es g rest Q;refine @(dr14 ?_);exists w14 _ _,iter,elt,x0,x1,p0,p1,scope,pos,τf,ds,es,g,rest,Q
 intro S hy hsw hi ok hnames h hs1 hs
 refine aK ?_
 rw [exec_Assign_Name_used _ _ _ _ hsw]
 refine wpAny_bind (wpAny_standAt (wpAny_bind ?_))
 show WP prog w A (comprehension (.ListComp elt [⟨.Name x0 p0,iter,[],0⟩,⟨.Name x1 p1,i1,[],0⟩] scope pos) scope env (firstIterPos [⟨.Name x0 p0,iter,[],0⟩,⟨.Name x1 p1,i1,[],0⟩] pos) (newList []) (firstAsync [⟨.Name x0 p0,iter,[],0⟩,⟨.Name x1 p1,i1,[],0⟩]) (firstIter [⟨.Name x0 p0,iter,[],0⟩,⟨.Name x1 p1,i1,[],0⟩] env) (some (assign (.Name y py) env)) >>= fun Z=>pure ()) _ s
 refine wpAny_bind (wpAny_mono (Q:=fun Z s'=>c5 prog w A env rest Q .next s') ?_ (fun Z s' q=>wpAny_pure (wpAny_pure q)) fun Z Z z=>z)
 refine wpAny_comprehension_free (g:=⟨.Name x0 p0,iter,[],0⟩) (gs:=[⟨.Name x1 p1,i1,[],0⟩]) rfl hs (bC ok.free) ok.kind hnames ?_
 refine jM (hs1:=hs1) (use:=some (assign (.Name y py) env)) S.cx hi ok fun D' C' s₁ m f vs n hD hC hDC hD178 hC178 k₁ hg hr hns=>?_
 have S1:=S.avoid (Y:=[C']) (fun a ha=>by rw [ay ha];exact hC) k₁ (fun a ha=>by rw [ay ha];exact bV hns) (fun a ha=>by rw [ay ha];exact hC178)
 have hDX:D'∉[C']++X:=fun hm=>by
  refine mA hm (fun hm=>?_) fun hm=>?_
  ·exact hDC (ay hm)
  ·exact S.cx.xlt.fresh hD hm
 have hrd:Rd prog w s₁.heap ([C']++X) (.lst (ds.flatMap fun d=>(es d).map (g d))) (.ref D'):=Rd.lst_ hDX hg (hr.less fun a ha=>by
  refine mA ha (fun ha=>?_) fun ha=>?_
  ·exact .tail _ (by rw [ay ha];exact .head _)
  ·exact .tail _ (.tail _ ha))
 show WP prog w A (assign (.Name y py) env (.ref D')) _ s₁
 have hCM:C'∉M:=fun hm=>S.cx.xlt.fresh hC (S.sub _ hm)
 refine wpAny_assign_Name (S1.store hy (b:=.d (.lst (ds.flatMap fun d=>(es d).map (g d)))) hrd fun s₂ k₂ S2=>⟨m,aW hns fun o e=>k₂.heap _ o hCM e,fun h' hsb=>?_⟩)
 have hk2:∀ b o,b∉[C']→s₂.heap.get? b=some o→h'.get? b=some o:=fun b o hb e=>(hsb.2 b fun z=>hb (by rw [z];exact .head _)).trans e
 have hback:∀ a,(s.heap.get? a).isSome=true→a∉[C']:=fun a ha hm=>by rw [ay hm,hC] at ha;exact nB ha
 have kk:=k₁.any (X:=M) |>.trans k₂
 have kend:Keep M s { s₂ with heap:=h' }:=⟨fun a o ha e=>hk2 a o (hback a (by rw [e];rfl)) (kk.heap a o ha e),fun a ha=>by
  refine iS (kk.live a ha) fun o ho=>?_
  show (h'.get? a).isSome=true;rw [hk2 a o (hback a ha) ho];rfl,kk.gens,kk.bare,kk.os⟩
 exact h _ (Sx.leave (tk:=s₂.toks) (Y:=[C']) S2 hk2 (fun b hb hx=>S.cx.xlt.fresh (by rw [ay hb];exact hC) hx) S.sub (fun p hp=>(S.cx.ok.cel p hp).1) (S.base.trans kend))
noncomputable def rf (i:Nat) (sc:Scope):Bool:=sc.names.all fun p=>!(p.2 == .free) || (((cellsFrom 0 (fnScope i).names []).lookup p.1).isSome && ((fnScope i).names.lookup p.1 == some .cell || (fnScope i).names.lookup p.1 == some .free))
theorem aE {i:Nat} {sc:Scope} (fe:Fe env i) (h:rf i sc=true):(∀ p∈sc.names,p.2=.free→(env.cells.lookup p.1).isSome=true)∧(∀ p∈sc.names,p.2=.free→env.kindOf p.1=some .cell∨env.kindOf p.1=some .free):=by
 have key:∀ p∈sc.names,p.2=.free→((cellsFrom 0 (fnScope i).names []).lookup p.1).isSome=true∧((fnScope i).names.lookup p.1=some .cell∨(fnScope i).names.lookup p.1=some .free):=fun p hp hf=>by
  have:=List.all_eq_true.mp h p hp
  rw [hf] at this
  simp only [beq_self_eq_true,Bool.not_true,Bool.false_or,Bool.and_eq_true,Bool.or_eq_true,beq_iff_eq] at this
  exact this
 exact ⟨fun p hp hf=>by rw [fe.ce];exact (key p hp hf).1,fun p hp hf=>by rw [fe.kind];exact (key p hp hf).2⟩
theorem cQ {i:Nat} {elt:Expr} {gens:List Comprehension} {sc:Scope} {pos px:Pos} {t:Str} {line:Nat} (fe:Fe env i) (hk:(fnScope i).kind=.function) (hx:(fnScope i).names.lookup t=some .local) (hl:(px.line == pos.line)=true) (hn:(sc.names.any fun (n,k)=>n == t && (k == .local || k == .cell))=false) :
  swapsWith (.ListComp elt gens sc pos) (some (.Name t px)) line env=pure true:=by
 have e1:(env.blockKind == .function)=true:=by unfold Env.blockKind;rw [fe.sc,hk];rfl
 have e2:(env.kindOf t == some .local)=true:=by rw [fe.kind,hx];rfl
 show (pure (env.blockKind == .function && env.kindOf t == some .local && px.line == pos.line && !(sc.names.any fun (n,k)=>n == t && (k == .local || k == .cell))):Sem Bool)=pure true
 rw [e1,e2,hl,hn];rfl
theorem jN {i:Nat} {elt:Expr} {gens:List Comprehension} {sc:Scope} {pos px:Pos} {t:Str} {line:Nat} (fe:Fe env i) (hx:(fnScope i).names.lookup t=some .cell) :
  swapsWith (.ListComp elt gens sc pos) (some (.Name t px)) line env=pure false:=by
 have e2:(env.kindOf t == some .local)=false:=by rw [fe.kind,hx];rfl
 show (pure (env.blockKind == .function && env.kindOf t == some .local && px.line == pos.line && !(sc.names.any fun (n,k)=>n == t && (k == .local || k == .cell))):Sem Bool)=pure false
 rw [e2,Bool.and_false];rfl
noncomputable def ordersL:Nat→List (List Int)
 | 0=>[[]]
 | p + 1=>(ordersL p).flatMap fun o=>(List.range (p + 1)).map fun k=>o.take k++[(p:Int)]++o.drop k
noncomputable def gO (place:Int):D→D→D
 | .lst l,.int k=>.lst (l.take k.toNat++[.int place]++l.drop k.toNat)
 | _,_=>.none
theorem eS (p:Nat):((ordersL p).map am).flatMap (fun d=>(aB 0 1 (p + 1)).map (gO p d))=(ordersL (p + 1)).map am:=by
 show _=List.map am (List.flatMap _ _)
 rw [List.map_flatMap,List.flatMap_map]
 refine congrArg (fun f=>List.flatMap f (ordersL p)) (funext fun o=>?_)
 rw [List.map_map,aB,List.map_map]
 refine List.map_congr_left fun k Z=>?_
 show D.lst _=D.lst _
 simp [List.map_take,List.map_drop]
theorem nk (n:Nat) (hn:n≤4):Fn prog w 1 167 [.int n] (.lst ((ordersL n).map am)):=by
 revert hn
 revert prog w n;refine @(dr3 ?_);exists w3 _ _,prog,w,n
 intro hn
 exact c7 (i:=23) (names:=["count"]) (by decide +kernel) (fun A s X env M s₁ ao g hsc hM hlo hce S=>by
  first | (revert ao g hsc hM hlo hce S;revert A s X env M s₁;refine @(dr6 ?_);exists w6 _ _,A,s,X,env,M,s₁;intro ao g hsc hM hlo hce S) | skip
  have fe:Fe env 23:=⟨hsc,hlo,hce⟩
  refine aC S (.lst [.lst []]) (fe.own rfl) (gF (ds:=[.lst []]) S.cx (aH (gF (ds:=[]) S.cx al) al)) fun s₂ S2=>?_
  refine fE S2 (ds:=aB 0 1 n) (bA S2.cx ao.h (aY _ S2.cx (fe.gl rfl) rfl) (aH (aa (.int (n:Int)) S2.cx rfl) al) (by exact Nat.lt_of_le_of_lt hn (by decide))) (fun i=>[("orders",.d (.lst ((ordersL i).map am)))]) (fun Z=>[]) (fun Z Z=>False) (fun i d=>[("place",.d d)]) ⟨rfl,trivial⟩ rfl
   (fun i d Z=>au (fe.ownC rfl rfl)) (fun i d X' s' hd hX S'=>?_) (fun s' S'=>?_) (fun Z Z Z h=>h.elim)
  ·refine ai (bG hd) fun hi Z1=>?_;subst Z1
   rw [Int.zero_add,Int.mul_one] at S'
   have hi4:i < 4:=by exact Nat.lt_of_lt_of_le hi hn
   have hl1:(ordersL i).length≤100∧((ordersL (i + 1)).map am).length≤100∧∀ o∈ordersL i,o.length≤10:=by
    (refine oQ (by lia:i=0∨i=1∨i=2∨i=3) (fun Z1=>?_) (fun Z1=>?_) (fun Z1=>?_) fun Z1=>?_ <;> subst Z1) <;> (refine ⟨by decide,by rw [List.length_map];decide,by decide⟩)
   refine re (τf:=[("place",.d (.int (i:Int)))]) (ds:=(ordersL i).map am) (es:=fun Z=>aB 0 1 (i + 1)) (g:=gO i) S' (fe.own rfl) (cQ fe (by decide +kernel) rfl rfl rfl) (bu S'.cx ao.h (aa (.lst ((ordersL i).map am)) S'.cx rfl)) ?_ (by decide +kernel) fun s₃ S3=>ax ?_
   ·refine ⟨(aE fe (by decide +kernel)).1,(aE fe (by decide +kernel)).2,by decide +kernel,by decide +kernel,⟨rfl,trivial⟩,by rfl,?_,fun cenv ce=>ce.st rfl,fun cenv ce=>ce.st rfl,fun d=>⟨rfl,trivial⟩,fun d e=>⟨rfl,rfl,trivial⟩,fun d hd cenv X'' ω s'' hX'' ce c=>?_,fun d hd e he cenv X'' ω s'' hX'' ce c=>?_⟩
    ·rw [eS];lia
    ·exact bA (n:=i + 1) c ao.h (aY _ c (ce.gl rfl) rfl) (aH ((aF c (aa (.int (i:Int)) c rfl) ag bR).to (by rfl)) al) (by exact Nat.lt_of_le_of_lt hi4 (by decide))
    ·refine mM hd fun o ho Z1=>?_;subst Z1
     refine mM he fun j hj Z1=>?_;subst Z1
     have hj':j < i + 1:=List.mem_range.mp hj
     have hol:=hl1.2.2 o ho
     have hlo':(o.map D.int).length≤16777216:=by rw [List.length_map];exact Nat.le_add_left_of_le hol
     have hk0:(0:Int)≤0 + (j:Int) * 1:=by exact Int.natCast_nonneg _
     refine (aF c (aF c (fD (ds:=o.map .int) (a:=none) (b:=some (0 + (j:Int) * 1)) (lo:=none) (hi:=some _) c (aa (am o) c rfl) trivial (aa (.int (0 + (j:Int) * 1)) c rfl) (fun Z h=>nomatch h) (fun x h=>by (refine sE h fun h=>?_;subst h);exact hk0) (.inl rfl) hlo')
      (gF (ds:=[.int i]) c (aH (aa (.int (i:Int)) c rfl) al) (by simp)) (fG ?_)) (fD (ds:=o.map .int) (a:=some (0 + (j:Int) * 1)) (b:=none) (lo:=some _) (hi:=none) c (aa (am o) c rfl) (aa (.int (0 + (j:Int) * 1)) c rfl) trivial (fun x h=>by (refine sE h fun h=>?_;subst h);exact hk0) (fun Z h=>nomatch h) (.inr rfl) hlo') (fG ?_)).to ?_
     ·show (List.take _ _).length + 1≤_
      rw [List.length_take,List.length_map];lia
     ·show (List.take _ _++[_]).length + (List.drop _ _).length≤_
      rw [List.length_append,List.length_take,List.length_drop,List.length_map]
      exact Nat.le_trans (Nat.add_le_add (Nat.add_le_add_right (Nat.min_le_right ..) 1) (Nat.sub_le ..)) (by lia)
     ·rfl
   ·rw [eS] at S3
    exact S3.cover ⟨rfl,trivial⟩
  ·rw [aq] at S'
   exact ca S' (aa (.lst ((ordersL n).map am)) S'.cx rfl) fun s₄ v S4 h=>⟨S4.base,h.less eR⟩) (mK fun Z Z Z Z=>rfl)
noncomputable def getV {K V:Type} [DecidableEq K] (kvs:List (K×V)) (k:K):Option V:=(kvs.find? fun kv=>kv.1=k).map (·.2)
theorem fN {K V:Type} [DecidableEq K] (f:V→D) (l:List (K×V)) (k:K) (v:V):dz (l.map fun p=>(p.1,f p.2)) k (f v)=(putN l k v).map fun p=>(p.1,f p.2):=by
 have e:(l.map fun p=>(p.1,f p.2)).any (fun kv=>decide (kv.1=k))=l.any (fun kv=>decide (kv.1=k)):=by simp [List.any_map,Function.comp_def]
 unfold dz putN
 rw [e]
 split
 ·simp only [List.map_map]
  refine List.map_congr_left fun p Z=>?_
  show (if p.1=k then (p.1,f v) else (p.1,f p.2))=_
  by_cases h:p.1=k <;> simp [h]
 ·simp
theorem dj {K V:Type} [DecidableEq K] (f:V→D) (l:List (K×V)) (k:K):cK (l.map fun p=>(p.1,f p.2)) k=(getV l k).map f:=by
 unfold cK getV
 induction l with
 | nil=>rfl
 | cons p r ih =>
  rw [List.map_cons,List.find?_cons,List.find?_cons]
  by_cases h:p.1=k
  ·simp [h]
  ·simp only [h,decide_false];exact ih
theorem bZ {K V:Type} [DecidableEq K] {l:List (K×V)} {k:K} {v:V} (h:getV l k=some v):(k,v)∈l:=by
 unfold getV at h
 refine mO h fun p h1 h2=>?_
 have h3:=List.find?_some h1
 have h4:=List.mem_of_find?_eq_some h1
 have:p.1=k:=of_decide_eq_true h3
 rw [← this,← h2];exact h4
theorem nn {K V:Type} [DecidableEq K] {P:V→Prop} {l:List (K×V)} {k:K} {v:V} (h:∀ p∈l,P p.2) (hv:P v):∀ p∈putN l k v,P p.2:=fun p hp=>by
 unfold putN at hp
 split at hp
 ·refine mM hp fun q hq Z1=>?_;subst Z1
  split
  ·exact hv
  ·exact h q hq
 ·refine mA hp (fun hp=>?_) fun hp=>?_
  ·exact h p hp
  ·rw [mS hp];exact hv
theorem uR {ke ve:Expr} {p:Pos} {k n:Int} (c:Cx prog w env X τ ω s) (hk:EvD prog w A env X s ke (.int k)) (hv:EvD prog w A env X s ve (.int n)):EvD prog w A env X s (.Dict [some ke] [ve] p) (.dci [(k,.int n)]):=by
 revert c hk hv
 revert prog w A env X τ ω s ke ve p k n;refine @(dr13 ?_);exists w13 _ _,prog,w,A,env,X,τ,ω,s,ke,ve,p,k,n
 intro c hk hv
 intro s' k'
 refine wpAny_Dict_pairs (knd:=intKind prog w) (pairs:=[(eval ke env,do let x ← eval ve env;standAt p;pure x)]) rfl (by simp) (by simp) ?_
 let s₂:Shared:={ s' with heap:=s'.heap.push { cls:=.type "dict",data:=.dict #[] } }
 have k₂:Keep [] s' s₂:=Keep.push (tk:=s'.toks)
 have hD:s₂.heap.DictOf (intKind prog w) s'.heap.objs.size []:=Heap.DictOf.new _
 show WP prog w A (evalPairs [(eval ke env,do let x ← eval ve env;standAt p;pure x)]) _ s₂
 unfold evalPairs
 refine wpAny_bind ((hk.keep (k'.trans k₂)).go fun kv s₃ k₃ h₃=>wpAny_bind (wpAny_holding (wpAny_bind ((hv.keep ((k'.trans k₂).trans k₃)).go fun vv s₄ k₄ h₄=>wpAny_bind (wpAny_standAt (wpAny_pure ?_))))))
 refine wpAny_bind (wpAny_holding (wpAny_pure (wpAny_pure ?_)))
 have c':=c.keep k'
 have k24:=k₃.trans k₄
 refine ⟨[(k,vv)],⟨dv h₃,rfl,trivial⟩,bt hD fun o e=>k24.heap _ o (fun h=>nomatch h) e,fun h' hd hs=>⟨?_,?_⟩⟩
 ·have hn:=af s'.heap
  refine ⟨fun a o Z e=>(hs.2 a fun z=>by rw [z,hn] at e;exact nO e).trans (k24.heap a o (fun h=>nomatch h) (k₂.heap a o (fun h=>nomatch h) e)),fun a ha=>?_,(k₂.trans k24).gens,(k₂.trans k24).bare,(k₂.trans k24).os⟩
  refine iS ha fun o e=>?_
  show (h'.get? a).isSome=true
  rw [(hs.2 a fun z=>by rw [z,hn] at e;exact nO e),(k24.heap a o (fun h=>nomatch h) (k₂.heap a o (fun h=>nomatch h) e))];rfl
 ·have hfr:=c'.gd.fresh
  refine Rd.dci_ (ps:=[(k,vv)]) hfr ⟨hd,?_⟩ ?_
  ·have:=c'.gd.top.size
   exact beq_eq_false_iff_ne.mpr fun e=>absurd this (by show ¬ 178≤s'.heap.objs.size;rw [show s'.heap.objs.size=1 from e];decide)
  ·unfold RdI
   refine Rd.intE h₄ fun t Z1=>?_;subst Z1
   exact ⟨_,[],rfl,Rd.int_,by unfold RdI;rfl⟩
noncomputable def bookStep (n:Nat) (share:Int) (b:List (Str×Ent)) (e:Int×Str):List (Str×Ent) :=
 putN b e.2 (lA ((getV b e.2).getD ⟨0,0,0,0,[]⟩) ⟨1 - 2 * (((n:Int) + 1 - (partsL e.1 n).length).fmod 2),1,(1 - 2 * (((n:Int) + 1 - (partsL e.1 n).length).fmod 2)) * share,(partsL e.1 n).length,[(e.1,1)]⟩)
noncomputable abbrev dB (b:List (Str×Ent)):List (Str×D):=b.map fun p=>(p.1,p.2.d)
noncomputable abbrev dE (l:List (Int×Str)):D:=.lst (l.map fun p=>.tup [.int p.1,.str p.2])
theorem lL (t:List (Int×Int)) (c:Int):(pe t [(c,1)]).length≤t.length + 1:=by
 have h1:(t.foldl bS []).length≤t.length:=by
  have:=de (fun acc p=>bY acc p.1 p.2) t []
  have:(t.foldl bS []).length≤[].length + t.length:=this
  simpa using this
 have h2:=gM (t.foldl bS []) (c,1)
 show (cB (t.foldl bS []) (c,1)).length≤_
 lia
theorem pp (n:Nat) (share:Int) (l:List (Int×Str)):∀ i,∀ p∈(l.take i).foldl (bookStep n share) [],p.2.cs.length≤i:=by
 intro i
 induction i with
 | zero=>intro p hp;exact nM hp
 | succ i ih =>
  intro p hp
  cases hl:l[i]? with
  | none =>
   have:l.take (i + 1)=l.take i:=by
    rw [List.take_add_one,hl];simp
   rw [this] at hp
   exact Nat.le_succ_of_le (ih p hp)
  | some e =>
   rw [bv hl] at hp
   refine nn (P:=fun v=>v.cs.length≤i + 1) (fun q hq=>Nat.le_succ_of_le (ih q hq)) ?_ p hp
   have:((getV ((l.take i).foldl (bookStep n share) []) e.2).getD ⟨0,0,0,0,[]⟩).cs.length≤i:=by
    cases hg:getV ((l.take i).foldl (bookStep n share) []) e.2 with
    | none=>exact Nat.zero_le _
    | some v=>exact ih _ (bZ hg)
   exact Nat.le_trans (lL _ _) (Nat.succ_le_succ this)
theorem ef (n:Nat) (share:Int) (l:List (Int×Str)):∀ i,((l.take i).foldl (bookStep n share) []).length≤i:=by
 intro i
 induction i with
 | zero=>exact Nat.le_refl _
 | succ i ih =>
  cases hl:l[i]? with
  | none =>
   have:l.take (i + 1)=l.take i:=by rw [List.take_add_one,hl];simp
   rw [this];exact Nat.le_succ_of_le ih
  | some e=>rw [bv hl];exact Nat.le_trans (bY _ _ _) (Nat.succ_le_succ ih)
noncomputable def gW (n:Nat):D→D
 | .int c=>.int (partsL c n).length
 | _=>.none
theorem rg (l:List (Int×Str)) (n:Nat) (share:Int) (hn:n≤3) (hl:l.length≤900) (hc:∀ p∈l,0≤p.1∧p.1 < 2 ^ n):Fn prog w 3 162 [dE l,.int ((n:Int) + 1),.int share] (.dcs (dB (l.foldl (bookStep n share) []))):=by
 revert hn hl hc
 revert prog w l n share;refine @(dr5 ?_);exists w5 _ _,prog,w,l,n,share
 intro hn hl hc
 exact c7 (i:=22) (names:=["ends", "count", "share"]) (by decide +kernel) (fun A s X env M s₁ ao g hsc hM hlo hce S=>by
  first | (revert ao g hsc hM hlo hce S;revert A s X env M s₁;refine @(dr6 ?_);exists w6 _ _,A,s,X,env,M,s₁;intro ao g hsc hM hlo hce S) | skip
  have fe:Fe env 22:=⟨hsc,hlo,hce⟩
  have h2n:(2:Nat) ^ n≤8:=by (refine oQ (by lia:n=0∨n=1∨n=2∨n=3) (fun Z1=>?_) (fun Z1=>?_) (fun Z1=>?_) fun Z1=>?_ <;> subst Z1) <;> decide
  have gf:∀ {cenv:Env} {X':List Addr} {τ':List (Str×Bd)} {ω':List (Addr×OD)} {s':Shared} {p:Pos},Cx prog w cenv X' τ' ω' s'→τ'.lookup ("count":Str)=some (Bd.d (.int ((n:Int) + 1)))→EvD prog w A cenv X' s' (.Name "count" p) (.int ((n:Int) + 1)):=fun c h=>aa _ c h
  refine kG (τf:=[("count",.d (.int ((n:Int) + 1)))]) (ds:=aB 0 1 (2 ^ n)) (σ:=fun d=>[("cut",.d d)]) (pz:=fun Z=>true) (g:=gW n) S (fe.own rfl) (cQ fe (by decide +kernel) rfl rfl rfl)
   (bA (n:=2 ^ n) S.cx ao.h (aY _ S.cx (fe.gl rfl) rfl) (aH ((aF S.cx (ag (i:=2)) (aF S.cx (gf S.cx rfl) ag cO) (iW (by lia) (by lia) (by decide))).to (congrArg D.int (by rw [Int.add_sub_cancel];simp))) al) (by exact Nat.lt_of_le_of_lt h2n (by decide))) ?_ (by decide +kernel) fun s₂ S2=>?_
  ·refine ⟨(aE fe (by decide +kernel)).1,(aE fe (by decide +kernel)).2,by decide +kernel,by decide +kernel,⟨rfl,trivial⟩,by rfl,by rw [aq];exact Nat.le_add_left_of_le h2n,fun d hd=>⟨rfl,trivial⟩,fun d hd cenv M ce=>au (ce.st rfl),fun d hd cenv X'' ω s'' hX'' ce c=>bH,fun d hd Z cenv X'' ω s'' hX'' ce c=>?_⟩
   refine mM hd fun j hj Z1=>?_;subst Z1
   have hpl:=cm (cut:=(0 + (j:Int) * 1)) (n:=n)
   exact (gG (ds:=(partsL (0 + (j:Int) * 1) n).map .int) c (aY _ c (ce.gl rfl) rfl) (aH (b5 (i:=15) c (ao.less (by decide)) (kJ (0 + (j:Int) * 1) n (by exact Nat.lt_of_le_of_lt hn (by decide))) (by decide) (bj _ c (ce.gl rfl) rfl) (aH (aa (.int (0 + (j:Int) * 1)) c rfl) (aH (gf c rfl) al))) al) (by rw [List.length_map];lia)).to (by rw [List.length_map];rfl)
  rw [List.filter_eq_self.mpr (fun Z Z=>rfl)] at S2
  refine iq S2 (fe.own rfl) fun a s₃ ha S3=>?_
  let τw:List (Str×Bd):=[("book",.v (.ref a)),("widths",.d (.lst ((aB 0 1 (2 ^ n)).map (gW n)))),("count",.d (.int ((n:Int) + 1))),("share",.d (.int share))]
  refine fE S3 (ds:=l.map fun p=>.tup [.int p.1,.str p.2]) (bu S3.cx ao.h (aa (dE l) S3.cx rfl)) (fun Z=>τw) (fun i=>[(a,.dcs (dB ((l.take i).foldl (bookStep n share) [])))]) (fun Z Z=>False) (fun i d=>match d with | .tup ds=>gq ["cut", "text"] ds [] | _=>[])
   ⟨rfl,rfl,rfl,rfl,trivial⟩ rfl (fun i d hd=>?_) (fun i d X' s' hd hX S'=>?_) (fun s' S'=>?_) (fun Z Z Z h=>h.elim)
  ·rw [List.getElem?_map] at hd
   refine mO hd fun e he Z1=>?_;subst Z1
   exact d7 [("cut",_),("text",_)] ao.h (fun x hx=>by
    refine mC hx (fun Z1=>?_) fun hx=>?_;subst Z1
    ·exact fe.own rfl
    ·rw [mS hx];exact fe.own rfl) rfl
  ·rw [List.getElem?_map] at hd
   refine mO hd fun e he Z1=>?_;subst Z1
   refine ai (hc e (List.mem_of_getElem? he)) fun hc0 hc1=>?_
   let bk:=(l.take i).foldl (bookStep n share) []
   let wd:Int:=(partsL e.1 n).length
   let sg:Int:=1 - 2 * (((n:Int) + 1 - wd).fmod 2)
   have hr:=ba (a:=(n:Int) + 1 - wd) (b:=2) (by decide)
   have hwd:∀ {s':Shared} {τ':List (Str×Bd)} {X':List Addr} {ω':List (Addr×OD)} {p:Pos} {q q':Pos},Cx prog w env X' τ' ω' s'→τ'.lookup ("widths":Str)=some (Bd.d (.lst ((aB 0 1 (2 ^ n)).map (gW n))))→τ'.lookup ("cut":Str)=some (Bd.d (.int e.1))→EvD prog w A env X' s' (.Subscript (.Name "widths" q) (.Name "cut" q') p) (.int wd):=fun c h1 h2=>by
    have hlt:e.1.toNat < 2 ^ n:=by
     have:((2 ^ n:Nat):Int)=2 ^ n:=by simp
     lia
    refine cH c (aa _ c h1) (aa _ c h2) (dM hc0 ?_ (by rw [List.length_map,aq];exact Nat.le_add_left_of_le h2n))
    rw [List.getElem?_map]
    simp only [aB,List.getElem?_map,List.getElem?_range hlt,Option.map_some]
    have e1:(0 + ((e.1.toNat:Nat):Int) * 1)=e.1:=by lia
    rw [e1];rfl
   refine aC S' (.int sg) (fe.own rfl) (aF S'.cx ag (aF S'.cx ag (aF S'.cx (aF S'.cx (gf S'.cx rfl) (hwd S'.cx rfl rfl) cO) ag (fv (by decide))) (iV (IntMulOk.of_left (by decide)))) cO) fun s₄ S4=>?_
   have hsg:sg=1∨sg=-1:=by show 1 - 2 * _=_∨1 - 2 * _=_;lia
   refine aC S4 (Ent.d ⟨sg,1,sg * share,wd,[(e.1,1)]⟩) (fe.own rfl) (bp (ds:=[.int sg,.int 1,.int (sg * share),.int wd,.dci [(e.1,.int 1)]]) S4.cx
    (aH (aa (.int sg) S4.cx rfl) (aH ag (aH (aF S4.cx (aa (.int sg) S4.cx rfl) (aa (.int share) S4.cx rfl) (iV (IntMulOk.of_left (by refine bQ hsg (fun h=>?_) fun h=>?_ <;> (rw [h];decide))))) (aH (hwd S4.cx rfl rfl) (aH (uR (n:=1) S4.cx (aa (.int e.1) S4.cx rfl) ag) al))))) (by simp)) fun s₅ S5=>?_
   have hbk:bk.length≤i:=ef n share l i
   have hil:i < l.length:=(List.getElem?_eq_some_iff.mp he).1
   have hcs:((getV bk e.2).getD ⟨0,0,0,0,[]⟩).cs.length≤1000:=by
    cases hg:getV bk e.2 with
    | none=>exact Nat.zero_le _
    | some v=>have:=pp n share l i _ (bZ hg);exact Nat.le_trans this (by lia)
   have hgd:(cK (dB bk) e.2).getD (Ent.d ⟨0,0,0,0,[]⟩)=((getV bk e.2).getD ⟨0,0,0,0,[]⟩).d:=by
    rw [dj Ent.d];cases getV bk e.2 <;> rfl
   refine mW (ω1:=[]) (ω2:=[]) (k:=e.2) (d:=(lA ((getV bk e.2).getD ⟨0,0,0,0,[]⟩) ⟨sg,1,sg * share,wd,[(e.1,1)]⟩).d) S5 (b5 (i:=1) S5.cx ao (qX _ _ hcs (by simp)) (by decide) (bj _ S5.cx (fe.gl rfl) rfl)
    (aH ((sj (o:=.Constant .none 0 ⟨0,0,0,0⟩) (kvs:=dB bk) (k:=e.2) (df:=Ent.d ⟨0,0,0,0,[]⟩) S5.cx rfl (.head _) (S5.sysS (.head _)) (aH (aa (.str e.2) S5.cx rfl) (aH (bp (ds:=[.int 0,.int 0,.int 0,.int 0,.dci []]) S5.cx (aH ag (aH ag (aH ag (aH ag (aH (uQ S5.cx) al)))))) al))).to hgd)
     (aH (aa (Ent.d ⟨sg,1,sg * share,wd,[(e.1,1)]⟩) S5.cx rfl) al))) (az (.ref a) S5.cx rfl) (aa (.str e.2) S5.cx rfl) rfl (by simp) (by rw [List.length_map];have hbk':((l.take i).foldl (bookStep n share) []).length≤i:=hbk;lia) fun s₆ S6=>ax ?_
   rw [fN Ent.d] at S6
   show Sx _ _ _ _ _ _ _ _ _
   rw [bv he]
   exact S6.cover ⟨rfl,rfl,rfl,rfl,trivial⟩
  ·rw [List.length_map,List.take_length] at S'
   exact ca S' (az (.ref a) S'.cx rfl) fun s₄ v S4 e=>e ▸ S4.retDS g (S2.base.none_back ha) (.head _)) (qR fun Z Z Z Z Z Z=>rfl)
noncomputable def nd:Code→Bool
 | .builtin id _=>!Builtin.Bytes.decodersThatHold.contains id
 | _=>true
noncomputable def NDx (Γ:Ctx):Prop:=nd Γ.code=true∧∀ x∈Γ.below,nd x.1=true
noncomputable def bM {α:Type} (M:Model) (A:Around) (t:Sem α) (Q:α→Shared→Prop) (E:Value→Shared→Prop) (s:Shared):Prop :=
 ∀ Γ p,Γ.In A→NDx Γ→Sem.wp M Γ t (fun a Z s'=>Q a s') (fun e Z s'=>E e s') p s
noncomputable def bT (M:Model) (A:Around) (c:Code) (R:Result→Shared→Prop) (s:Shared):Prop :=
 ∀ Γ p,Γ.code=c→Γ.Below A→NDx Γ→wpCode M Γ R p s
section
variable {α β:Type} {M:Model} {A:Around} {E:Value→Shared→Prop} {s:Shared}
theorem nT {α:Type} {M:Model} {A:Around} {E:Value→Shared→Prop} {Q:α→Shared→Prop} {s:Shared} {c:Prop} [Decidable c] {x y:Sem α} (n:c) (h:bM M A x Q E s):bM M A (ite c x y) Q E s:=by rw [if_pos n];exact h
theorem nF {α:Type} {M:Model} {A:Around} {E:Value→Shared→Prop} {Q:α→Shared→Prop} {s:Shared} {c:Prop} [Decidable c] {x y:Sem α} (n:¬ c) (h:bM M A y Q E s):bM M A (ite c x y) Q E s:=by rw [if_neg n];exact h
theorem aT {t:Sem α} {Q:α→Shared→Prop} (h:wpAny M A t Q E s):bM M A t Q E s:=fun Γ p hΓ Z=>h Γ p hΓ
theorem nq {c:Code} {R:Result→Shared→Prop} (h:codeAny M A c R s):bT M A c R s:=fun Γ p hc hΓ Z=>h Γ p hc hΓ
theorem av {t:Sem α} {Q Q':α→Shared→Prop} {E':Value→Shared→Prop} (h:bM M A t Q E s) (hQ:∀ a s,Q a s→Q' a s) (hE:∀ e s,E e s→E' e s):bM M A t Q' E' s :=
 fun Γ p hΓ hN=>Sem.wp_mono M Γ t (fun a Z s=>hQ a s) (fun e Z s=>hE e s) p s (h Γ p hΓ hN)
theorem aw {m:Sem α} {f:α→Sem β} {Q:β→Shared→Prop} (h:bM M A m (fun a s'=>bM M A (f a) Q E s') E s):bM M A (m >>= f) Q E s:=fun Γ p hΓ hN=>by
 rw [Sem.wp_bind']
 exact Sem.wp_mono M Γ m (fun a p' s' h'=>h' Γ p' hΓ hN) (fun Z Z Z h'=>h') p s (h Γ p hΓ hN)
theorem an {m:Sem α} {f:α→Sem β} {Q:β→Shared→Prop} (h:wpAny M A m (fun a s'=>bM M A (f a) Q E s') E s):bM M A (m >>= f) Q E s:=aw (aT h)
theorem aI {a:α} {Q:α→Shared→Prop} (h:Q a s):bM M A (pure a) Q E s:=fun Z Z Z Z=>h
theorem bq {vs:List Value} {m:Sem α} {Q:α→Shared→Prop} (h:bM M A m Q E s):bM M A (holding vs m) Q E s:=fun Γ p hΓ hN=>by rw [Sem.wp_holding];exact h Γ p hΓ hN
theorem dk {pos:Pos} {Q:Unit→Shared→Prop} (h:Q () s):bM M A (standAt pos) Q E s:=fun Z Z Z Z=>h
theorem dm {m:Sem α} {k:Value→Sem Unit} {Q:α→Shared→Prop} (h:bM M A m Q (fun e s'=>bM M A (k e) (fun Z s''=>E e s'') E s') s):bM M A (m.onRaise k) Q E s:=fun Γ p hΓ hN=>by
 rw [Sem.wp_onRaise]
 exact Sem.wp_mono M Γ m (fun Z Z Z h'=>h') (fun e p' s' h'=>h' Γ p' hΓ hN) p s (h Γ p hΓ hN)
theorem nr {t t':Sem α} {Q:α→Shared→Prop} (e:t=t') (h:bM M A t' Q E s):bM M A t Q E s:=by rw [e];exact h
theorem NDx.enter {Γ:Ctx} (h:NDx Γ) {c:Code} {hd:Option Value} {p:Pos} (hc:nd c=true):NDx (Γ.enter c hd p):=⟨hc,fun x hx=>by
 refine mC (show x∈(Γ.code,p)::Γ.below from hx) (fun Z1=>?_) fun hx=>?_;subst Z1
 ·exact h.1
 ·exact h.2 x hx⟩
theorem jO {c:Code} {R R':Result→Shared→Prop} (h:bT M A c R s) (hR:∀ r s,R r s→R' r s):bT M A c R' s:=fun Γ p hc hΓ hN=>wpCode_mono hR (h Γ p hc hΓ hN)
theorem pq {c:Code} {h:Option Value} {Q:Flow→Shared→Prop} (hn:nd c=true) (hc:bT M (A.mark h) c (fun r s'=>match r with | .ok f=>Q f s' | .error e=>E e s') s) (hnb:h≠some byPass:=by intro x;cases x):bM M A (run c h) Q E s :=
 fun Γ p hΓ hN=>by rw [Sem.wp_run];exact hc _ p rfl (hΓ.enter c h p hnb) (hN.enter hn)
theorem iw {c:Code} {Q:Value→Shared→Prop} (hn:nd c=true) (hc:bT M A c (fun r s'=>match r with | .ok (.ret v)=>Q v s' | .ok _=>False | .error e=>E e s') s):bM M A (runValue c) Q E s :=
 fun Γ p hΓ hN=>by rw [Sem.wp_runValue];exact hc _ p rfl (hΓ.enter c none p (by intro x;exact nO x)) (hN.enter hn)
theorem fO {f:Value} {pos:List Value} {kw:List (Str×Value)} {Q:Value→Shared→Prop} (hc:bT M A (.call f ⟨pos,kw⟩) (fun r s'=>match r with | .ok (.ret v)=>Q v s' | .ok _=>False | .error e=>E e s') s):bM M A (call f pos kw) Q E s:=iw rfl hc
theorem bg {c:Code} {R:Result→Shared→Prop} (hn:∀ c',nd c'=true∨True)
  (h:bM M (A.under c) (M.den c) (fun fin s'=>match fin with | .done f=>R (.ok f) s' | .again c'=>c'.quiet=true∧nd c'=true∧bT M A c' R s') (fun e s'=>R (.error e) s') s):bT M A c R s:=fun Γ p hc hΓ hN=>by
 rw [wpCode_iff_wp,hc]
 refine Sem.wp_mono M Γ _ (fun fin p' s' h'=>?_) (fun Z Z Z h'=>h') p s (h Γ p (hc ▸ hΓ.in) hN)
 cases fin with
 | done f=>exact h'
 | again c'=>exact ⟨h'.1,h'.2.2 (Γ.goto c') p' rfl (hΓ.goto c') ⟨h'.2.1,hN.2⟩⟩
theorem iy {f:Code×Pos→Bool} {g:List Code} {Q:Bool→Shared→Prop} (hg:A.guards=some g) (hf:∀ c p,c.isGuard=false→nd c=true→f (c,p)=false) (hno:∀ c∈g,∀ p,f (c,p)=false) (h:Q false s) :
  bM M A (do return (← stack).any f) Q E s:=fun Γ p hΓ hN=>by
 show Q (((Γ.code,p)::Γ.below).any f) s
 have key:((Γ.code,p)::Γ.below).any f=false:=by
  rw [List.any_eq_false]
  intro x hx
  obtain ⟨c,q⟩:=x
  have hnd:nd c=true:=by
   refine mC hx (fun e=>?_) fun hx=>?_
   ·cases e;exact hN.1
   ·exact hN.2 _ hx
  cases hgd:c.isGuard with
  | false=>rw [hf c q hgd hnd];decide
  | true =>
   have hm:c∈g:=by
    have e:=hΓ.2.2.2.1 g hg
    rw [← guardsOf_cons Γ.code p] at e
    rw [← e]
    exact List.mem_filter.mpr ⟨List.mem_map.mpr ⟨(c,q),hx,rfl⟩,hgd⟩
   rw [hno c hm q];decide
 rw [key];exact h
end
namespace BA
theorem tM:mroOf (.type "bytearray")=pure [.type "bytearray",.type "object"]:=by rw [mroOf_type];kernel_rfl
theorem jP:typeLookup (.type "bytearray") "__new__"=pure (some (.builtin "bytearray.__new__")):=by rw [typeLookup_type,builtinLookup_eq_fast];kernel_rfl
theorem cR:Slot "bytearray" "__init__" "bytearray.__init__" :=
 .of (owner:="bytearray") (n:="__init__") (by rw [typeLookup_type,builtinLookup_eq_fast];kernel_rfl) (by decide +kernel) (by decide +kernel) (by decide +kernel)
  (by first | exact .inl (by decide +kernel) | exact .inr (by decide +kernel)) (by rw [isSubtype_type];kernel_rfl)
theorem jQ:TypeCalled "bytearray" "bytearray.__new__" "bytearray.__init__" :=
 ⟨by decide +kernel,by decide +kernel,⟨_,_,tM⟩,madeBy_type tM jP (by decide +kernel),by decide +kernel,by rw [isSubtype_type];kernel_rfl,cR⟩
theorem nt (a:Value):checkTypeCall "bytearray" ⟨[a],[]⟩=pure ():=by kernel_rfl
theorem pu (a:Value):checkBuiltinCall "bytearray.__new__" ⟨[.type "bytearray",a],[]⟩=pure ():=by kernel_rfl
theorem lM:entryFor table "bytearray.__new__"=some Builtin.«list.__new__»:=entryFor_alias (id':="list.__new__") (by rw [fastTable_eq_tree];kernel_rfl) (by first | rfl | decide +kernel) (by decide +kernel) (by rw [fastTable_eq_tree];kernel_rfl)
theorem jR:entryFor table "bytearray.__init__"=some Builtin.«bytearray.__init__»:=entryFor_of_tree (by kernel_rfl)
theorem lN (a b:Value):argsOk "bytearray.__init__" ⟨[a,b],[]⟩:=by unfold argsOk;kernel_rfl
theorem gU:plainId "bytearray.__new__"=true:=by decide +kernel
theorem sub:isSubtype (.type "bytearray") (.type "bytearray")=pure true:=by rw [isSubtype_type];kernel_rfl
theorem owner:("bytearray.__new__".splitOn ".__new__").headD ""="bytearray":=by simp +decide [String.splitOn,String.splitOnAux]
noncomputable abbrev obj (b:Array UInt8):Obj:={ cls:=.type "bytearray",data:=.bytearray b }
section
variable {E:Value→Shared→Prop}
theorem nu (a:Value) {Q₁:Value→Shared→Prop} (h:Q₁ (.ref s.heap.objs.size) { s with heap:=s.heap.push (obj #[]) }) :
  codeAny (model prog w) A (.call (.builtin "bytearray.__new__") ⟨[.type "bytearray",a],[]⟩) (wants Q₁ E) s:=by
 revert h
 revert prog w A s E a Q₁;refine @(dr7 ?_);exists w7 _ _,prog,w,A,s,E,a,Q₁
 intro h
 refine codeAny_of_tree ?_
 show wpAny _ A.in1 (do checkBuiltinCall "bytearray.__new__" ⟨[.type "bytearray",a],[]⟩;again (.builtin "bytearray.__new__" ⟨[.type "bytearray",a],[]⟩)) _ _ s
 refine wpAny_bind (wpAny_of_eq (pu a) (wpAny_pure ⟨plainId_quiet gU _,codeAny_builtin_stack lM rfl fun p st=>?_⟩))
 rw [Around.under_plainId gU _]
 have hsub:=sub
 have hown:=owner
 obtain ⟨hp,g,d,tk,os⟩:=s
 dsimp only
 rw [hown]
 wp_walk
 exact h
theorem jS:typeLookup (.type "bytearray") "__release_buffer__"=pure (some (.builtin "bytearray.__release_buffer__")):=by rw [typeLookup_type,builtinLookup_eq_fast];kernel_rfl
theorem lO (v:Value):Builtin.Bytes.bindOptional "bytearray.__init__" "bytearray" ["source", "encoding", "errors"] [v] []=pure [some v,none,none]:=by kernel_rfl
theorem lP:typeLookup (.type "int") "__index__"=pure (some (.builtin "int.__index__")):=by rw [typeLookup_type,builtinLookup_eq_fast];kernel_rfl
theorem eT {a:Addr} {o:Obj} (ho:s.heap.get? a=some o) (hc:o.cls=.type "bytearray") {Q:Bool→Shared→Prop} (h:Q false s):wpAny (model prog w) A (Builtin.Bytes.ownRelease (.ref a)) Q E s:=by
 have hT:s.TypeIs (.ref a) "bytearray":=⟨o,ho,hc⟩
 unfold Builtin.Bytes.ownRelease Builtin.Bytes.slotIsOwn
 refine wpAny_bind (wpAny_bind (wpAny_specialOf hT jS ?_))
 dsimp only
 refine wF (by decide +kernel) ?_
 rw [show "bytearray.__release_buffer__".dropRight ("__release_buffer__".length + 1)="bytearray" by decide +kernel]
 exact wpAny_isInstance hT sub (wpAny_pure h)
theorem fP {a:Addr} {b c:Array UInt8} {f:Array UInt8→Array UInt8} (ho:s.heap.get? a=some (obj b)) (hf:f b=c) (hz:c.size≤16777216) {Q:Unit→Shared→Prop}
  (h:Q () { s with heap:=s.heap.update a (Obj.mapBytearray f) }):wpAny (model prog w) A (Builtin.Bytes.write (.ref a) f) Q E s:=by
 show wpAny _ _ (updateBytearray a f) _ _ _
 unfold updateBytearray
 refine wpAny_bind (wpAny_load ho ?_)
 show wpAny _ _ (update a (Obj.mapBytearray f) >>= fun Z=>lookBehind a) _ _ _
 refine wpAny_bind (wpAny_update ho ?_)
 have h₂:(s.heap.update a (Obj.mapBytearray f)).get? a=some (obj c):=by
  rw [← hf];exact Heap.get?_update_self (Obj.mapBytearray f) ho rfl
 refine wpAny_lookBehind h₂ ?_ h
 show (if c.size > sizeLine then some "bytearray:memory" else none)=none
 rw [if_neg];rw [aM];lia
theorem at_write {a:Addr} {b c:Array UInt8} {f:Array UInt8→Array UInt8} {h:Heap} (ho:h.get? a=some (obj b)) (hf:f b=c):(h.update a (Obj.mapBytearray f)).get? a=some (obj c):=by
 rw [← hf];exact Heap.get?_update_self (Obj.mapBytearray f) ho rfl
theorem lQ {a:Addr} {Q:Bool→Shared→Prop} (hg:A.guards=some []) (h:Q false s):bM (model prog w) A (Builtin.Bytes.exported (.ref a)) Q E s:=by
 revert hg h
 revert prog w A s E a Q;refine @(dr7 ?_);exists w7 _ _,prog,w,A,s,E,a,Q
 intro hg h
 unfold Builtin.Bytes.exported
 refine iy hg (fun c p hc hn=>?_) (fun c hc=>nomatch hc) h
 cases c with
 | builtin id args =>
  have hg':guardIds.contains id=false:=hc
  have hd:Builtin.Bytes.decodersThatHold.contains id=false:=by simpa [nd] using hn
  obtain ⟨pos,kw⟩:=args
  have ne:∀ x,guardIds.contains x=true→id≠x:=fun x hx e=>by rw [← e,hg'] at hx;exact nB hx
  delta PySem.Builtin.Bytes.exported.match_1 PySem.Builtin.Bytes.exported._sparseCasesOn_1
  dsimp only
  rw [dif_neg (ne _ (by decide +kernel)),dif_neg (ne _ (by decide +kernel)),dif_neg (ne _ (by decide +kernel)),dif_neg (ne _ (by decide +kernel)),dif_neg (ne _ (by decide +kernel))]
  cases pos with
  | nil=>rfl
  | cons v r=>show (_ && Builtin.Bytes.decodersThatHold.contains id)=false;rw [hd,Bool.and_false]
 | _=>rfl
theorem eU (i:Int) (t:Tok):specialOf (.int i t) "__index__"=pure (some (.builtin "int.__index__")):=by
 show typeLookup (.type "int") "__index__"=_
 exact lP
theorem dn (i:Int) (t:Tok):asIndex (.int i t)=pure i:=rfl
theorem iz {α:Type} (a:α):(pure a:Sem α).attempt=pure (.ok a):=rfl
theorem lR (i:Int) (t:Tok):asStr? (.int i t)=pure none:=by kernel_rfl
theorem rh {a:Addr} {n:Nat} {t:Tok} {Q:Fin→Shared→Prop} (hg:A.guards=some []) (hn:n≤1000) (ho:s.heap.get? a=some (obj #[]))
  (h:∀ h',Heap.SameBut a s.heap h'→h'.get? a=some (obj (Array.replicate n 0))→Q (.done (.ret .none)) { s with heap:=h' }) :
  bM (model prog w) A (Builtin.«bytearray.__init__» ⟨[.ref a,.int n t],[]⟩) Q E s:=by
 revert hg hn ho h
 revert prog w A s E a n t Q;refine @(dr9 ?_);exists w9 _ _,prog,w,A,s,E,a,n,t,Q
 intro hg hn ho h
 unfold Builtin.«bytearray.__init__»
 dsimp only
 refine an (eT ho rfl ?_)
 refine nF (by decide) ?_
 refine an (wpAny_of_eq (lO _) ?_)
 dsimp only
 refine an (wpAny_of_eq (a:=()) rfl ?_)
 refine an (wpAny_of_eq (a:=()) rfl ?_)
 refine aw ?_
 show bM _ _ ((Builtin.Bytes.exported (.ref a)) >>= fun b=>_) _ _ _
 refine aw (lQ hg ?_)
 show bM _ _ (do
          let __do_lift ← Builtin.Bytes.exportsOf (Value.ref a)
          pure (decide (__do_lift > 0))) _ _ _
 refine an ?_
 show wpAny _ _ (load a >>= _) _ _ _
 refine wpAny_bind (wpAny_load ho (wpAny_pure (aI ?_)))
 refine nF (by decide) ?_
 refine an (fP ho (c:=#[]) rfl (by decide) ?_)
 have h₁:=at_write (f:=fun Z=>#[]) (c:=#[]) ho rfl
 refine aT ?_
 have hb:((n:Int) == 2 ^ 63 - 1)=false:=by simp;lia
 generalize (2 ^ 63 - 1:Int)=big at hb ⊢
 rw [lR,pure_bind]
 simp only [Option.isSome_none,Bool.false_eq_true,if_false]
 rw [pure_bind,eU,pure_bind]
 simp only [Option.isSome_some,if_true]
 rw [dn]
 rw [iz,pure_bind]
 simp only []
 rw [if_neg (by unfold Builtin.Bytes.fitsIndex;simp;lia),if_neg (by lia),if_neg (by rw [hb];decide),if_neg (by unfold Builtin.Bytes.tooLong;simp;rw [aM];exact Nat.le_add_left_of_le hn)]
 refine wpAny_bind (wpAny_rule ?_)
 have hsA:Heap.SameBut a s.heap (s.heap.update a (Obj.mapBytearray fun x=>#[])):=Heap.SameBut.update ..
 by_cases h0:(n:Int) > 0
 ·refine wT h0 ?_
  refine wpAny_bind (fP (s:={ s with heap:=s.heap.update a (Obj.mapBytearray fun x=>#[]) }) h₁ (c:=Array.replicate n 0) (by simp) (by simp;exact Nat.le_add_left_of_le hn) ?_)
  have hsB:Heap.SameBut a (s.heap.update a (Obj.mapBytearray fun x=>#[])) ((s.heap.update a (Obj.mapBytearray fun x=>#[])).update a (Obj.mapBytearray fun x=>Array.replicate (n:Int).toNat 0)):=Heap.SameBut.update ..
  exact wpAny_pure (h _ ⟨hsB.1.trans hsA.1,fun b hb=>(hsB.2 b hb).trans (hsA.2 b hb)⟩ (at_write h₁ (by simp)))
 ·refine wF h0 ?_
  have:n=0:=by lia
  subst this
  exact wpAny_pure (h _ hsA h₁)
end
end BA
namespace BA
section
variable {E:Value→Shared→Prop}
theorem dF {id:String} {args:Args} {b:Builtin} {R:Result→Shared→Prop} (hb:entryFor table id=some b)
  (h:bM (model prog w) (A.under (.builtin id args)) (b args) (fun fin s'=>match fin with | .done f=>R (.ok f) s' | .again c'=>c'.quiet=true∧nd c'=true∧bT (model prog w) A c' R s') (fun e s'=>R (.error e) s') s) :
  bT (model prog w) A (.builtin id args) R s:=by
 refine bg (fun Z=>.inr trivial) ?_
 show bM _ _ (match entryFor table id with | some b=>b args | none=>unsupported ((withoutEnding? id "#data").getD id)) _ _ s
 rw [hb];exact h
theorem call_bytearray {n:Nat} {t:Tok} {Q:Value→Shared→Prop} (hg:A.guards=some []) (hn:n≤1000)
  (h:∀ h' a,s.heap.get? a=none→178≤a∨a=s.heap.objs.size→(∀ b o,s.heap.get? b=some o→h'.get? b=some o)→h'.get? a=some (obj (Array.replicate n 0))→Q (.ref a) { s with heap:=h' }) :
  bM (model prog w) A (call (.type "bytearray") [.int n t] []) Q E s:=by
 revert hg hn h
 revert prog w A s E n t Q;refine @(dr8 ?_);exists w8 _ _,prog,w,A,s,E,n,t,Q
 intro hg hn h
 refine fO (bg (fun Z=>.inr trivial) ?_)
 show bM _ _ (callAny (.type "bytearray") _) _ _ _
 refine aI ⟨Code.quiet_builtin _ (by decide +kernel),(by show (!Builtin.Bytes.decodersThatHold.contains "type.__call__")=true;decide +kernel),dF F.entry_type_call ?_⟩
 rw [Around.under_plain (weight_type_call_type "bytearray" [.int n t] []) rfl]
 have hg1:A.in1.guards=some []:=hg
 have h1:=jQ.notType
 have h2:=jQ.canCreate
 unfold Builtin.«type.__call__»
 dsimp only
 rw [h1]
 refine nF (by decide) ?_
 rw [h2]
 refine nF (by decide) ?_
 rw [nt,pure_bind,tM,pure_bind]
 first | refine wF (by simp) ?_ | refine nF (by simp) ?_
 rw [jQ.made,pure_bind]
 dsimp only
 rw [pure_bind]
 refine aw (bq (aT (wpAny_call ?_)))
 refine codeAny_mono (nu (E:=fun Z Z=>False) (Q₁:=fun v s'=>v=.ref s.heap.objs.size∧s'={ s with heap:=s.heap.push (obj #[]) }) _ ⟨rfl,rfl⟩) fun r s₁ hr=>?_
 obtain ⟨f,rfl,rfl,rfl⟩:∃ f,r=.ok f∧f=.ret (.ref s.heap.objs.size)∧s₁={ s with heap:=s.heap.push (obj #[]) }:=by
  cases r with
  | error e=>exact hr.elim
  | ok fl=>cases fl with
   | ret v=>(refine ai hr fun Z1 Z2=>?_;clear hr;subst Z1;subst Z2);exact ⟨_,rfl,rfl,rfl⟩
   | _=>exact hr.elim
 let a:=s.heap.objs.size
 have ha:(s.heap.push (obj #[])).get? a=some (obj #[]):=Heap.get?_push_size _ rfl
 have hT:({ s with heap:=s.heap.push (obj #[]) }:Shared).TypeIs (.ref a) "bytearray":=⟨_,ha,rfl⟩
 refine an (wpAny_isInstance hT sub ?_)
 refine nF (by decide) ?_
 refine aw (bq ?_)
 unfold callSpecial?
 refine an (wpAny_specialOf hT cR.lookup ?_)
 simp only []
 refine bq ?_
 rw [cR.bind]
 rw [pure_bind]
 refine aw (fO (bg (fun Z=>.inr trivial) ?_))
 show bM (model prog w) (A.in1.under (.call (.builtin "bytearray.__init__") ⟨[.ref a,.int n t],[]⟩)) (do checkBuiltinCall "bytearray.__init__" ⟨[.ref a,.int n t],[]⟩;again (.builtin "bytearray.__init__" ⟨[.ref a,.int n t],[]⟩)) _ _ _
 refine aw (aT (cR.check _ _ _ _ _ _ _ _ hT (lN _ _) (aI ⟨plainId_quiet cR.plain _,(by show (!Builtin.Bytes.decodersThatHold.contains "bytearray.__init__")=true;decide +kernel),dF jR ?_⟩)))
 refine rh hg hn ha fun h' hs' hb'=>?_
 show bM (model prog w) A.in1 (pure (some Value.none)) _ _ _
 refine aI ?_
 show bM (model prog w) A.in1 (ret (.ref a)) _ _ _
 refine aI ?_
 refine h h' a (af _) (.inr rfl) (fun b o e=>(hs'.2 b fun z=>?_).trans (Heap.get?_push_of_some _ e)) hb'
 rw [z] at e;rw [show s.heap.get? a=none from af _] at e;exact nO e
end
end BA
namespace BA
theorem i6:Slot "bytearray" "__setitem__" "bytearray.__setitem__" :=
 .of (owner:="bytearray") (n:="__setitem__") (by rw [typeLookup_type,builtinLookup_eq_fast];kernel_rfl) (by decide +kernel) (by decide +kernel) (by decide +kernel)
  (by first | exact .inl (by decide +kernel) | exact .inr (by decide +kernel)) (by rw [isSubtype_type];kernel_rfl)
theorem lS:entryFor table "bytearray.__setitem__"=some Builtin.«bytearray.__setitem__»:=entryFor_of_tree (by kernel_rfl)
theorem nv (a b c:Value):argsOk "bytearray.__setitem__" ⟨[a,b,c],[]⟩:=by unfold argsOk;kernel_rfl
theorem nw:typeLookup (.type "bytearray") "__bytes__"=pure none:=by rw [typeLookup_type,builtinLookup_eq_fast];kernel_rfl
theorem pA:typeLookup (.type "bytearray") "__index__"=pure none:=by rw [typeLookup_type,builtinLookup_eq_fast];kernel_rfl
theorem dP:typeLookup (.type "bytearray") "__buffer__"=pure (some (.builtin "bytearray.__buffer__")):=by rw [typeLookup_type,builtinLookup_eq_fast];kernel_rfl
section
variable {E:Value→Shared→Prop}
theorem sub_int {k:Int} {t:Tok} {Q:Option Int→Shared→Prop} (h0:0≤k) (h1:k < 100000) (h:Q (some k) s):wpAny (model prog w) A (Builtin.Bytes.subscript? (.int k t)) Q E s:=by
 unfold Builtin.Bytes.subscript?
 rw [eU,pure_bind]
 first | refine wF (by simp) ?_ | refine nF (by simp) ?_
 rw [dn,pure_bind]
 have:Builtin.Bytes.fitsIndex k=true:=by unfold Builtin.Bytes.fitsIndex;simp;lia
 rw [this]
 refine wF (by decide) ?_
 exact wpAny_pure h
theorem nx {k:Int} {t:Tok} {Q:UInt8→Shared→Prop} (h0:0≤k) (h1:k < 256) (h:Q k.toNat.toUInt8 s):wpAny (model prog w) A (Builtin.Bytes.byteValue (.int k t)) Q E s:=by
 unfold Builtin.Bytes.byteValue
 rw [dn,pure_bind]
 have:(decide (k < 0) || decide (k ≥ 256))=false:=by simp;lia
 rw [this]
 refine wF (by decide) ?_
 exact wpAny_pure h
theorem fQ {a:Addr} {b:Array UInt8} {Q:Array UInt8→Shared→Prop} (ho:s.heap.get? a=some (obj b)) (h:Q b s):wpAny (model prog w) A (Builtin.Bytes.payload (.ref a)) Q E s:=by
 unfold Builtin.Bytes.payload
 refine wpAny_bind ?_
 show wpAny _ _ (load a >>= _) _ _ _
 exact wpAny_bind (wpAny_load ho (wpAny_pure (wpAny_pure h)))
theorem set_at {a:Addr} {b:Array UInt8} {k v:Int} {t u:Tok} {Q:Unit→Shared→Prop} (ho:s.heap.get? a=some (obj b)) (h0:0≤k) (h1:k < b.size) (hz:b.size≤1000) (v0:0≤v) (v1:v < 256)
  (h:Q () { s with heap:=s.heap.update a (Obj.mapBytearray (·.setIfInBounds k.toNat v.toNat.toUInt8)) }):wpAny (model prog w) A (setItem (.ref a) (.int k t) (.int v u)) Q E s:=by
 revert ho h0 h1 hz v0 v1 h
 revert prog w A s E a b k v t u Q;refine @(dr12 ?_);exists w12 _ _,prog,w,A,s,E,a,b,k,v,t,u,Q
 intro ho h0 h1 hz v0 v1 h
 have hT:s.TypeIs (.ref a) "bytearray":=⟨_,ho,rfl⟩
 unfold setItem
 refine wpAny_holding ?_
 refine wpAny_bind (wpAny_sequenceKey hT (by decide) ?_)
 refine wpAny_bind (wpAny_callSpecial?_slot (name:=Str.ofString "__setitem__") hT i6 (wpAny_call_entry i6 hT lS ?_ (nv _ _ _)))
 unfold Builtin.«bytearray.__setitem__»
 dsimp only
 first | refine wF (by simp) ?_ | refine nF (by simp) ?_
 refine wpAny_bind (sub_int h0 (by lia) ?_)
 dsimp only
 refine wpAny_bind (nx v0 v1 (wpAny_bind (fQ ho ?_)))
 have hk:seqIndex? k b.size=some k.toNat:=by
  unfold seqIndex?
  have h3:¬ k < 0:=by lia
  have h4:(decide (0≤k) && decide (k < (b.size:Int)))=true:=by rw [Bool.and_eq_true];exact ⟨decide_eq_true h0,decide_eq_true h1⟩
  simp only [if_neg h3,h4,if_true]
 rw [hk]
 dsimp only
 refine wpAny_bind (fP ho rfl (by simp;exact Nat.le_add_left_of_le hz) ?_)
 exact wpAny_pure ⟨_,rfl,wpAny_pure h⟩
end
end BA
namespace BA
section
variable {E:Value→Shared→Prop}
theorem pB {a:Addr} {o:Obj} (ho:s.heap.get? a=some o) (hc:o.cls=.type "bytearray") {Q:Bool→Shared→Prop} (h:Q true s):wpAny (model prog w) A (Builtin.Bytes.slotIsOwn (.ref a) "__buffer__") Q E s:=by
 have hT:s.TypeIs (.ref a) "bytearray":=⟨o,ho,hc⟩
 unfold Builtin.Bytes.slotIsOwn
 refine wpAny_bind (wpAny_specialOf hT dP ?_)
 dsimp only
 refine wF (by decide +kernel) ?_
 rw [show "bytearray.__buffer__".dropRight ("__buffer__".length + 1)="bytearray" by decide +kernel]
 exact wpAny_isInstance hT sub h
theorem lT {id:String} {a:Addr} {b:Array UInt8} {full:Bool} (ho:s.heap.get? a=some (obj b)) {Q:Option (Array UInt8)→Shared→Prop} (h:Q (some b) s) :
  wpAny (model prog w) A (Builtin.Bytes.buffer? id (.ref a) full) Q E s:=by
 have hT:s.TypeIs (.ref a) "bytearray":=⟨_,ho,rfl⟩
 unfold Builtin.Bytes.buffer?
 refine wpAny_bind (wpAny_specialOf hT dP ?_)
 refine wpAny_bind (pB ho rfl ?_)
 refine wF (by decide) ?_
 refine wpAny_bind (wpAny_specialOf hT dP ?_)
 refine wpAny_bind (eT ho rfl ?_)
 refine wF (by decide) ?_
 refine wpAny_bind (fQ ho ?_)
 exact wpAny_pure h
theorem lU {a:Addr} {b:Array UInt8} {Q:Value→Shared→Prop} (ho:s.heap.get? a=some (obj b)) (hz:b.size≤1000)
  (hQ:∀ t k,Q (.bytes b t) { s with toks:=k }) :
  codeAny (model prog w) A (.call (.builtin "bytes.__new__") ⟨[.type "bytes",.ref a],[]⟩) (wants Q E) s:=by
 revert ho hz hQ
 revert prog w A s E a b Q;refine @(dr8 ?_);exists w8 _ _,prog,w,A,s,E,a,b,Q
 intro ho hz hQ
 refine codeAny_of_tree ?_
 show wpAny _ A.in1 (do checkBuiltinCall "bytes.__new__" ⟨[.type "bytes",.ref a],[]⟩;again (.builtin "bytes.__new__" ⟨[.type "bytes",.ref a],[]⟩)) _ _ s
 refine wpAny_bind (wpAny_of_eq (F.bm_newCall _) (wpAny_pure ⟨plainId_quiet F.bm_plain _,codeAny_builtin F.bm_entry ?_⟩))
 rw [Around.under_plainId F.bm_plain _]
 have hT:s.TypeIs (.ref a) "bytearray":=⟨_,ho,rfl⟩
 unfold Builtin.«bytes.__new__»
 refine wpAny_bind (wpAny_of_eq (a:=true) rfl ?_)
 refine bm_if_false rfl ?_
 refine wpAny_bind (wpAny_of_eq F.bm_sub ?_)
 refine bm_if_false rfl ?_
 refine wpAny_bind (wpAny_of_eq (F.bm_bind _) ?_)
 refine wpAny_bind (wpAny_of_eq (a:=()) rfl ?_)
 refine wpAny_bind (wpAny_of_eq (a:=()) rfl ?_)
 refine bm_if_false rfl ?_
 refine wpAny_bind (wpAny_specialOf hT nw ?_)
 refine wpAny_bind (wpAny_bind ?_)
 show wpAny _ _ (load a >>= _) _ _ _
 refine wpAny_bind (wpAny_load ho ?_)
 refine wpAny_pure (wpAny_pure ?_)
 refine bm_if_false rfl ?_
 refine wpAny_bind (wpAny_specialOf hT pA ?_)
 refine bm_if_true rfl ?_
 first
  | show wpAny _ _ (Builtin.Bytes.buffer? "bytes.__new__" (.ref a) true >>= _) _ _ _
  | (refine wpAny_bind ?_;show wpAny _ _ (Builtin.Bytes.buffer? "bytes.__new__" (.ref a) true >>= _) _ _ _)
 refine wpAny_bind (lT ho ?_)
 first
  | refine wpAny_bind (wpAny_mkBytes ?_ (Nat.le_trans hz (by decide)))
  | (refine wpAny_bind (wpAny_rule ?_);refine wpAny_bind (wpAny_mkBytes ?_ (Nat.le_trans hz (by decide))))
 show wpAny _ _ (if (Value.type "bytes" == Value.type "bytes")=true then _ else _) _ _ _
 refine bm_if_true (by decide) ?_
 first
  | exact wpAny_pure (hQ _ _)
  | exact wpAny_bind (wpAny_pure (wpAny_pure (hQ _ _)))
theorem call_bytes {a:Addr} {b:Array UInt8} {Q:Value→Shared→Prop} (ho:s.heap.get? a=some (obj b)) (hz:b.size≤1000)
  (hQ:∀ t k,Q (.bytes b t) { s with toks:=k }):wpAny (model prog w) A (call (.type "bytes") [.ref a]) Q E s:=by
 refine callType_codes (Q₁:=fun obj s₁=>s₁.TypeIs obj "bytes"∧Q obj s₁) F.bm_called (F.bm_typeCall _) F.entry_object_init
  (lU ho hz fun t k=>⟨PySem.W.typeIs_bytes _ _ _,hQ t k⟩) fun obj s₁ h₁=>?_
 exact ⟨h₁.1,F.args_object_init_2 obj _,object_init_meets F.bm_called.init.lookup F.bm_called.made (by decide) prog w A.in1 _ s₁ ⟨h₁.1,rfl,h₁.2⟩⟩
end
end BA
noncomputable abbrev WN (prog:Program) (w:World) (A:Around) {α:Type} (t:Sem α) (Q:α→Shared→Prop) (s:Shared):Prop:=bM (model prog w) A t Q (fun Z Z=>False) s
theorem i7 {α:Type} {vs:List Value} {m:Sem α} {Q:α→Shared→Prop} {E:Value→Shared→Prop} (h:bM (model prog w) A m Q E s):bM (model prog w) A (m.keep vs) Q E s :=
 fun Γ p hΓ hN=>by rw [Sem.wp_keep];exact h Γ p hΓ hN
theorem lV {f:Value} {first:List Value} {pos:Pos} {P:Heap→Prop} {E:Value→Shared→Prop} {Q:Value→Shared→Prop} {args:List (Bool×Sem Value)} {keywords:List (Option Str×Sem Value)} (hplain:(args.any (·.1) || keywords.any (·.1.isNone))=false)
  (hk:∀ h,P h→∃ k,(k=Keeper.frame∨k=Keeper.machine∨k=Keeper.boundFrame)∧Looks (model prog w) h (keeperOf f) k)
  (h:wpAny (model prog w) A (evalArgs f true args keywords) (fun a s₁=>P s₁.heap∧bM (model prog w) A (call f (first++a.pos) a.kw) Q E s₁) E s):bM (model prog w) A (callWith pos f first args keywords) Q E s:=by
 revert hplain hk h
 revert prog w A s f first pos P E Q args keywords;refine @(dr12 ?_);exists w12 _ _,prog,w,A,s,f,first,pos,P,E,Q,args,keywords
 intro hplain hk h
 unfold callWith
 refine aw (bq (aT (wpAny_mono h (fun a s₁ h₁=>aw (dk ?_)) fun Z Z x=>x)))
 refine ex12 (hk _ h₁.1) fun k hk' L=>?_
 rw [hplain]
 refine an (L.here ?_)
 have tail:∀ {t:Sem Value},bM (model prog w) A t Q E s₁→bM (model prog w) A (t >>= fun r=>holding [r] point >>= fun Z=>pure r) Q E s₁ :=
  fun ht=>aw (av ht (fun r s₂ hr=>an (wpAny_holding (wpAny_point (aI hr)))) fun Z Z x=>x)
 have marked (mk:Value):bM (model prog w) A (callMarked mk f (first++a.pos) a.kw) Q E s₁:=by unfold callMarked;exact i7 h₁.2
 (refine ly hk' (fun Z1=>?_) (fun Z1=>?_) fun Z1=>?_ <;> subst Z1) <;> dsimp only <;> first | exact tail h₁.2 | (split <;> first | exact tail h₁.2 | exact tail (marked _))
theorem uB {f:Value} {first:List Value} {es:List Expr} {bs:List Bd} {pos:Pos} {Q:Value→Shared→Prop} (hes:EvBs prog w A env X s es bs) (hk:∀ s',Keep [] s s'→Kp prog w f s'.heap)
  (h:∀ vs s',Keep [] s s'→Args3 prog w s'.heap X bs vs→WN prog w A (call f (first++vs) []) Q s'):WN prog w A (callWith pos f first (backTo pos (starEach es env)) []) Q s:=by
 refine lV (P:=Kp prog w f) (by rw [hes.plain pos];rfl) (fun h x=>x) ?_
 cases hes with
 | nil=>exact evalArgs_nil3 ⟨hk s (Keep.refl _ _),h [] s (Keep.refl _ _) .nil⟩
 | cons a b r =>
  have hh:=EvBs.cons a b r
  have hg:=hh.go pos (Q:=fun vs s'=>Kp prog w f s'.heap∧WN prog w A (call f (first++vs) []) Q s') fun vs s' k x=>⟨hk s' k,h vs s' k x⟩
  rw [a] at hg ⊢
  exact Calls.evalArgs_plain hg
noncomputable def EvN (prog:Program) (w:World) (A:Around) (env:Env) (e:Expr) (s:Shared) (P:Shared→Shared→Value→Prop):Prop :=
 ∀ s',Keep [] s s'→WN prog w A (eval e env) (fun v s''=>Keep [] s' s''∧P s' s'' v) s'
theorem iA {f:Str} {q pos:Pos} {es:List Expr} {bs:List Bd} {u:Value} {P:Shared→Shared→Value→Prop} (hf:EvV prog w A env s (.Name f q) u) (hes:EvBs prog w A env X s es bs)
  (hk:∀ s',Keep [] s s'→Kp prog w u s'.heap) (hP:∀ s₁ s₂ s₃ v,Keep [] s₁ s₂→P s₂ s₃ v→P s₁ s₃ v)
  (h:∀ vs s',Keep [] s s'→Args3 prog w s'.heap X bs vs→WN prog w A (call u vs []) (fun v s''=>Keep [] s' s''∧P s' s'' v) s') :
  EvN prog w A env (.Call (.Name f q) es [] pos) s P:=fun s' k=>by
 show bM _ A (do callWith pos (← eval (.Name f q) env) [] (backTo pos (starEach es env)) (backToKw pos (keywordEach [] env))) _ _ s'
 refine an ((hf.keep k).go fun v s₁ k₁ h₁=>?_)
 subst h₁
 refine uB (hes.keep (k.trans k₁)) (fun s₂ k₂=>hk s₂ ((k.trans k₁).trans k₂)) fun vs s₂ k₂ h₂=>?_
 exact av (h vs s₂ ((k.trans k₁).trans k₂) h₂) (fun v s₃ x=>⟨(k₁.trans k₂).trans x.1,hP _ _ _ _ (k₁.trans k₂) x.2⟩) fun Z Z z=>z
noncomputable def fR (prog:Program) (w:World) (A:Around) (env:Env) (rest:List Stmt) (Q:Flow→Shared→Prop) (f:Flow) (s:Shared):Prop:=match f with
 | .next=>WN prog w A (execs rest env) Q s
 | f=>Q f s
theorem cN {st:Stmt} {rest:List Stmt} {Q:Flow→Shared→Prop} (h:WN prog w A (exec st env) (fR prog w A env rest Q) s):WN prog w A (execs (st::rest) env) Q s:=by
 show bM _ _ (execs (st::rest) env) _ _ _
 rw [PySem.execs_cons]
 exact aw (av h (fun f s' p=>by cases f <;> first | exact p | exact aI p) fun Z Z z=>z)
theorem kR {x:Str} {pos' pos:Pos} {value:Expr} {Q:Flow→Shared→Prop}
  (h:WN prog w A (eval value env) (fun v s₁=>WP prog w A (storeName env x v) (fun Z=>Q .next) s₁) s)
  (hs:autoParam (swapsWith value (some (.Name x pos')) pos.line env=pure false) cT._auto_1) :
  WN prog w A (exec (.Assign [.Name x pos'] value pos) env) Q s:=fun Γ p hΓ hN=>by
 simp only [exec_Assign_Name env x pos' value pos hs,Sem.wp_bind',Sem.wp_cmd_standAt,Sem.wp_bindName,Sem.wp_pure']
 exact Sem.wp_mono (model prog w) Γ _ (fun v Z s₁ h₁=>h₁ Γ _ hΓ) (fun Z Z Z h'=>h') _ _ (h Γ _ hΓ hN)
theorem fS (S:Sx prog w s₀ env M X τ ω s) {x:Str} {px p:Pos} {e:Expr} {rest:List Stmt} {Q:Flow→Shared→Prop} (b:Bd) (hx:Own env x)
  (he:EvN prog w A env e s fun Z s v=>BdOk prog w s.heap X b v) (h:∀ s',Sx prog w s₀ env M X ((x,b)::τ) ω s'→WN prog w A (execs rest env) Q s')
  (hs:autoParam (swapsWith e (some (.Name x px)) p.line env=pure false) cT._auto_1):WN prog w A (execs (.Assign [.Name x px] e p::rest) env) Q s :=
 cN (kR (av (he s (Keep.refl _ _)) (fun v s₁ h₁=>(S.keep h₁.1).store hx h₁.2 fun s' k S'=>h s' S') fun Z Z z=>z) hs)
theorem ss (S:Sx prog w s₀ env M X τ ω s) {x:Str} {px p:Pos} {e:Expr} {rest:List Stmt} {Q:Flow→Shared→Prop} (o:Obj) (hx:Own env x)
  (he:EvN prog w A env e s fun s₁ s₂ v=>∃ a,v=.ref a∧s₁.heap.get? a=none∧178≤a∧s₂.heap.get? a=some o)
  (h:∀ a s',s.heap.get? a=none→Sx prog w s₀ env (a::M) (a::X) ((x,.v (.ref a))::τ) ((a,.raw o)::ω) s'→WN prog w A (execs rest env) Q s')
  (hs:autoParam (swapsWith e (some (.Name x px)) p.line env=pure false) cT._auto_1):WN prog w A (execs (.Assign [.Name x px] e p::rest) env) Q s :=
 cN (kR (av (he s (Keep.refl _ _)) (fun v s₁ h₁=>by
  refine ai h₁ fun k Z1=>?_;clear h₁;refine ex14 Z1 fun a Z2 hn hi ho=>?_;subst Z2;clear Z1
  have S2:=S.own (a:=a) (.raw o) hn k ho hi
  exact S2.store hx (b:=.v (.ref a)) rfl fun s' k S'=>h a s' hn S') fun Z Z z=>z) hs)
theorem jT {body:List Stmt} {R:Result→Shared→Prop}
  (h:WN prog w (A.deeper env) (execs body env) (fun f s'=>R (.ok (.ret (dU f))) s') s):bT (model prog w) A (.func body env) R s:=by
 refine bg (fun Z=>.inr trivial) ?_
 show bM _ (A.deeper env) (do point;match ← (execs body env).onRaise (leaving env) with | .ret v=>ret v | _=>ret .none) _ _ s
 refine an (wpAny_point (aw (dm (av h (fun f s' h'=>?_) fun Z Z z=>z.elim))))
 cases f <;> exact aI h'
theorem dA {R:Result→Shared→Prop} {a:Addr} {args:Args} {o:Obj} {fd:FuncData} {body:List Stmt} (hroom:A.depth < recursionLimit)
  (ho:s.heap.get? a=some o)
  (hd':o.data=.func fd) (hco:fd.scope.isCoroutine=false) (hgen:fd.scope.isGenerator=false) (hbody:fd.body=.stmts body) (hcd:s.heap.CodeRec fd.code fd.qualname)
  (h:wpAny (model prog w) A.in1 (bindArgs fd args) (fun binds s₁ =>
   wpAny (model prog w) A.in1 (newFunctionEnv fd.scope fd.globals fd.closure binds (fd.qualname++".<locals>.") (some a) fd.code none fd.builtins)
    (fun env s₂=>s₂.heap.NoLimit∧bT (model prog w) A (.func body env) R s₂) (fun e s'=>R (.error e) s') s₁) (fun e s'=>R (.error e) s') s) :
  bT (model prog w) A (.call (.ref a) args) R s:=by
 revert hroom ho hd' hco hgen hbody hcd h
 revert prog w A s R a args o fd body;refine @(dr10 ?_);exists w10 _ _,prog,w,A,s,R,a,args,o,fd,body
 intro hroom ho hd' hco hgen hbody hcd h
 refine bg (fun Z=>.inr trivial) ?_
 show bM _ A.in1 (callAny (.ref a) args) _ _ s
 unfold callAny
 refine an (wpAny_load ho ?_)
 refine ex44 hcd fun c oc vs tq hc hoc hdc hq=>?_;clear hcd
 rw [hd']
 dsimp only
 unfold callFunction
 rw [hco,hgen,hbody,hc]
 dsimp only
 rw [hc] at h
 refine aT (wpAny_bind (m:=field (.ref c) 1) (wpAny_field hoc hdc hq (wpAny_bind (wpAny_pure ?_))))
 exact wpAny_bind (wpAny_mono h (fun binds s₁ h₁=>wpAny_bind (wpAny_mono h₁ (fun env s₂ h₂=>wpAny_bind (wpAny_enterFrame h₂.1 hroom
  (wpAny_pure ⟨rfl,rfl,h₂.2⟩))) fun Z Z h'=>h')) fun Z Z h'=>h')
theorem eE {a:Addr} {nm qual:Str} {params:Arguments} {body:List Stmt} {scope:Scope} {args:List Value} {bs:List Bd} {names:List Str} {X0:List Addr} {Q:Value→Shared→Prop}
  (fa:FnAt s.heap a nm qual params body scope) (g:Gd X0 s) (hd:A.depth < recursionLimit) (hA:Args3 prog w s.heap X0 bs args)
  (h:∀ env M s₁,env.frame=some env.locals→env.scope=scope→(∀ x∈M,s.heap.get? x=none)→(∀ p∈env.cells,env.locals < p.2)→(∀ x,(env.cells.lookup x).isSome=((cellsFrom 0 scope.names []).lookup x).isSome)→Sx prog w s env M (M++X0) (names.zip bs) [] s₁→s₁.gens=s.gens →
   WN prog w (A.deeper env) (execs body env) (fun f s'=>Q (dU f) s') s₁)
  (hbind:∀ doc pm c,bindArgs (fnOf nm qual params body scope .none .none doc pm none (.ref c) .none) ⟨args,[]⟩=pure (names.zip args))
  (hkind:((names.zip args).all fun y=>scope.names.lookup y.1 == some .local || scope.names.lookup y.1 == some .cell)=true)
  (hnd:names.Nodup) (hcn:((cellsFrom 0 scope.names []).map (·.1)).Nodup)
  (hk:scope.kind=.function) (hco:scope.isCoroutine=false) (hgen:scope.isGenerator=false):WN prog w A (call (.ref a) args []) Q s:=by
 revert fa g hd hA h hbind hkind hnd hcn hk hco hgen
 revert body scope args bs names X0 Q
 revert prog w A s a nm qual params;refine @(dr8 ?_);exists w8 _ _,prog,w,A,s,a,nm,qual,params
 intro body scope args bs names X0 Q
 revert body scope args bs names X0 Q;refine @(dr7 ?_);exists w7 _ _,body,scope,args,bs,names,X0,Q
 intro fa g hd hA h hbind hkind hnd hcn hk hco hgen
 have g':=g
 obtain ⟨top,hl,hh⟩:=g'
 obtain ⟨lo,⟨doc,pm,c,oc,vs,t,h1,h2,h3,h4,h5,h6⟩,ne⟩:=fa
 refine fO (dA (fd:=fnOf nm qual params body scope .none .none doc pm none (.ref c) .none) (body:=body) hd h1 rfl hco hgen rfl ⟨c,oc,vs,t,rfl,h4,h5,h6⟩ ?_)
 rw [hbind]
 refine wpAny_pure (wpAny_newFunctionEnv_cells hk (kindsX hkind _) fun env he s₁ hs=>?_)
 have k:=c6 hs.toInCall
 have kk:∀ b o,s.heap.get? b=some o→s₁.heap.get? b=some o:=fun b o e=>k.heap b o (fun h=>nomatch h) e
 refine oW (dh g hA hkind hnd hcn hk he hs) fun f1 f2 f3 f4 f5 f6=>?_
 refine ⟨?_,jT (av (h env _ s₁ (by rw [he];rfl) f1 f2 f3 f4 f5 f6) (fun f s' q=>?_) fun Z Z z=>z.elim)⟩
 ·refine ex12 top.lim fun mc c1 c2=>?_
  exact ⟨mc,aW c1 fun o=>kk _ o,c2⟩
 ·cases f <;> exact q
theorem ny {a:Addr} {nm qual:Str} {params:Arguments} {body:List Stmt} {scope:Scope} {args:List Value} {bs:List Bd} {names:List Str} {X0:List Addr} {Q:Value→Shared→Prop}
  (fa:FnAt s.heap a nm qual params body scope) (g:Gd X0 s) (hd:A.depth < recursionLimit) (hA:Args3 prog w s.heap X0 bs args)
  (h:∀ env M s₁,env.scope=scope→(∀ x∈M,s.heap.get? x=none)→(∀ p∈env.cells,env.locals < p.2)→(∀ x,(env.cells.lookup x).isSome=((cellsFrom 0 scope.names []).lookup x).isSome)→Sx prog w s env M (M++X0) (names.zip bs) [] s₁→s₁.gens=s.gens →
   WN prog w (A.deeper env) (execs body env) (fun f s'=>Q (dU f) s') s₁)
  (hbind:∀ doc pm c,bindArgs (fnOf nm qual params body scope .none .none doc pm none (.ref c) .none) ⟨args,[]⟩=pure (names.zip args))
  (hkind:((names.zip args).all fun y=>scope.names.lookup y.1 == some .local || scope.names.lookup y.1 == some .cell)=true)
  (hnd:names.Nodup) (hcn:((cellsFrom 0 scope.names []).map (·.1)).Nodup)
  (hk:scope.kind=.function) (hco:scope.isCoroutine=false) (hgen:scope.isGenerator=false):WN prog w A (call (.ref a) args []) Q s :=
 eE fa g hd hA (fun env M s₁ Z=>h env M s₁) hbind hkind hnd hcn hk hco hgen
noncomputable def tN (prog:Program) (w:World) (k:Nat) (a:Addr) (ds:List D) (r:D):Prop :=
 ∀ (A:Around) (s:Shared) (X:List Addr) (vs:List Value),Ao k A→A.guards=some []→Gd X s→RdL prog w s.heap X ds vs→WN prog w A (call (.ref a) vs []) (fun v s'=>Keep [] s s'∧Rd prog w s'.heap X r v) s
theorem nz {k i:Nat} {a:Addr} {ds:List D} {r:D} {names:List Str} (hm:(a,i)∈defTab)
  (h:∀ (A:Around) (s:Shared) (X:List Addr) (env:Env) (M:List Addr) (s₁:Shared),Ao k A→A.guards=some []→Gd X s→env.scope=fnScope i→(∀ x∈M,s.heap.get? x=none)→(∀ p∈env.cells,env.locals < p.2)→(∀ x,(env.cells.lookup x).isSome=((cellsFrom 0 (fnScope i).names []).lookup x).isSome) →
   Sx prog w s env M (M++X) (names.zip (ds.map Bd.d)) [] s₁→WN prog w A (execs (fnBody i) env) (fun f s'=>Keep M s s'∧Rd prog w s'.heap X r (dU f)) s₁)
  (hbind:∀ (vs:List Value),vs.length=ds.length→∀ doc pm c,bindArgs (fnOf (fnName i) (fnName i) (fnParams i) (fnBody i) (fnScope i) .none .none doc pm none (.ref c) .none) ⟨vs,[]⟩=pure (names.zip vs))
  (hkind:autoParam ((names.all fun y=>(fnScope i).names.lookup y == some .local || (fnScope i).names.lookup y == some .cell)=true) mE._auto_1)
  (hnd:autoParam (names.Nodup) mE._auto_1) (hcn:autoParam (((cellsFrom 0 (fnScope i).names []).map (·.1)).Nodup) mE._auto_1)
  (hk:autoParam ((fnScope i).kind=.function) mE._auto_1) (hco:autoParam ((fnScope i).isCoroutine=false) mE._auto_1) (hgen:autoParam ((fnScope i).isGenerator=false) mE._auto_1):tN prog w (k + 1) a ds r:=by
 intro A s X vs ao hg g hr
 refine ny (bs:=ds.map Bd.d) (names:=names) (g.top.fn _ hm) g ao.lim (fB hr) (fun env M s₁ hsc hnew hcl hcl' S Z=>?_) (hbind vs hr.length) ?_ hnd hcn hk hco hgen
 ·refine av (h (A.deeper env) s X env M s₁ ao.deeper hg g hsc hnew hcl hcl' S) (fun f s' q=>⟨q.1.drop hnew,q.2⟩) fun Z Z z=>z
 ·rw [List.all_eq_true] at hkind ⊢
  intro p hp
  exact hkind _ (List.of_mem_zip hp).1
noncomputable def lW (b:Array UInt8) (wd i:Nat) (st:Array UInt8):Nat→Array UInt8
 | 0=>st
 | j + 1=>(lW b wd i st j).setIfInBounds (i * wd + wd - 1 - j) (b.getD (i * wd + j) 0)
noncomputable def cC (b:Array UInt8) (wd:Nat):Nat→Array UInt8
 | 0=>Array.replicate b.size 0
 | i + 1=>lW b wd i (cC b wd i) wd
theorem eF {b st:Array UInt8} {wd i:Nat}:∀ {j:Nat},(lW b wd i st j).size=st.size
 | 0=>rfl
 | j + 1=>by unfold lW;rw [Array.size_setIfInBounds];exact eF
theorem bU {b:Array UInt8} {wd:Nat}:∀ {i:Nat},(cC b wd i).size=b.size
 | 0=>by unfold cC;simp
 | i + 1=>by unfold cC;rw [eF];exact bU
theorem jU (b:Array UInt8) (k:Nat):(KBw.bInts b).getD k 0=((b.getD k 0).toNat:Int):=by
 unfold KBw.bInts
 rw [← KBw.getD_ints]
 simp [List.getD_eq_getElem?_getD]
theorem pC (x:UInt8):((x.toNat:Int)).toNat.toUInt8=x:=by
 simp
theorem i8 {f:Str} {q p:Pos} {e:Expr} {b:Array UInt8} (c:Cx prog w env X τ ω s) (hf:EvV prog w A env s (.Name f q) (.builtin "len")) (he:EvBs prog w A env X s [e] [.d (.byt b)]) (hl:b.size≤16777216) :
  EvD prog w A env X s (.Call (.Name f q) [e] [] p) (.int b.size) :=
 bz hf he (fun s' Z=>aJ) fun vs s' k h=>by
  refine aO h fun v Z1 h1=>?_;subst Z1
  refine h1.bytE fun t Z1=>?_;subst Z1
  refine KBw.len_K rfl (by rw [KBw.ints_length];exact Nat.le_add_left_of_le hl) ⟨Keep.toks,?_⟩
  rw [KBw.ints_length];exact Rd.int_
theorem pD {v i:Expr} {b:Array UInt8} {k:Int} (h0:0≤k) (h1:k < b.size) (hl:b.size≤16777216)
  (hs:autoParam (∀ (t u:Tok),subscripted i false (.bytes b t) (.int k u)=operate [.bytes b t,.int k u] (getItem (.bytes b t) (.int k u))) r5._auto_1)
  (ht:autoParam (∀ (t:Tok) r,letTemporaryGo v (.bytes b t) r=pure ()) r5._auto_1):cv prog w A X (subscriptTail v i) (.byt b) (.int k) (.int ((b.getD k.toNat 0).toNat:Int)):=fun s u x g h1' h2=>by
 refine h1'.bytE fun t Z1=>?_;subst Z1
 refine h2.intE fun t' Z1=>?_;subst Z1
 refine KBw.item_K rfl (by rw [KBw.ints_length];exact Nat.le_add_left_of_le hl) h0 (by rw [KBw.ints_length];exact h1) (fun t'' k' Z Z=>?_) (hs _ _) (ht _)
 rw [jU]
 exact ⟨Keep.toks,Rd.int_⟩
theorem lX {f:Str} {q p:Pos} {e1 e2 e3:Expr} {m wd:Nat} (c:Cx prog w env X τ ω s) (hh:A.handled=none) (hf:EvV prog w A env s (.Name f q) (.type "range")) (he:EvBs prog w A env X s [e1,e2,e3] [.d (.int 0),.d (.int ((m * wd:Nat):Int)),.d (.int (wd:Int))]) (hw:1≤wd) (hn:m * wd < 1000) (hw2:wd < 1000) :
  EvI prog w A env X s (.Call (.Name f q) [e1,e2,e3] [] p) (aB 0 wd m):=by
 revert c hh hf he hw hn hw2
 revert f q p e1 e2 e3 m wd
 revert prog w A env X τ ω s;refine @(dr8 ?_);exists w8 _ _,prog,w,A,env,X,τ,ω,s
 intro f q p e1 e2 e3 m wd
 revert f q p e1 e2 e3 m wd;refine @(dr8 ?_);exists w8 _ _,f,q,p,e1,e2,e3,m,wd
 intro c hh hf he hw hn hw2
 intro s' k
 have hev:Ev prog w A env (.Call (.Name f q) [e1,e2,e3] [] p) s fun s v=>∃ r t u v',v=.ref r∧IsRange s.heap r 0 ((m * wd:Nat):Int) wd t u v':=bz hf he (fun s' Z=>cz) fun vs s' k h=>by
  cases h with
  | cons a1 r =>
   cases r with
   | cons a2 r =>
    cases r with
    | cons a3 r =>
     cases r
     refine Rd.intE (prog:=prog) (w:=w) (X:=X) (h:=s'.heap) a1 fun t1 Z1=>?_;subst Z1
     refine Rd.intE (prog:=prog) (w:=w) (X:=X) (h:=s'.heap) a2 fun t2 Z1=>?_;subst Z1
     refine Rd.intE (prog:=prog) (w:=w) (X:=X) (h:=s'.heap) a3 fun t3 Z1=>?_;subst Z1
     exact call_range_3 (by lia) ⟨Keep.push,_,_,_,_,rfl,IsRange.new ..⟩ (Or.inl (PyProof.noPylong_small (by exact Nat.le_add_left_of_le hw2)))
 refine (hev.keep k).go fun v s₁ k₁ h₁=>?_
 refine ex42 h₁ fun r t u v' Z1 hr=>?_;clear h₁;subst Z1
 have hsz:Builtin.Range.rangeSize 0 ((m * wd:Nat):Int) (wd:Int)=(m:Int):=by
  unfold Builtin.Range.rangeSize
  rw [if_pos (by exact Int.ofNat_lt.mpr hw)]
  cases m with
  | zero=>simp
  | succ m =>
   have hp:0 < (m + 1) * wd:=Nat.mul_pos (by exact Nat.succ_pos _) hw
   rw [if_pos (by exact_mod_cast hp)]
   have e:(((m + 1) * wd:Nat):Int) - 0 - 1=((wd - 1:Nat):Int) + (m:Int) * (wd:Int):=by
    rw [Nat.add_mul];push_cast;lia
   rw [e,Int.add_mul_ediv_right _ _ (by lia)]
   have:((wd - 1:Nat):Int) / (wd:Int)=0:=Int.ediv_eq_zero_of_lt (by exact Int.natCast_nonneg _) (by lia)
   rw [this];push_cast;lia
 have hsm:Builtin.Range.small 0 ((m * wd:Nat):Int) (wd:Int)=true:=by
  unfold Builtin.Range.small
  rw [hsz]
  simp only [Builtin.Range.rangeFitsLong,Bool.and_eq_true,Bool.or_eq_true,decide_eq_true_eq,beq_iff_eq,show ((wd:Int) > 0)=True by simp;exact hw,if_true]
  have hm1:m≤m * wd:=Nat.le_mul_of_pos_right m hw
  generalize hq:m * wd=q at *
  (try split) <;> lia
 exact ⟨k₁,dN (n:=m) hh (c.keep (k.trans k₁)).gd hr hsm hsz fun I wr St s₂ k₂ it=>⟨k₂,I,wr,St,rfl,it⟩⟩
theorem ri (S:Sx prog w s₀ env M X τ ω s) {o i e:Expr} {sp p:Pos} {a:Addr} {b:Array UInt8} {k v:Int} {ω1 ω2:List (Addr×OD)} {rest:List Stmt} {Q:Flow→Shared→Prop}
  (he:EvD prog w A env X s e (.int v)) (ho:EvV prog w A env s o (.ref a)) (hi:EvD prog w A env X s i (.int k)) (hω:ω=ω1++(a,.raw (BA.obj b))::ω2) (hne:∀ p∈ω1++ω2,p.1≠a)
  (h0:0≤k) (h1:k < b.size) (hz:b.size≤1000) (v0:0≤v) (v1:v < 256)
  (h:∀ s',Sx prog w s₀ env M X τ (ω1++(a,.raw (BA.obj (b.setIfInBounds k.toNat v.toNat.toUInt8)))::ω2) s'→WP prog w A (execs rest env) Q s')
  (hs:autoParam (swapsWith e (some (.Subscript o i sp)) p.line env=pure false) cT._auto_1):WP prog w A (execs (.Assign [.Subscript o i sp] e p::rest) env) Q s:=by
 have hm:(a,OD.raw (BA.obj b))∈ω:=by rw [hω];simp
 refine aK (wpAny_Assign_Subscript (he.go fun x s₁ k₁ hx=>(ho.keep k₁).go fun y s₂ k₂ hy=>(hi.keep (k₁.trans k₂)).go fun z s₃ k₃ hz'=>?_) hs)
 subst hy
 refine Rd.intE hx fun t Z1=>?_;subst Z1
 refine Rd.intE hz' fun t' Z1=>?_;subst Z1
 have S3:=((S.keep k₁).keep k₂).keep k₃
 have hg:s₃.heap.get? a=some (BA.obj b):=(S3.cx.own _ hm).1
 refine BA.set_at hg h0 h1 hz v0 v1 ?_
 exact h _ (S3.put (tk:=s₃.toks) hω hne (Heap.SameBut.update ..) (BA.at_write hg rfl))
theorem rj {f:Str} {q p px:Pos} {x:Str} {a:Addr} {b:Array UInt8} (c:Cx prog w env X τ ω s) (hf:EvV prog w A env s (.Name f q) (.type "bytes")) (hx:τ.lookup x=some (.v (.ref a))) (hm:(a,OD.raw (BA.obj b))∈ω) (hl:b.size≤1000)
  (hd:autoParam ((x == ("__debug__":Str))=false) fb._auto_1):EvD prog w A env X s (.Call (.Name f q) [.Name x px] [] p) (.byt b) :=
 bz hf (qt (X:=X) (az (.ref a) c hx hd) al) (fun s' Z=>cz) fun vs s' k h=>by
  refine ex12 (dZ h) fun v Z1 h1=>?_;subst Z1
  subst h1
  have hg:s'.heap.get? a=some (BA.obj b):=((c.keep k).own _ hm).1
  exact BA.call_bytes hg hl fun t k=>⟨Keep.toks,Rd.byt_⟩
theorem uS (a w j:Nat):((a:Int) + w - 1 - j).toNat=a + w - 1 - j:=by rw [Int.sub_sub];exact (Int.toNat_sub (a + w) (1 + j)).trans (Nat.sub_sub ..).symm
theorem fT (b:Array UInt8) (m wd:Nat) (hb:b.size=m * wd) (hw:1≤wd) (hw2:wd < 1000) (hn:m * wd < 1000):tN prog w 1 91 [.byt b,.int (wd:Int)] (.byt (cC b wd m)):=by
 revert hb hw hw2 hn
 revert prog w b m wd;refine @(dr5 ?_);exists w5 _ _,prog,w,b,m,wd
 intro hb hw hw2 hn
 exact nz (i:=10) (names:=["data", "width"]) (by decide +kernel) (fun A s X env M s₁ ao hg g hsc hM hlo hce S=>by
  first | (revert ao hg g hsc hM hlo hce S;revert A s X env M s₁;refine @(dr6 ?_);exists w6 _ _,A,s,X,env,M,s₁;intro ao hg g hsc hM hlo hce S) | skip
  have fe:Fe env 10:=⟨hsc,hlo,hce⟩
  refine ss S (BA.obj (Array.replicate b.size 0)) (fe.own rfl) (iA (aY _ S.cx (fe.gl rfl) rfl) (aH (i8 S.cx (aY _ S.cx (fe.gl rfl) rfl) (aH (aa (.byt b) S.cx rfl) al) (by lia)) al) (fun Z Z=>cz)
   (fun s₁ s₂ s₃ v k p=>by
    first | (revert k p;revert s₁ s₂ s₃ v;refine @(dr4 ?_);exists w4 _ _,s₁,s₂,s₃,v;intro k p) | skip
    refine ex14 p fun a h1 h2 h3 h4=>?_;clear p
    exact ⟨a,h1,k.none_back h2,h3,h4⟩) fun vs s' k h=>?_) fun a s₂ ha S2=>?_
  ·refine aO h fun v Z1 h1=>?_;subst Z1
   refine h1.intE fun t Z1=>?_;subst Z1
   have c':=S.cx.keep k
   refine BA.call_bytearray hg (by lia) fun h' a hn hi hk ha=>?_
   have hi':178≤a:=by rcases hi with h | rfl;exact h;exact c'.top.size
   exact ⟨Keep.ext hk,a,rfl,hn,hi',ha⟩
  ·refine aT ?_
   have c:=S2.cx
   refine fE S2 (ds:=aB 0 wd m) (lX c ao.h (aY _ c (fe.gl rfl) rfl) (aH ag (aH ((i8 c (aY _ c (fe.gl rfl) rfl) (aH (aa (.byt b) c rfl) al) (by lia)).to (by rw [hb])) (aH (aa (.int (wd:Int)) c rfl) al))) hw hn hw2)
    (fun Z=>[("swapped_data",.v (.ref a)),("data",.d (.byt b)),("width",.d (.int wd))]) (fun i=>[(a,.raw (BA.obj (cC b wd i)))]) (fun Z Z=>False) (fun i d=>[("i",.d d)]) ⟨rfl,rfl,rfl,trivial⟩ rfl
    (fun i d Z=>au (fe.own rfl)) (fun i d X' s' hd hX S'=>?_) (fun s' S'=>?_) (fun Z Z Z h=>h.elim)
   ·refine ai (bG hd) fun hi Z1=>?_;subst Z1
    rw [Int.zero_add] at S'
    have hiw:i * wd + wd≤m * wd:=by
     have:=Nat.mul_le_mul_right wd (Nat.succ_le_of_lt hi)
     rw [Nat.succ_mul] at this;exact this
    refine fE S' (ds:=aB 0 1 wd) (bA S'.cx ao.h (aY _ S'.cx (fe.gl rfl) rfl) (aH (aa (.int (wd:Int)) S'.cx rfl) al) (by exact Nat.lt_of_lt_of_le hw2 (by decide)))
     (fun Z=>[("i",.d (.int ((i:Int) * wd))),("swapped_data",.v (.ref a)),("data",.d (.byt b)),("width",.d (.int wd))]) (fun j=>[(a,.raw (BA.obj (lW b wd i (cC b wd i) j)))]) (fun Z Z=>False) (fun i d=>[("j",.d d)]) ⟨rfl,rfl,rfl,rfl,trivial⟩ rfl
     (fun i d Z=>au (fe.own rfl)) (fun j d X'' s'' hd' hX' S''=>?_) (fun s'' S''=>?_) (fun Z Z Z h=>h.elim)
    ·refine ai (bG hd') fun hj Z1=>?_;subst Z1
     rw [Int.zero_add,Int.mul_one] at S''
     have c:=S''.cx
     have e1:((i:Int) * wd + wd - 1 - j).toNat=i * wd + wd - 1 - j:=by
      exact uS (i * wd) wd j
     have e2:((i:Int) * wd + j).toNat=i * wd + j:=rfl
     have hz:(lW b wd i (cC b wd i) j).size=m * wd:=by rw [eF,bU,hb]
     refine ri (ω1:=[]) (ω2:=[]) (k:=(i:Int) * wd + wd - 1 - j) (v:=((b.getD (i * wd + j) 0).toNat:Int)) S'' ?_ (az (.ref a) c rfl) ?_ rfl (by simp) ?_ ?_ ?_ ?_ ?_ fun s₃ S3=>ax ?_
     ·rw [← e2]
      have hh:(i:Int) * wd=((i * wd:Nat):Int):=by push_cast;rfl
      exact cH c (aa (.byt b) c rfl) (aF c (aa (.int ((i:Int) * wd)) c rfl) (aa (.int (j:Int)) c rfl) bR) (pD (by rw [hh];exact Int.natCast_nonneg _) (by rw [hh];lia) (by lia))
     ·exact aF c (aF c (aF c (aa (.int ((i:Int) * wd)) c rfl) (aa (.int (wd:Int)) c rfl) bR) ag cO) (aa (.int (j:Int)) c rfl) cO
     ·have:(i:Int) * wd=((i * wd:Nat):Int):=by push_cast;rfl
      rw [this];lia
     ·have:(i:Int) * wd=((i * wd:Nat):Int):=by push_cast;rfl
      rw [this,hz];lia
     ·rw [hz];exact Nat.le_of_lt hn
     ·exact Int.natCast_nonneg _
     ·have:=(b.getD (i * wd + j) 0).toNat_lt;exact Int.ofNat_lt.mpr this
     ·rw [e1,pC] at S3
      exact S3.cover ⟨rfl,rfl,rfl,rfl,trivial⟩
    ·rw [aq] at S''
     exact ax (S''.cover ⟨rfl,rfl,rfl,trivial⟩)
   ·rw [aq] at S'
    have hz:(cC b wd m).size=m * wd:=by rw [bU,hb]
    refine ca S' (rj (a:=a) (b:=cC b wd m) S'.cx (aY _ S'.cx (fe.gl rfl) rfl) rfl (.head _) (by lia)) fun s₄ v S4 e=>?_
    refine ⟨S4.base.dropTo fun x hx=>?_,?_⟩
    ·refine mC hx (fun Z1=>?_) fun hx=>?_;subst Z1
     ·exact .inr (S.base.none_back ha)
     ·exact .inl hx
    ·refine Rd.bytE e fun t Z1=>?_;subst Z1
     exact Rd.byt_) (il fun Z Z Z Z Z=>rfl)
theorem jV {c:Code} {Q:Flow→Shared→Prop} (hn:nd c=true) (hc:bT (model prog w) A c (fun r s'=>match r with | .ok f=>Q f s' | .error e=>False) s):WN prog w A (runOwn c env none) Q s:=by
 unfold runOwn
 refine dm (av (pq (E:=fun Z Z=>False) hn ?_) (fun Z Z z=>z) fun Z Z z=>z.elim)
 exact jO hc fun r s h=>h
theorem tO {target iter:Expr} {body:List Stmt} {pos:Pos} {Q:Flow→Shared→Prop}
  (h:WP prog w A (eval iter env) (fun x s₁=>WP prog w A (pyIter x) (fun it s₂ =>
   bT (model prog w) A (.forLoop target it body [] env) (fun r s'=>match r with | .ok f=>Q f s' | .error e=>False) s₂) s₁) s)
  (hs:autoParam (∀ x,foldedSetIterable iter env x=pure x) e8._auto_1) :
  WN prog w A (exec (.For target iter body [] pos) env) Q s:=by
 show bM _ _ (exec (.For target iter body [] pos) env) _ _ _
 rw [exec_For]
 exact an (wpAny_standAt (an (wpAny_mono h (fun x s₁ h₁=>an (wpAny_of_eq (hs x) (an (wpAny_standAt (an (wpAny_holding
  (wpAny_mono h₁ (fun it s₂ h₂=>jV rfl h₂) fun Z Z h'=>h'))))))) fun Z Z h'=>h')))
theorem jW {c:Code} {R:Result→Shared→Prop} (hq:c.quiet=true) (hn:nd c=true) (I:Nat→Shared→Prop)
  (turn:∀ n s,I n s→WN prog w (A.under c) ((model prog w).den c)
   (fun fin s'=>match fin with
    | .done f=>R (.ok f) s'
    | .again c'=>(c'=c∧∃ m,m < n∧I m s')∨(c'.quiet=true∧nd c'=true∧bT (model prog w) A c' R s')) s)
  (n:Nat) (h:I n s):bT (model prog w) A c R s:=by
 induction n using Nat.strongRecOn generalizing s with
 | ind n ih =>
  refine bg (fun Z=>.inr trivial) (av (turn n s h) (fun fin s' hf=>?_) fun Z Z h'=>h'.elim)
  cases fin with
  | done f=>exact hf
  | again c' =>
   rcases hf with ⟨rfl,m,hm,hI⟩ | hf
   ·exact ⟨hq,hn,ih m hm hI⟩
   ·exact hf
theorem nA {Q:Flow→Shared→Prop} {target:Expr} {it:Value} {body:List Stmt} (I:Nat→Shared→Prop)
  (turn:∀ n s,I n s→WP prog w A (pyNext it) (fun r s₁=>match r with
   | none=>Q .next s₁
   | some v=>WP prog w A (letOwnedTupleGo target it v) (fun Z s₂=>WP prog w A (assign target env v) (fun Z s₂=>WN prog w A (execs body env) (fun f s₃=>match f with
     | .next | .cont=>∃ m,m < n∧I m s₃
     | .brk=>Q .next s₃
     | .ret v=>Q (.ret v) s₃) s₂) s₂) s₁) s)
  (n:Nat) (h:I n s):bT (model prog w) A (.forLoop target it body [] env) (fun r s'=>match r with | .ok f=>Q f s' | .error e=>False) s:=by
 revert turn h
 revert prog w A env s Q target it body I n;refine @(dr11 ?_);exists w11 _ _,prog,w,A,env,s,Q,target,it,body,I,n
 intro turn h
 refine jW rfl rfl I (fun n s hI=>?_) n h
 show bM _ _ ((forTurn target it body [] env).onRaise (fun x=>do noteFrame x env;theTreesLotGoes x)) _ _ s
 refine dm (av (E:=fun Z Z=>False) ?_ (fun Z Z z=>z) fun Z Z z=>z.elim)
 unfold forTurn
 refine an (wpAny_standAt (an (wpAny_onRaise (wpAny_mono (turn n s hI) (fun r s₁ h₁=>?_) fun Z Z h'=>h'.elim))))
 cases r with
 | none=>exact aI (.inr ⟨rfl,rfl,nq (codeAny_block (ax (prog:=prog) (w:=w) (A:=A) (env:=env) (Q:=fun f s=>Q f s) h₁ |> fun z=>wpAny_mono z (fun Z Z z=>z) fun Z Z z=>z.elim))⟩)
 | some v =>
  refine an (wpAny_mono h₁ (fun Z s₂ h₂=>?_) fun Z Z h'=>h')
  refine an (wpAny_mono h₂ (fun Z s₂ h₂=>aw (av h₂ (fun f s₃ h₃=>?_) fun Z Z h'=>h')) fun Z Z h'=>h')
  cases f with
  | next=>exact aI (.inl ⟨rfl,h₃⟩)
  | cont=>exact aI (.inl ⟨rfl,h₃⟩)
  | brk=>exact aI h₃
  | ret v=>exact aI h₃
theorem qy (S:Sx prog w s₀ env M X τ ω s) {t e:Expr} {body rest:List Stmt} {p:Pos} {Q:Flow→Shared→Prop} {ds:List D} (hi:EvI prog w A env X s e ds) (inv:Nat→List (Str×Bd)) (O:Nat→List (Addr×OD)) (R:Value→Shared→Prop) (σ:Nat→D→List (Str×Bd))
  (h0:Covers τ (inv 0)) (hO:ω=O 0) (hasg:∀ i d,ds[i]?=some d→Asg prog w A env M t d (σ i d))
  (turn:∀ i d X' s',ds[i]?=some d→(∀ a∈X,a∈X')→Sx prog w s' env M X' (σ i d++inv i) (O i) s'→WN prog w A (execs body env) (iU prog w env M X' (inv (i + 1)) (O (i + 1)) R s') s')
  (done:∀ s',Sx prog w s₀ env M X (inv ds.length) (O ds.length) s'→WN prog w A (execs rest env) Q s') (hret:∀ v s',Keep M s s'→R v s'→Q (.ret v) s')
  (hs:autoParam (∀ x,foldedSetIterable e env x=pure x) e8._auto_1):WN prog w A (execs (.For t e body [] p::rest) env) Q s:=by
 revert S hi h0 hO hasg turn done hret hs
 revert e body rest p Q ds inv O R σ
 revert prog w A env M X τ ω s s₀ t;refine @(dr11 ?_);exists w11 _ _,prog,w,A,env,M,X,τ,ω,s,s₀,t
 intro e body rest p Q ds inv O R σ
 revert e body rest p Q ds inv O R σ;refine @(dr10 ?_);exists w10 _ _,e,body,rest,p,Q,ds,inv,O,R,σ
 intro S hi h0 hO hasg turn done hret hs
 refine cN (tO (wpAny_mono (hi s (Keep.refl _ _)) (fun v s₁ q=>wpAny_mono q.2 (fun it s₂ q₂=>?_) fun Z Z z=>z.elim) fun Z Z z=>z) hs)
 refine ai q₂ fun k₂ Z1=>?_;clear q₂;refine ex32 Z1 fun I wr St Z2 Z3=>?_;subst Z2;rcases Z3 with ⟨⟨fp,P,W,hfp,hP⟩,hst,hnew,hhi,hlive,hgo⟩;clear Z1
 have k₁:=q.1
 have S1:=S.keep k₁
 have S2:Sx prog w s₀ env M (wr++X) (inv 0) (O 0) s₂:=((S1.avoid hnew k₂ (hlive _ _ hst) hhi).cover h0).owns (by rw [hO];exact fun Z h=>h)
 have hwM:∀ b∈wr,b∉M:=fun b hb hm=>by
  have:=S1.cx.xlt b (S1.sub b hm)
  rw [hnew b hb] at this;exact nB this
 have hwC:∀ p∈env.cells,p.2∉wr:=fun p hp hm=>by
  have:=S1.cx.xlt _ (S1.cx.ok.cel p hp).1
  rw [hnew _ hm] at this;exact nB this
 have fin:∀ s',Keep (wr++M) s₂ s'→Keep M s s':=fun s' k=>((k₁.trans k₂).any.trans k).dropTo fun b hb=>(List.mem_append.mp hb).elim (fun h=>.inr (k₁.none_back (hnew b h))) .inl
 refine nA (fun n s'=>∃ i,n=ds.length - i∧i≤ds.length∧Keep (wr++M) s₂ s'∧Sx prog w s' env M (wr++X) (inv i) (O i) s'∧St i s'.heap) (fun n s' hI=>?_) (ds.length) ⟨0,rfl,Nat.zero_le _,Keep.refl _ _,S2.rebase,hst⟩
 refine ex15 hI fun i Z1 hil kI SI hSt=>?_;clear hI;subst Z1
 by_cases hlt:i < ds.length
 ·refine W.item i s' _ _ hlt hSt fun v h₁ tk1 hPv hstA hkA=>?_
  refine ex12 (hP i v hPv) fun d hd hrd=>?_
  refine ai (SI.other (Y:=wr) hkA (fun b hb Z=>hlive _ _ hstA b hb) (fun b hb=>mL hb) hwM hwC (tk:=tk1)) fun Sa ka=>?_
  have hrd':Rd prog w h₁ (wr++X) d v:=hrd h₁ _ fun a o ha e=>by
   have haw:a∉wr:=fun hm=>by rw [hnew a hm] at e;exact nO e
   have h2:=k₂.heap a o (fun h=>nomatch h) e
   have h3:=kI.heap a o (fun hm=>(List.mem_append.mp hm).elim haw fun hm=>ha (S.sub a hm)) h2
   exact ⟨fun hm=>(List.mem_append.mp hm).elim haw ha,hkA a o haw h3⟩
  dsimp only
  refine ex23 (hgo _ _ hstA) fun oI nI g1 g2 g3=>?_
  refine wpAny_mono (cg (s:={ s' with heap:=h₁,toks:=tk1 }) g1 g2 g3 ?_) (fun Z Z z=>z) fun Z Z z=>z.elim
  refine wpAny_mono (hasg i d hd (wr++X) _ _ _ _ v _ Sa hrd' fun s₃ k₃ S3=>av (turn i d (wr++X) s₃ hd (fun a ha=>mR ha) S3.rebase) (fun f s₄ hf=>?_) fun Z Z z=>z.elim) (fun Z Z z=>z) fun Z Z z=>z.elim
  have kM:∀ {s₄},Keep M s₃ s₄→Keep (wr++M) s₂ s₄:=fun k=>((kI.trans (ka.more fun b hb=>mL hb)).trans (k₃.more fun b hb=>mR hb)).trans (k.more fun b hb=>mR hb)
  have again:Sx prog w s₃ env M (wr++X) (inv (i + 1)) (O (i + 1)) s₄→∃ m,m < ds.length - i∧∃ i,m=ds.length - i∧i≤ds.length∧Keep (wr++M) s₂ s₄∧Sx prog w s₄ env M (wr++X) (inv i) (O i) s₄∧St i s₄.heap:=fun S4 =>
   ⟨ds.length - (i + 1),by lia,i + 1,rfl,hlt,kM S4.base,S4.rebase,W.frame _ _ _ hstA fun b hb o e=>by
    have hbM:b∉M:=fun hm=>(hfp b hb).1 (S.sub b hm)
    exact S4.base.heap b o hbM (k₃.heap b o hbM e)⟩
  cases f with
  | next=>exact again hf
  | cont=>exact again hf
  | brk=>exact hf.elim
  | ret v=>exact hret v s₄ (fin s₄ (kM hf.1)) hf.2
 ·have hi':i=ds.length:=by lia
  subst hi'
  refine W.done s' _ _ hSt fun h₁ tk1 hkA=>?_
  dsimp only
  have k':=fin s' kI
  have hsw:∀ a,(s.heap.get? a).isSome=true→a∉wr:=fun a ha hm=>by rw [k₁.none_back (hnew a hm)] at ha;exact nB ha
  have kend:Keep M s { s' with heap:=h₁,toks:=tk1 }:=⟨fun a o ha e=>hkA a o (hsw a (by rw [e];rfl)) (k'.heap a o ha e),fun a ha=>by
   have:=k'.live a ha
   cases e:s'.heap.get? a with
   | none=>rw [e] at this;exact nB this
   | some o=>show (h₁.get? a).isSome=true;rw [hkA a o (hsw a ha) e];rfl,k'.gens,k'.bare,k'.os⟩
  exact (show fR prog w A env rest Q .next _ from done _ (SI.leave hkA (fun b hb hx=>by have:=S1.cx.xlt b hx;rw [hnew b hb] at this;exact nB this) S.sub (fun p hp=>(S.cx.ok.cel p hp).1) (S.base.trans kend)))
theorem tp {test:Expr} {body orelse:List Stmt} {pos:Pos} {Q:Flow→Shared→Prop}
  (h:WP prog w A (isTrue test env (eval test env)) (fun b s₂=>if b then WN prog w A (execs body env) Q s₂ else WN prog w A (execs orelse env) Q s₂) s) :
  WN prog w A (exec (.If test body orelse pos) env) Q s:=fun Γ p hΓ hN=>by
 simp only [exec_If,Sem.wp_bind',Sem.wp_cmd_standAt]
 refine Sem.wp_mono (model prog w) Γ _ (fun b p₂ s₂ h₂=>?_) (fun Z Z Z h'=>h') _ _ (h Γ _ hΓ)
 cases b <;> exact h₂ Γ p₂ hΓ hN
theorem su (S:Sx prog w s₀ env M X τ ω s) {t:Expr} {b o:List Stmt} {p:Pos} {rest:List Stmt} {Q:Flow→Shared→Prop} (c:Bool) (ht:EvT prog w A env s t c)
  (hb:c=true→∀ s',Sx prog w s₀ env M X τ ω s'→WN prog w A (execs b env) (fR prog w A env rest Q) s')
  (ho:c=false→∀ s',Sx prog w s₀ env M X τ ω s'→WN prog w A (execs o env) (fR prog w A env rest Q) s'):WN prog w A (execs (.If t b o p::rest) env) Q s :=
 cN (tp (ht.go fun s₁ k₁=>by
  cases c with
  | true=>exact hb rfl s₁ (S.keep k₁)
  | false=>exact ho rfl s₁ (S.keep k₁)))
theorem tP {x:Str} {pos' pos:Pos} {op:Operator} {value:Expr} {Q:Flow→Shared→Prop}
  (h:WP prog w A (loadName env x) (fun old s₁=>WN prog w A (eval value env) (fun v s₂=>WP prog w A (inplaceOp op old v)
   (fun r s₃=>WP prog w A (storeName env x r) (fun Z=>Q .next) s₃) s₂) s₁) s) :
  WN prog w A (exec (.AugAssign (.Name x pos') op value pos) env) Q s:=by
 revert h
 revert prog w A env s x pos' pos op value Q;refine @(dr11 ?_);exists w11 _ _,prog,w,A,env,s,x,pos',pos,op,value,Q
 intro h
 intro Γ p hΓ hN
 simp only [exec_AugAssign_Name,Sem.wp_bind',Sem.wp_holding,Sem.wp_cmd_standAt,Sem.wp_operate,Sem.wp_bindName,Sem.wp_pure']
 exact Sem.wp_mono (model prog w) Γ _ (fun old p₁ s₁ h₁=>Sem.wp_mono (model prog w) Γ _ (fun v Z s₂ h₂=>Sem.wp_mono (model prog w) Γ _ (fun r Z s₃ h₃=>h₃ Γ _ hΓ)
  (fun Z Z Z h'=>h') _ _ (h₂ Γ _ hΓ)) (fun Z Z Z h'=>h') _ _ (h₁ Γ p₁ hΓ hN)) (fun Z Z Z h'=>h') _ _ (h Γ _ hΓ)
theorem sw (S:Sx prog w s₀ env M X τ ω s) {x:Str} {px p:Pos} {op:Operator} {e:Expr} {rest:List Stmt} {Q:Flow→Shared→Prop} {a b d:D}
  (hx:Own env x) (ha:τ.lookup x=some (.d a)) (he:EvN prog w A env e s fun Z s v=>Rd prog w s.heap X b v) (ho:cv prog w A X (inplaceOp op) a b d)
  (h:∀ s',Sx prog w s₀ env M X ((x,.d d)::τ) ω s'→WN prog w A (execs rest env) Q s'):WN prog w A (execs (.AugAssign (.Name x px) op e p::rest) env) Q s:=by
 refine cN (tP ?_)
 refine ex12 (S.cx.vars x _ ha) fun v h1 h2=>?_
 refine ij S.cx.ok h1 (av (he s (Keep.refl _ _)) (fun u s₁ hu=>?_) fun Z Z z=>z)
 have k₁:=hu.1
 have S1:=S.keep k₁
 refine wpAny_mono (ho s₁ v u S1.cx.gd (Rd.keep (d:=a) h2 k₁.any) hu.2) (fun r s₂ hr=>?_) fun Z Z z=>z
 exact (S1.keep hr.1).store hx (b:=.d d) hr.2 fun s' k S'=>h s' S'
theorem gv:typeLookup (.type "bytes") (dunderI "add")=pure none:=by rw [typeLookup_type,builtinLookup_eq_fast];kernel_rfl
theorem jX {b c:Array UInt8} {t u:Tok} {E:Value→Shared→Prop} {Q:Value→Shared→Prop} (hsz:b.size + c.size≤16777216) (h:∀ t' k,Q (.bytes (b++c) t') { s with toks:=k }):wpAny (model prog w) A (inplaceOp .Add (.bytes b t) (.bytes c u)) Q E s:=by
 refine iconcat_gives (PySem.W.typeIs_bytes s b t) (PySem.W.typeIs_bytes s c u) gv KBy.noFill_bytes_add KBy.seq_bytes_add FB.slot_bytes_add FB.entry_bytes_add (FB.args_bytes_add_2 _ _) (KBy.gives_bytes_add (KBy.tooLong_not hsz)) ?_
 by_cases hb:b.isEmpty=true
 ·rw [if_pos hb]
  have e:b=#[]:=Array.isEmpty_iff.1 hb
  have h':=h u s.toks
  rw [e,Array.empty_append] at h'
  exact h'
 ·rw [if_neg hb]
  by_cases hc:c.isEmpty=true
  ·rw [if_pos hc]
   have e:c=#[]:=Array.isEmpty_iff.1 hc
   have h':=h t s.toks
   rw [e,Array.append_empty] at h'
   exact h'
  ·rw [if_neg hc]
   exact ⟨by rw [Array.size_append,sizeLine_eq];exact hsz,h s.toks (s.toks + 1)⟩
theorem pE {a b:Array UInt8} (hz:a.size + b.size≤16777216):cv prog w A X (inplaceOp .Add) (.byt a) (.byt b) (.byt (a++b)):=fun s u v Z h1 h2=>by
 refine h1.bytE fun t Z1=>?_;subst Z1;refine h2.bytE fun t' Z1=>?_;subst Z1
 exact jX hz fun t' k=>⟨Keep.toks,Rd.byt_⟩
theorem kS {v:Expr} {lo hi:Option Expr} {q p:Pos} {b:Array UInt8} {x y:Option Int} (c:Cx prog w env X τ ω s) (hv:EvD prog w A env X s v (.byt b)) (ha:optI prog w A env X s lo x) (hb:optI prog w A env X s hi y) (hl:b.size≤16777216)
  (ht:autoParam (∀ o r,letTemporaryGo v o r=pure ()) tu._auto_1):EvD prog w A env X s (.Subscript v (.Slice lo hi none q) p) (.byt (KBy.picked b x y)):=fun s' k=>by
 refine wpAny_Subscript_Slice (T:="bytes") FB.slot_bytes_getitem.lookup ((hv.keep k).go fun u s₁ k₁ h₁=>wpAny_Slice (bJ (ha.keep (k.trans k₁)) fun a s₂ k₂ h₂=>bJ (hb.keep ((k.trans k₁).trans k₂)) fun d s₃ k₃ h₃=>?_)) ht
 refine h₁.bytE fun t Z1=>?_;subst Z1
 rw [evalPart_none]
 refine wpAny_pure ⟨PySem.W.typeIs_bytes _ _ _,?_⟩
 refine getItem_meets (PySem.W.typeIs_bytes _ _ _) (by decide) FB.slot_bytes_getitem FB.entry_bytes_getitem (FB.args_bytes_getitem_2 _ _) (KBc.meets_slice2 b t _ h₂ h₃) ⟨Heap.IsSliceOf.new _ _ _ _,Nat.le_trans (KBc.size_picked_le b x y) (Nat.le_trans hl (by decide)),fun t' k'=>?_⟩
 exact ⟨((k₁.trans k₂).trans k₃).trans (Keep.ext fun Z Z e=>Heap.get?_push_of_some _ e),Rd.byt_⟩
noncomputable def i9 (b:Array UInt8):List D:=b.toList.map fun c=>.int (c.toNat:Int)
theorem nC (b:Array UInt8):(i9 b).length=b.size:=by simp [i9]
theorem rk {e:Expr} {x:Array UInt8} (c:Cx prog w env X τ ω s) (hh:A.handled=none) (he:EvD prog w A env X s e (.byt x)):EvI prog w A env X s e (i9 x):=by
 revert c hh he
 revert prog w A env X τ ω s e x;refine @(dr10 ?_);exists w10 _ _,prog,w,A,env,X,τ,ω,s,e,x
 intro c hh he
 exact fun s' k =>
 (he.keep k).go fun v s₁ k₁ h₁=>by
  refine Rd.bytE h₁ fun t Z1=>?_;subst Z1
  have g:=(c.keep (k.trans k₁)).gd
  refine ⟨k₁,KBw.pyIter_bytes ⟨Keep.push (tk:=s₁.toks),_,[s₁.heap.objs.size],(fun i h=>KBw.IsBytesIter h s₁.heap.objs.size x t i),rfl,⟨?_,⟨_,Heap.get?_push_size _ rfl,rfl,rfl⟩,fun b hb=>by rw [ay hb];exact af _,fun b hb=>by rw [ay hb];exact g.top.size,fun i h st b hb=>?_,fun i h st=>?_⟩⟩⟩
  ·have W:=KBw.walks (prog:=prog) (w:=w) hh s₁.heap.objs.size x t
   rw [show x.size=(i9 x).length by simp [i9]] at W
   refine ⟨_,_,W,fun b hb=>by rw [ay hb];exact ⟨g.fresh,by show (Heap.get? _ _).isSome=true;rw [Heap.get?_push_size _ rfl];rfl⟩,fun i v hv=>?_⟩
   refine ex22 hv fun c' u h1 Z1=>?_;clear hv;subst Z1
   exact ⟨.int (c'.toNat:Int),by simp [i9,h1],fun h' X' Z=>Rd.int_⟩
  ·rw [ay hb]
   refine ex12 st fun o ho Z=>?_;clear st
   rw [ho];rfl
  ·refine ex13 st fun o ho hc Z=>?_;clear st
   exact ⟨o,_,ho,hc,by decide⟩
theorem tQ {f:Str} {q p:Pos} {e:Expr} {i:Int} (hf:EvV prog w A env s (.Name f q) (.builtin "chr")) (he:EvBs prog w A env X s [e] [.d (.int i)]) (h0:0≤i) (h1:i < 1000) :
  EvD prog w A env X s (.Call (.Name f q) [e] [] p) (.str ⟨#[i.toNat]⟩) :=
 bz hf he (fun s' Z=>aJ) fun vs s' k h=>by
  refine aO h fun v Z1 h2=>?_;subst Z1
  refine h2.intE fun t Z1=>?_;subst Z1
  exact PySem.P.chr_of_int (by simp;lia) ⟨Keep.toks,Rd.str_⟩
theorem tR {f:Str} {q p:Pos} {e:Expr} {c:Nat} (hf:EvV prog w A env s (.Name f q) (.builtin "ord")) (he:EvBs prog w A env X s [e] [.d (.str ⟨#[c]⟩)]) :
  EvD prog w A env X s (.Call (.Name f q) [e] [] p) (.int (c:Int)) :=
 bz hf he (fun s' Z=>aJ) fun vs s' k h=>by
  refine aO h fun v Z1 h2=>?_;subst Z1
  refine h2.strE fun t Z1=>?_;subst Z1
  exact PySem.P.ord_of_char ⟨Keep.toks,Rd.int_⟩
theorem fU:∀ {ys:List Str} {h:Heap} {vs:List Value},RdL prog w h X (ys.map .str) vs→StrsAre vs ys
 | [],h,vs,x=>by
  rw [List.map_nil] at x;unfold RdL at x;subst x;exact .nil
 | y::ys,h,vs,x=>by
  rw [List.map_cons] at x
  refine RdL.consE x fun v r Z1 a b=>?_;clear x;subst Z1
  refine Rd.strE a fun t Z1=>?_;subst Z1
  exact .cons _ _ (fU b)
theorem jY {f:Str} {q p px:Pos} {x:Str} {a:Addr} {ds:List D} (c:Cx prog w env X τ ω s) (hf:EvV prog w A env s (.Name f q) (.type "tuple")) (hx:τ.lookup x=some (.v (.ref a))) (hm:(a,OD.lst ds)∈ω) (hl:ds.length≤1000)
  (hd:autoParam ((x == ("__debug__":Str))=false) fb._auto_1):EvD prog w A env X s (.Call (.Name f q) [.Name x px] [] p) (.tup ds) :=
 bz hf (qt (X:=X) (az (.ref a) c hx hd) al) (fun s' Z=>cz) fun vs s' k h=>by
  refine ex12 (dZ h) fun v Z1 h1=>?_;subst Z1
  subst h1
  have c':=c.keep k
  refine ai (c'.own _ hm) fun Z1 Z=>?_;refine ex22 Z1 fun vs n hg hr=>?_;clear Z1
  refine call_tuple_list (ah hg) (fun h' hk=>?_) (by have:=hr.length;simp [this,aM];exact Nat.le_add_left_of_le hl)
  have kk:Keep [] s' { s' with heap:=h'.push { cls:=.type "tuple",data:=.seq vs.toArray } }:=Keep.ext (tk:=s'.toks) fun Z Z e=>Heap.get?_push_of_some _ (hk _ _ e)
  have k1:Keep [] s' { s' with heap:=h' }:=Keep.ext (tk:=s'.toks) hk
  exact ⟨kk,Rd.tup_new (tk:=0) (s:={ s' with heap:=h' }) (c'.keep k1).gd (RdL.mv (fun b o hb e=>⟨hb,hk b o e⟩) _ _ hr)⟩
theorem ja {xs:List (Int×Tok)} {i:Nat} (h:i < xs.length):numAt xs.toArray i∈xs.map (·.1):=by
 unfold numAt
 rw [List.getElem?_toArray,List.getElem?_eq_getElem h]
 exact List.mem_map_of_mem (List.getElem_mem h)
theorem gV {xs:List (Int×Tok)} {z:Int} (h:z∈xs.map (·.1)):∃ j,j < xs.length∧numAt xs.toArray j=z:=by
 refine mM h fun p hp Z1=>?_;subst Z1
 refine ex21 (List.mem_iff_getElem.mp hp) fun j hj e=>?_
 refine ⟨j,hj,?_⟩
 unfold numAt
 rw [List.getElem?_toArray,List.getElem?_eq_getElem hj,e];rfl
theorem rl {a:Addr} {vs:List Value} {n:Nat} {l:List Int} {z:Int} (hh:A.handled=none) (hg:s.heap.get? a=some (bo vs n)) (hr:RdL prog w s.heap X (l.map .int) vs) (hz:z∈l) (hm:∀ y∈l,y≤z) :
  WP prog w A (call (.builtin "max") [.ref a] []) (fun v s'=>Keep [] s s'∧∃ t,v=.int z t) s:=by
 refine ex12 (cW hr) fun xs Z1 Z2=>?_;subst Z1;subst Z2
 have hlen:0 < xs.length:=List.length_pos_iff.mpr fun e=>by subst e;exact nM hz
 refine max_intList (xs:=xs.toArray) hh (by have:=ah hg;simpa [intItems] using this) (by simpa using hlen) fun v h' tk hv hk=>⟨ec hk,?_⟩
 refine ex11 (intItems_at hv) fun t Z1=>?_;subst Z1
 refine ai (argBest_gt (numAt xs.toArray) (xs.toArray.size - 1)) fun b1 b2=>?_
 have hb:argBest (fun i j=>decide (numAt xs.toArray i > numAt xs.toArray j)) (xs.toArray.size - 1) < xs.length:=by simp at b1 ⊢;lia
 refine ex12 (gV hz) fun j hj e=>?_
 have h1:=b2 j (by simp;lia)
 have h2:=hm _ (ja hb)
 exact ⟨t,by rw [show numAt xs.toArray (argBest (fun i j=>decide (numAt xs.toArray i > numAt xs.toArray j)) (xs.toArray.size - 1))=z by lia]⟩
theorem rm {a:Addr} {vs:List Value} {n:Nat} {l:List Int} {z:Int} (hh:A.handled=none) (hg:s.heap.get? a=some (bo vs n)) (hr:RdL prog w s.heap X (l.map .int) vs) (hz:z∈l) (hm:∀ y∈l,z≤y) :
  WP prog w A (call (.builtin "min") [.ref a] []) (fun v s'=>Keep [] s s'∧∃ t,v=.int z t) s:=by
 refine ex12 (cW hr) fun xs Z1 Z2=>?_;subst Z1;subst Z2
 have hlen:0 < xs.length:=List.length_pos_iff.mpr fun e=>by subst e;exact nM hz
 refine min_intList (xs:=xs.toArray) hh (by have:=ah hg;simpa [intItems] using this) (by simpa using hlen) fun v h' tk hv hk=>⟨ec hk,?_⟩
 refine ex11 (intItems_at hv) fun t Z1=>?_;subst Z1
 refine ai (argBest_lt (numAt xs.toArray) (xs.toArray.size - 1)) fun b1 b2=>?_
 have hb:argBest (fun i j=>decide (numAt xs.toArray i < numAt xs.toArray j)) (xs.toArray.size - 1) < xs.length:=by simp at b1 ⊢;lia
 refine ex12 (gV hz) fun j hj e=>?_
 have h1:=b2 j (by simp;lia)
 have h2:=hm _ (ja hb)
 exact ⟨t,by rw [show numAt xs.toArray (argBest (fun i j=>decide (numAt xs.toArray i < numAt xs.toArray j)) (xs.toArray.size - 1))=z by lia]⟩
theorem tS {f:Str} {q p:Pos} {e:Expr} {l:List Int} {z:Int} (c:Cx prog w env X τ ω s) (hh:A.handled=none) (hf:EvV prog w A env s (.Name f q) (.builtin "max")) (he:EvD prog w A env X s e (am l)) (hz:z∈l) (hm:∀ y∈l,y≤z)
  (hs:autoParam (∀ rest,starEach (e::rest) env=(false,eval e env)::starEach rest env) e8._auto_1):EvD prog w A env X s (.Call (.Name f q) [e] [] p) (.int z) :=
 bz hf (aH (X:=X) he al hs) (fun s' Z=>aJ) fun vs s' k h=>by
  refine aO h fun v Z1 h1=>?_;subst Z1
  refine h1.lstE fun a vs n Z1 hx hg hr=>?_;subst Z1
  exact wpAny_mono (rl hh hg hr hz hm) (fun v s'' q=>⟨q.1,by (refine ex11 q.2 fun t Z1=>?_;subst Z1);exact Rd.int_⟩) fun Z Z z=>z
theorem tU {f:Str} {q p:Pos} {e:Expr} {l:List Int} {z:Int} (c:Cx prog w env X τ ω s) (hh:A.handled=none) (hf:EvV prog w A env s (.Name f q) (.builtin "min")) (he:EvD prog w A env X s e (am l)) (hz:z∈l) (hm:∀ y∈l,z≤y)
  (hs:autoParam (∀ rest,starEach (e::rest) env=(false,eval e env)::starEach rest env) e8._auto_1):EvD prog w A env X s (.Call (.Name f q) [e] [] p) (.int z) :=
 bz hf (aH (X:=X) he al hs) (fun s' Z=>aJ) fun vs s' k h=>by
  refine aO h fun v Z1 h1=>?_;subst Z1
  refine h1.lstE fun a vs n Z1 hx hg hr=>?_;subst Z1
  exact wpAny_mono (rm hh hg hr hz hm) (fun v s'' q=>⟨q.1,by (refine ex11 q.2 fun t Z1=>?_;subst Z1);exact Rd.int_⟩) fun Z Z z=>z
theorem kT {sep:Expr} {ap p:Pos} {e:Expr} {ys:List Str} {x:Str} (c:Cx prog w env X τ ω s) (ho:EvD prog w A env X s sep (.str x)) (he:EvD prog w A env X s e (.lst (ys.map .str))) (hx:x.length≤16) (hw:(ys.map (·.length)).sum + ys.length≤1048576)
  (hse:autoParam (∀ rest,starEach (e::rest) env=(false,eval e env)::starEach rest env) e8._auto_1)
  (hbase:autoParam (attributeBase sep ("join":Str) env (eval sep env)=eval sep env) cT._auto_1) (hline:autoParam ((ap.endLine == p.line)=true) cT._auto_1) :
  EvD prog w A env X s (.Call (.Attribute sep ("join":Str) ap) [e] [] p) (.str (Txt.join x ys)):=by
 revert c ho he hx hw hse hbase hline
 revert prog w A env X τ ω s sep ap p e ys x;refine @(dr14 ?_);exists w14 _ _,prog,w,A,env,X,τ,ω,s,sep,ap,p,e,ys,x
 intro c ho he hx hw hse hbase hline
 intro s' k
 refine dD (T:="str") (b:=.d (.str x)) (bs:=[.d (.lst (ys.map .str))]) F.plainAttrs_str F.slot_str_join F.type_str_join (ho.keep k) (aH (he.keep k) al hse) (fun v s₁ k₁ h₁=>?_) (fun v vs s₁ k₁ h₁ h₂=>?_) (by show 1 < 29;decide) hbase hline
 ·refine Rd.strE (prog:=prog) (w:=w) (X:=X) (h:=s₁.heap) h₁ fun t Z1=>?_;subst Z1
  exact ⟨PySem.typeIs_str _ _ _,fun a e=>by cases e⟩
 ·refine Rd.strE (prog:=prog) (w:=w) (X:=X) (h:=s₁.heap) h₁ fun t Z1=>?_;subst Z1
  refine aO h₂ fun v Z1 h3=>?_;subst Z1
  refine h3.lstE fun a vs n Z1 hx' hg hr=>?_;subst Z1
  exact join_listW (ah hg) (fU (by simpa using hr)) hx hw fun t' k'=>⟨k₁.trans Keep.toks,Rd.str_⟩
noncomputable def startAt (l:List Int):Nat→Int
 | 0=>0
 | i + 1=>startAt l i + l.getD i 0
noncomputable def cn (b:Array UInt8) (l:List Int) (i:Nat):Array UInt8:=KBy.picked b (some (startAt l i)) (some (startAt l i + l.getD i 0))
noncomputable def dp (b:Array UInt8) (l:List Int):Nat→Array UInt8
 | 0=>#[]
 | i + 1=>dp b l i++cC (cn b l i) (l.getD i 0).toNat 1
noncomputable def sx:D→D
 | .int i=>.str ⟨#[i.toNat]⟩
 | _=>.none
noncomputable def dQ (b:Array UInt8):List Str:=b.toList.map fun c=>⟨#[c.toNat]⟩
noncomputable def cX (ln:Array UInt8) (l:List Int) (i:Nat):Str:=Txt.join (Str.ofString "") (dQ (cn ln l i))
noncomputable def be (b:Array UInt8) (l:List Int) (eq:Bool):Array UInt8:=if eq then cC b (l.getD 0 0).toNat l.length else dp b l l.length
noncomputable def fh (b:Array UInt8) (l:List Int) (eq:Bool):List Str:=(List.range l.length).map (cX (be b l eq) l)
structure Sizes (b:Array UInt8) (l:List Int):Prop where
 len:l.length≤100
 pos:∀ i,i < l.length→1≤l.getD i 0∧l.getD i 0 < 1000
 fit:∀ i,i < l.length→startAt l i + l.getD i 0≤b.size
 size:b.size < 1000
theorem eV {b:Array UInt8} {l:List Int} (h:Sizes b l):∀ {i:Nat},i≤l.length→0≤startAt l i
 | 0,_=>Int.le_refl _
 | i + 1,hi=>by
  have:=eV h (i:=i) (by lia)
  have:=(h.pos i hi).1
  unfold startAt;lia
theorem jb {b:Array UInt8} {l:List Int} (h:Sizes b l) {i:Nat} (hi:i < l.length):(cn b l i).size=(l.getD i 0).toNat:=by
 have h0:=eV h (Nat.le_of_lt hi)
 have h1:=h.pos i hi
 have h2:=h.fit i hi
 unfold cn
 rw [KBc.picked_eq]
 refine ex11 (Int.eq_ofNat_of_zero_le h0) fun m hm=>?_
 refine ex11 (Int.eq_ofNat_of_zero_le (show 0≤l.getD i 0 by lia)) fun k hk=>?_
 rw [hm,hk] at h2
 rw [hm,hk]
 show (List.take (clipAt b.size ((m:Int) + (k:Int)) - clipAt b.size (m:Int)) (List.drop (clipAt b.size (m:Int)) b.toList)).toArray.size=_
 rw [show ((m:Int) + (k:Int))=((m + k:Nat):Int) by push_cast;rfl,clipAt_nat,clipAt_nat]
 have hmk:m + k≤b.size:=Int.ofNat_le.mp h2
 rw [Nat.min_eq_left hmk,Nat.min_eq_left (Nat.le_trans (Nat.le_add_right m k) hmk),Nat.add_sub_cancel_left,List.size_toArray,List.length_take,List.length_drop,Array.length_toList]
 exact Nat.min_eq_left (Nat.le_sub_of_add_le (by rw [Nat.add_comm];exact hmk))
theorem eG {b:Array UInt8} {l:List Int} (h:Sizes b l):∀ {i:Nat},i≤l.length→((dp b l i).size:Int)=startAt l i
 | 0,_=>rfl
 | i + 1,hi=>by
  have e:=eG h (i:=i) (by lia)
  have:=(h.pos i hi).1
  unfold dp startAt
  rw [Array.size_append,bU,jb h hi]
  push_cast
  lia
theorem kU {l:List Int} {i:Nat} {d:D} (h:(l.map D.int)[i]?=some d):i < l.length∧d=.int (l.getD i 0):=by
 rw [List.getElem?_map] at h
 refine mO h fun z hz Z1=>?_;subst Z1
 exact ⟨(List.getElem?_eq_some_iff.mp hz).1,by rw [List.getD_eq_getElem?_getD,hz];rfl⟩
theorem rn {A:Around} {env:Env} {X:List Addr} {s:Shared} {k:Nat} {p:Pos}:EvD prog w A env X s (.Constant (.bytes []) k p) (.byt #[]):=fun s' Z=>Constant_bytes ⟨Keep.toks,Rd.byt_⟩
theorem uC {A:Around} {env:Env} {X:List Addr} {s:Shared} {e:Expr} {d:D} (h:EvD prog w A env X s e d):EvN prog w A env e s fun Z s v=>BdOk prog w s.heap X (.d d) v:=fun s' k=>aT (h s' k)
theorem nD (b:Array UInt8) (l:List Int) (mn mx:Int) (h:Sizes b l) (hmn:mn∈l) (hmn':∀ y∈l,mn≤y) (hmx:mx∈l) (hmx':∀ y∈l,y≤mx) (heq:mn=mx→b.size=l.length * (l.getD 0 0).toNat) :
  tN prog w 3 145 [.byt b,.lst (l.map .int)] (.tup ((fh b l (mn == mx)).map .str)):=by
 revert h hmn hmn' hmx hmx' heq
 revert prog w b l mn mx;refine @(dr6 ?_);exists w6 _ _,prog,w,b,l,mn,mx
 intro h hmn hmn' hmx hmx' heq
 exact nz (i:=19) (names:=["octets", "sizes"]) (by decide +kernel) (fun A s X env M s₁ ao hg g hsc hM hlo hce S=>by
  first | (revert ao hg g hsc hM hlo hce S;revert A s X env M s₁;refine @(dr6 ?_);exists w6 _ _,A,s,X,env,M,s₁;intro ao hg g hsc hM hlo hce S) | skip
  have fe:Fe env 19:=⟨hsc,hlo,hce⟩
  have hl0:0 < l.length:=List.length_pos_iff.mpr fun e=>by subst e;exact nM hmn
  have hb0:=h.size
  have tail:∀ (s₂:Shared) (M':List Addr),Sx prog w s env M (M++X) [("start",.d (.int (startAt l l.length))),("octets",.d (.byt b)),("sizes",.d (.lst (l.map .int)))] [] s₂→True:=fun Z Z Z=>trivial
  refine fS S (.d (.byt #[])) (fe.own rfl) (uC rn) fun s₂ S2=>?_
  refine fS S2 (.d (.int 0)) (fe.own rfl) (uC ag) fun s₃ S3=>?_
  have c:=S3.cx
  have line:∀ (st:Int) (s₄:Shared),Sx prog w s env M (M++X) [("line",.d (.byt (be b l (mn == mx)))),("octets",.d (.byt b)),("sizes",.d (.lst (l.map .int)))] [] s₄ →
    WN prog w A (execs ((fnBody 19).drop 3) env) (fun f s'=>Keep M s s'∧Rd prog w s'.heap X (.tup ((fh b l (mn == mx)).map .str)) (dU f)) s₄:=fun st s₄ S4=>by
   have hlz:(be b l (mn == mx)).size=b.size∨((be b l (mn == mx)).size:Int)=startAt l l.length:=by
    unfold be
    by_cases he:(mn == mx)=true
    ·rw [if_pos he];exact .inl bU
    ·rw [if_neg he];exact .inr (eG h (Nat.le_refl _))
   have hlast:startAt l l.length≤b.size:=by
    obtain ⟨k,hk⟩:∃ k,l.length=k + 1:=⟨l.length - 1,by lia⟩
    have:=h.fit k (by lia)
    rw [hk]
    exact this
   have hln:(be b l (mn == mx)).size < 1000:=by lia
   unfold fh
   revert S4 hlz hln
   generalize be b l (mn == mx)=ln
   intro S4 hlz hln
   refine aT ?_
   refine cj (ds:=[]) S4 (fe.own rfl) al (by decide) fun a s₅ ha S5=>?_
   refine dT S5 (.d (.int 0)) (fe.own rfl) (ag (X:=a::(M++X))) fun s₆ S6=>?_
   refine fE S6 (ds:=l.map .int) (bu S6.cx ao.h (aa (.lst (l.map .int)) S6.cx rfl)) (fun i=>[("line",.d (.byt ln)),("pieces",.v (.ref a)),("start",.d (.int (startAt l i))),("sizes",.d (.lst (l.map .int)))]) (fun i=>[(a,.lst (((List.range i).map (cX ln l)).map .str))]) (fun Z Z=>False) (fun i d=>[("size",.d d)]) ⟨rfl,rfl,rfl,rfl,trivial⟩ rfl
    (fun i d Z=>au (fe.own rfl)) (fun i d X' s' hd hX S'=>?_) (fun s' S'=>?_) (fun Z Z Z h=>h.elim)
   ·refine ai (kU hd) fun hi Z1=>?_;subst Z1
    have c:=S'.cx
    have hsz:(cn ln l i).size < 1000:=Nat.lt_of_le_of_lt (KBc.size_picked_le _ _ _) hln
    refine d0 (ω1:=[]) (ω2:=[]) (d:=.str (cX ln l i)) S' rfl rfl (by simp) (kT (ys:=dQ (cn ln l i)) c aX
     ?_ (by decide) ?_) ?_ fun s₇ S7=>?_
    ·refine (dc (τf:=[]) (ds:=i9 (cn ln l i)) (σ:=fun d=>[("octet",.d d)]) (pz:=fun Z=>true) (g:=sx) c ?_
      (fun s'' k=>⟨(aE fe (by decide +kernel)).1,(aE fe (by decide +kernel)).2,by decide +kernel,by decide +kernel,trivial,by rfl,by rw [nC];lia,fun d hd=>trivial,fun d hd cenv M ce=>au (ce.st rfl),fun d hd cenv X'' ω s'' hX'' ce c=>bH,fun d hd Z cenv X'' ω s'' hX'' ce c=>?_⟩) (by decide +kernel)).to ?_
     ·exact rk c ao.h (kS (x:=some (startAt l i)) (y:=some (startAt l i + l.getD i 0)) c (aa (.byt ln) c rfl) (aa (.int (startAt l i)) c rfl) (aF c (aa (.int (startAt l i)) c rfl) (aa (.int (l.getD i 0)) c rfl) bR) (by lia))
     ·refine mM hd fun o ho Z1=>?_;subst Z1
      have:=o.toNat_lt
      exact tQ (aY _ c (ce.gl rfl) rfl) (aH (aa (.int (o.toNat:Int)) c rfl) al) (by lia) (by lia)
     ·rw [List.filter_eq_self.mpr (fun Z Z=>rfl)]
      simp [i9,dQ]
      refine congrArg D.lst (List.map_congr_left fun c Z=>?_);rfl
    ·have e:((dQ (cn ln l i)).map (·.length)).sum≤(cn ln l i).size:=by
      unfold dQ
      rw [← Array.length_toList,List.map_map]
      induction (cn ln l i).toList with
      | nil=>simp
      | cons x r ih=>rw [List.map_cons,List.sum_cons,List.length_cons];show 1 + _≤_;lia
     have e2:(dQ (cn ln l i)).length=(cn ln l i).size:=by simp [dQ]
     lia
    ·simp;have:=h.len;lia
    ·refine jB S7 (a:=.int (startAt l i)) (b:=.int (l.getD i 0)) (d:=.int (startAt l (i + 1))) (fe.own rfl) rfl (aa (.int (l.getD i 0)) S7.cx rfl) dL fun s₈ S8=>ax ?_
     have e:((List.range i).map (cX ln l)).map D.str++[D.str (cX ln l i)]=((List.range (i + 1)).map (cX ln l)).map .str:=by rw [List.range_succ];simp
     rw [List.nil_append,e] at S8
     exact S8.cover ⟨rfl,rfl,rfl,rfl,trivial⟩
   ·rw [List.length_map] at S'
    refine ca S' (jY (a:=a) (ds:=((List.range l.length).map (cX ln l)).map .str) S'.cx (aY _ S'.cx (fe.gl rfl) rfl) rfl (.head _) (by simp;have:=h.len;lia)) fun s₈ v S8 e=>?_
    refine ⟨S8.base.dropTo fun x hx=>?_,Rd.less e fun x hx=>.tail _ (mR hx)⟩
    refine mC hx (fun Z1=>?_) fun hx=>?_;subst Z1
    ·exact .inr (S4.base.none_back ha)
    ·exact .inl hx
  refine su S3 (mn == mx) (aZ c (tU c ao.h (aY _ c (fe.gl rfl) rfl) (aa (.lst (l.map .int)) c rfl) hmn hmn') (tS c ao.h (aY _ c (fe.gl rfl) rfl) (aa (.lst (l.map .int)) c rfl) hmx hmx') cZ) (fun he s₄ S4=>?_) (fun he s₄ S4=>?_)
  ·have c:=S4.cx
   have hp:=h.pos 0 hl0
   have hbe:=heq (by simpa using he)
   refine fS S4 (.d (.byt (be b l (mn == mx)))) (fe.own rfl) (iA (u:=.ref 91) (bs:=[.d (.byt b),.d (.int (((l.getD 0 0).toNat:Nat):Int))]) (bj _ c (fe.gl rfl) rfl) (aH (aa (.byt b) c rfl) (aH ((cH c (aa (.lst (l.map .int)) c rfl) (ag (i:=0)) (dM (d:=.int (l.getD 0 0)) (by decide) ?_ (by rw [List.length_map];have:=h.len;lia))).to (by congr 1;lia)) al))
    (fun s' k=>cG (i:=10) (c.keep k).top (by decide)) (fun s₁ s₂ s₃ v k p=>p) fun vs s' k hv=>?_) fun s₅ S5=>?_
   ·rw [List.getElem?_map,List.getD_eq_getElem?_getD]
    show Option.map D.int l[0]?=_
    rw [List.getElem?_eq_getElem hl0];rfl
   ·refine av (fT b l.length (l.getD 0 0).toNat hbe (by lia) (by lia) (by lia) A s' (M++X) vs (ao.less (by decide)) hg (c.keep k).gd (bW hv)) (fun v s'' q=>⟨q.1,?_⟩) fun Z Z z=>z
    have e:be b l (mn == mx)=cC b (l.getD 0 0).toNat l.length:=by unfold be;rw [he];rfl
    rw [e];exact q.2
   ·exact aT (ax (prog:=prog) (w:=w) (A:=A) (env:=env) (Q:=fun f s=>fR prog w A env _ _ f s) (line 0 s₅ (S5.cover ⟨rfl,rfl,rfl,trivial⟩)))
  ·have c:=S4.cx
   refine qy S4 (ds:=l.map .int) (bu c ao.h (aa (.lst (l.map .int)) c rfl)) (fun i=>[("line",.d (.byt (dp b l i))),("start",.d (.int (startAt l i))),("octets",.d (.byt b)),("sizes",.d (.lst (l.map .int)))]) (fun Z=>[]) (fun Z Z=>False) (fun i d=>[("size",.d d)]) ⟨rfl,rfl,rfl,rfl,trivial⟩ rfl
    (fun i d Z=>au (fe.own rfl)) (fun i d X' s' hd hX S'=>?_) (fun s' S'=>?_) (fun Z Z Z h=>h.elim)
   ·refine ai (kU hd) fun hi Z1=>?_;subst Z1
    have c:=S'.cx
    have hp:=h.pos i hi
    have hls:=eG h (Nat.le_of_lt hi)
    have hfi:=h.fit i hi
    have hcs:=jb h hi
    refine sw S' (a:=.byt (dp b l i)) (b:=.byt (cC (cn b l i) (l.getD i 0).toNat 1)) (d:=.byt (dp b l (i + 1))) (fe.own rfl) rfl
     (iA (u:=.ref 91) (bs:=[.d (.byt (cn b l i)),.d (.int (((l.getD i 0).toNat:Nat):Int))]) (bj _ c (fe.gl rfl) rfl)
      (aH (kS (x:=some (startAt l i)) (y:=some (startAt l i + l.getD i 0)) c (aa (.byt b) c rfl) (aa (.int (startAt l i)) c rfl) (aF c (aa (.int (startAt l i)) c rfl) (aa (.int (l.getD i 0)) c rfl) bR) (by lia)) (aH ((aa (.int (l.getD i 0)) c rfl).to (by congr 1;lia)) al))
      (fun s' k=>cG (i:=10) (c.keep k).top (by decide)) (fun s₁ s₂ s₃ v k p=>p) fun vs s'' k hv=>?_) (pE (by rw [bU,hcs];lia)) fun s₅ S5=>?_
    ·exact fT (cn b l i) 1 (l.getD i 0).toNat (by rw [hcs];lia) (by lia) (by lia) (by lia) A s'' X' vs (ao.less (by decide)) hg (c.keep k).gd (bW hv)
    ·exact aT (jB S5 (a:=.int (startAt l i)) (b:=.int (l.getD i 0)) (d:=.int (startAt l (i + 1))) (fe.own rfl) rfl (aa (.int (l.getD i 0)) S5.cx rfl) dL fun s₆ S6=>ax (S6.cover ⟨rfl,rfl,rfl,rfl,trivial⟩))
   ·rw [List.length_map] at S'
    have e:be b l (mn == mx)=dp b l l.length:=by unfold be;rw [he];rfl
    exact aT (ax (prog:=prog) (w:=w) (A:=A) (env:=env) (Q:=fun f s=>fR prog w A env _ _ f s) (line 0 s' (by rw [e];exact S'.cover ⟨rfl,rfl,rfl,trivial⟩)))) (il fun Z Z Z Z Z=>rfl)
theorem EvN.keep {e:Expr} {P:Shared→Shared→Value→Prop} (x:EvN prog w A env e s P) (k:Keep [] s s'):EvN prog w A env e s' P:=fun s'' k'=>x s'' (k.trans k')
noncomputable abbrev ro (prog:Program) (w:World) (A:Around) (env:Env) (X:List Addr) (s:Shared) (e:Expr) (b:Bd):Prop:=EvN prog w A env e s fun Z s v=>BdOk prog w s.heap X b v
theorem bN {e:Expr} {b:Bd} (h:tD prog w A env X s e b):ro prog w A env X s e b:=fun s' k=>aT (h s' k)
inductive EvNs (prog:Program) (w:World) (A:Around) (env:Env) (X:List Addr) (s:Shared):List Expr→List Bd→Prop
 | nil:EvNs prog w A env X s [] []
 | cons {e:Expr} {es:List Expr} {b:Bd} {bs:List Bd}:(∀ rest,starEach (e::rest) env=(false,eval e env)::starEach rest env)→ro prog w A env X s e b→EvNs prog w A env X s es bs→EvNs prog w A env X s (e::es) (b::bs)
theorem EvNs.keep {es:List Expr} {bs:List Bd} (h:EvNs prog w A env X s es bs) (k:Keep [] s s'):EvNs prog w A env X s' es bs:=by
 induction h with
 | nil=>exact .nil
 | cons a b _ ih=>exact .cons a (EvN.keep b k) ih
theorem EvNs.plain {es:List Expr} {bs:List Bd} (h:EvNs prog w A env X s es bs) (pos:Pos):(backTo pos (starEach es env)).any (·.1)=false:=by
 induction h with
 | nil=>rfl
 | cons a _ _ ih=>rw [a];exact ih
theorem iB {Q:List Value→Shared→Prop} (h:Q [] s):WN prog w A (spliced []) Q s:=aI h
theorem gw {x:Sem Value} {rest:List (Bool×Sem Value)} {Q:List Value→Shared→Prop}
  (h:WN prog w A x (fun v s₁=>WN prog w A (spliced rest) (fun vs s₂=>Q (v::vs) s₂) s₁) s):WN prog w A (spliced ((false,x)::rest)) Q s:=by
 show bM _ _ (spliced ((false,x)::rest)) _ _ _
 rw [spliced]
 refine aw (av h (fun v s₁ h₁=>?_) fun Z Z x=>x)
 refine nF (by decide) ?_
 exact aw (aI (aw (bq (av h₁ (fun vs s₂ h₂=>aI h₂) fun Z Z x=>x))))
theorem EvNs.go {es:List Expr} {bs:List Bd} (h:EvNs prog w A env X s es bs) (pos:Pos) {Q:List Value→Shared→Prop} (hq:∀ vs s',Keep [] s s'→Args3 prog w s'.heap X bs vs→Q vs s') :
  WN prog w A (spliced (backTo pos (starEach es env))) Q s:=by
 induction es generalizing bs s Q with
 | nil=>cases h;exact iB (hq [] s (Keep.refl _ _) .nil)
 | cons e es ih =>
  cases h with
  | cons a b r =>
   rw [a]
   refine gw (av (b s (Keep.refl _ _)) (fun v s₁ h₁=>?_) fun Z Z z=>z)
   exact ih (r.keep h₁.1) fun vs s₂ k₂ h₂=>hq _ s₂ (h₁.1.trans k₂) (.cons (h₁.2.keep k₂.any) h₂)
theorem pF {es:List Expr} {k:Nat} {p:Pos} {ds:List D} (c:Cx prog w env X τ ω s) (h:EvNs prog w A env X s es (ds.map Bd.d)) (hsz:autoParam (ds.length≤1000) fb._auto_1):ro prog w A env X s (.Tuple es k p) (.d (.tup ds)):=fun s' k'=>by
 show bM _ _ (do standAt p;newTuple (← spliced (backTo p (starEach es env)))) _ _ _
 refine aw (dk (aw ((h.keep k').go p fun vs s₁ k₁ h₁=>?_)))
 have hr:=bW h₁
 refine aT (wpAny_newTuple ⟨k₁.trans (Keep.push (tk:=s₁.toks)),Rd.tup_new (tk:=0) (c.keep (k'.trans k₁)).gd hr⟩ ?_)
 rw [hr.length,aM];exact Nat.le_add_left_of_le hsz
theorem lY {f:Value} {x:Sem Value} {rest:List (Bool×Sem Value)} {Q:Args→Shared→Prop}
  (h:WN prog w A (spliced ((false,x)::rest)) (fun vs s'=>Q ⟨vs,[]⟩ s') s):WN prog w A (evalArgs f true ((false,x)::rest) []) Q s:=by
 unfold evalArgs
 show bM _ _ (spliced ((false,x)::rest) >>= _) _ _ s
 refine aw (av h (fun vs s' h'=>?_) fun Z Z x=>x)
 refine bq ?_
 exact aw (aI (aw (aI (aI h'))))
theorem jZ {f:Value} {first:List Value} {pos:Pos} {P:Heap→Prop} {Q:Value→Shared→Prop} {args:List (Bool×Sem Value)} {keywords:List (Option Str×Sem Value)} (hplain:(args.any (·.1) || keywords.any (·.1.isNone))=false)
  (hk:∀ h,P h→∃ k,(k=Keeper.frame∨k=Keeper.machine∨k=Keeper.boundFrame)∧Looks (model prog w) h (keeperOf f) k)
  (h:WN prog w A (evalArgs f true args keywords) (fun a s₁=>P s₁.heap∧WN prog w A (call f (first++a.pos) a.kw) Q s₁) s):WN prog w A (callWith pos f first args keywords) Q s:=by
 revert hplain hk h
 revert prog w A s f first pos P Q args keywords;refine @(dr11 ?_);exists w11 _ _,prog,w,A,s,f,first,pos,P,Q,args,keywords
 intro hplain hk h
 unfold callWith
 refine aw (bq (av h (fun a s₁ h₁=>aw (dk ?_)) fun Z Z x=>x))
 refine ex12 (hk _ h₁.1) fun k hk' L=>?_
 rw [hplain]
 refine an (L.here ?_)
 have tail:∀ {t:Sem Value},WN prog w A t Q s₁→WN prog w A (t >>= fun r=>holding [r] point >>= fun Z=>pure r) Q s₁ :=
  fun ht=>aw (av ht (fun r s₂ hr=>an (wpAny_holding (wpAny_point (aI hr)))) fun Z Z x=>x)
 have marked (mk:Value):WN prog w A (callMarked mk f (first++a.pos) a.kw) Q s₁:=by unfold callMarked;exact i7 h₁.2
 (refine ly hk' (fun Z1=>?_) (fun Z1=>?_) fun Z1=>?_ <;> subst Z1) <;> dsimp only <;> first | exact tail h₁.2 | (split <;> first | exact tail h₁.2 | exact tail (marked _))
theorem tV {f:Value} {first:List Value} {e:Expr} {es:List Expr} {b:Bd} {bs:List Bd} {pos:Pos} {Q:Value→Shared→Prop} (hes:EvNs prog w A env X s (e::es) (b::bs)) (hk:∀ s',Keep [] s s'→Kp prog w f s'.heap)
  (h:∀ vs s',Keep [] s s'→Args3 prog w s'.heap X (b::bs) vs→WN prog w A (call f (first++vs) []) Q s'):WN prog w A (callWith pos f first (backTo pos (starEach (e::es) env)) []) Q s:=by
 refine jZ (P:=Kp prog w f) (by rw [hes.plain pos];rfl) (fun h x=>x) ?_
 have hg:=hes.go pos (Q:=fun vs s'=>Kp prog w f s'.heap∧WN prog w A (call f (first++vs) []) Q s') fun vs s' k x=>⟨hk s' k,h vs s' k x⟩
 cases hes with
 | cons a b r =>
  rw [a] at hg ⊢
  exact lY hg
theorem qz (S:Sx prog w s₀ env M X τ ω s) {e:Expr} {p:Pos} {rest:List Stmt} {Q:Flow→Shared→Prop} {P:Shared→Value→Prop}
  (he:Ev prog w A env e s P) (h:∀ s' v,Sx prog w s₀ env M X τ ω s'→P s' v→Q (.ret v) s'):WN prog w A (execs (.Return (some e) p::rest) env) Q s:=aT (ca S he h)
theorem bb:∀ {ys:List Int} {h:Heap} {vs:List Value},RdL prog w h X (ys.map .int) vs→IntsAre vs ys
 | [],h,vs,x=>by
  rw [List.map_nil] at x;unfold RdL at x;subst x;exact .nil
 | y::ys,h,vs,x=>by
  rw [List.map_cons] at x
  refine RdL.consE x fun v r Z1 a b=>?_;clear x;subst Z1
  refine Rd.intE a fun t Z1=>?_;subst Z1
  exact .cons _ _ (bb b)
theorem jc {f:Str} {q p:Pos} {e:Expr} {l:List Int} (c:Cx prog w env X τ ω s) (hh:A.handled=none) (hf:EvV prog w A env s (.Name f q) (.type "bytes")) (he:EvD prog w A env X s e (am l)) (hr:∀ n∈l,0≤n∧n < 256) (hl:l.length≤1000)
  (hs:autoParam (∀ rest,starEach (e::rest) env=(false,eval e env)::starEach rest env) e8._auto_1):EvD prog w A env X s (.Call (.Name f q) [e] [] p) (.byt (byteArr l)) :=
 bz hf (aH (X:=X) he al hs) (fun s' Z=>cz) fun vs s' k h=>by
  refine aO h fun v Z1 h1=>?_;subst Z1
  refine h1.lstE fun a vs n Z1 hx hg hr'=>?_;subst Z1
  have hlen:=hr'.length
  refine call_bytes_ints (ah hg) (bb hr') hr (by rw [hlen,List.length_map,aM];exact Nat.le_add_left_of_le hl) hh fun h' t k' hk=>⟨Keep.ext hk,Rd.byt_⟩
noncomputable def bl (x:Str):Array UInt8:=byteArr (x.cps.toList.map fun c=>((c:Nat):Int))
noncomputable def rq:D→D
 | .str x=>.int ((x.cps.getD 0 0:Nat):Int)
 | _=>.none
theorem lZ (x:Str):(cA x).map rq=(x.cps.toList.map fun c=>((c:Nat):Int)).map .int:=by
 simp [cA,rq]
theorem sy {k:Nat} {l l':List Int} (ao:Ao k A):cv prog w A X (compareOp .NotEq) (am l) (am l') (.bool (!decide (l=l'))):=fun s u v Z h1 h2=>by
 refine h1.lstE fun a vs n Z1 hx hg hr=>?_;subst Z1
 refine h2.lstE fun a' vs' n' Z1 hx' hg' hr'=>?_;subst Z1
 exact ke_ne_ints (ah hg) (ah hg') (bb hr) (bb hr') ao.room ⟨Keep.refl _ _,Rd.bool_⟩
theorem sz {k:Nat} {l l':List Int} (ao:Ao k A):cv prog w A X (compareOp .Eq) (am l) (am l') (.bool (decide (l=l'))):=fun s u v Z h1 h2=>by
 refine h1.lstE fun a vs n Z1 hx hg hr=>?_;subst Z1
 refine h2.lstE fun a' vs' n' Z1 hx' hg' hr'=>?_;subst Z1
 exact ke_eq_ints (ah hg) (ah hg') (bb hr) (bb hr') ao.room ⟨Keep.refl _ _,Rd.bool_⟩
theorem sA {x y:Bool}:cv prog w A X (compareOp .NotEq) (.bool x) (.bool y) (.bool (x != y)):=fun s u v Z h1 h2=>by
 rw [h1.bool_inv,h2.bool_inv]
 exact PyProof.Rows.ne_bool ⟨Keep.refl _ _,Rd.bool_⟩
theorem gX {x y:Str}:cv prog w A X (compareOp .Eq) (.str x) (.str y) (.bool (x == y)):=fun s u v Z h1 h2=>by
 refine h1.strE fun t Z1=>?_;subst Z1;refine h2.strE fun t' Z1=>?_;subst Z1
 exact PyProof.Rows.eq_str ⟨Keep.refl _ _,Rd.bool_⟩
theorem qA {x y:Str}:cv prog w A X (compareOp .NotEq) (.str x) (.str y) (.bool (x != y)):=fun s u v Z h1 h2=>by
 refine h1.strE fun t Z1=>?_;subst Z1;refine h2.strE fun t' Z1=>?_;subst Z1
 exact PyProof.Rows.ne_str ⟨Keep.refl _ _,Rd.bool_⟩
theorem nE {a b:List D} (hl:a.length + b.length≤1000000):cv prog w A X (binaryOp .Add) (.tup a) (.tup b) (.tup (a++b)):=by
 revert hl
 revert prog w A X a b;refine @(dr6 ?_);exists w6 _ _,prog,w,A,X,a,b
 intro hl
 intro s u v g h1 h2
 have H1:=h1
 have H2:=h2
 refine h1.tupE fun l vs n Z1 hx hg hr=>?_;subst Z1
 refine h2.tupE fun l' vs' n' Z1 hx' hg' hr'=>?_;subst Z1
 have hl1:=hr.length
 have hl2:=hr'.length
 have e:vs.toArray++vs'.toArray=(vs++vs').toArray:=by simp
 by_cases hv:vs=[]
 ·subst hv
  have ha:a=[]:=List.length_eq_zero_iff.mp hl1.symm
  subst ha
  exact concat_meets ⟨_,hg,rfl⟩ ⟨_,hg',rfl⟩ noFill_tuple_add seq_tuple_add PySem.F.slot_tuple_add PySem.F.entry_tuple_add (PySem.F.args_tuple_add_2 _ _)
   (tuple_addW0 l l' [].toArray vs'.toArray n n' _ _ _ _ (by simp)) ⟨hg,hg',Keep.refl _ _,H2⟩
 ·by_cases hw:vs'=[]
  ·subst hw
   have hb:b=[]:=List.length_eq_zero_iff.mp hl2.symm
   subst hb
   rw [List.append_nil]
   exact concat_meets ⟨_,hg,rfl⟩ ⟨_,hg',rfl⟩ noFill_tuple_add seq_tuple_add PySem.F.slot_tuple_add PySem.F.entry_tuple_add (PySem.F.args_tuple_add_2 _ _)
    (tuple_addW1 l l' vs.toArray [].toArray n n' _ _ _ _ (by simpa using hv) (by simp)) ⟨hg,hg',Keep.refl _ _,H1⟩
  ·refine concat_meets ⟨_,hg,rfl⟩ ⟨_,hg',rfl⟩ noFill_tuple_add seq_tuple_add PySem.F.slot_tuple_add PySem.F.entry_tuple_add (PySem.F.args_tuple_add_2 _ _)
    (tuple_addW2 l l' vs.toArray vs'.toArray n n' _ _ _ _ (by simpa using hv) (by simpa using hw) (by rw [List.size_toArray,List.size_toArray,aM];lia)) ⟨hg,hg',Keep.push (tk:=s.toks),?_⟩
   rw [e]
   exact Rd.tup_new (tk:=0) g (hr.append hr')
noncomputable def attNames:List Str:=["lineno", "instream", "whitespace", "pushback", "read"]
structure KF (K:Frag):Prop where
 makes:makesIn K CL=true
 reads:readsIn K CL (.type "type")=true
 plain:plainOver K CL=true
 hasD:(clsIn K CL).any (·.hasDict)=true
 meth:∀ p∈methTab,findIn K (.ref CL) (fnName p.2)=some (some (.ref p.1))∧typeIn K (.ref p.1)=some (.type "function")
 ga:findIn K (.ref CL) "__getattribute__"=some (some (.builtin "object.__getattribute__"))
 gt:findIn K (.ref CL) "__getattr__"=some none
 sa:findIn K (.ref CL) "__setattr__"=some (some (.builtin "object.__setattr__"))
 att:∀ x∈attNames,findIn K (.ref CL) x=some none
theorem sB {K:Frag} (h:kOk K=true):KF K:=by
 unfold kOk at h
 simp only [Bool.and_eq_true,beq_iff_eq,List.all_eq_true] at h
 refine ai h fun Z1 h9=>?_;clear h;refine ai Z1 fun Z2 h8=>?_;refine ai Z2 fun Z3 h7=>?_;refine ai Z3 fun Z4 h6=>?_;refine ai Z4 fun Z5 h5=>?_;refine ai Z5 fun Z6 h4=>?_;refine ai Z6 fun Z7 h3=>?_;refine ai Z7 fun h1 h2=>?_;clear Z7;clear Z6;clear Z5;clear Z4;clear Z3;clear Z2;clear Z1
 exact ⟨h1,h2,h3,h4,h5,h6,h7,h8,h9⟩
theorem TopOk.frag {h:Heap} (t:TopOk h):∃ K:Frag,K.In h∧KF K:=by
 refine ex13 t.k fun K h1 Z h3=>?_
 exact ⟨K,h1,sB h3⟩
noncomputable abbrev dicO (es:List DictEntry) (n:Nat):Obj:={ cls:=.type "dict",data:=.dict es.toArray n }
theorem iC:∀ {es:List DictEntry} {ps:List (Str×Value)},AttOk es ps→∀ x,getL x es=some (ps.lookup x)
:=by
 intro es
 induction es with
 | nil =>
  intro ps h x
  cases ps with
  | nil=>rfl
  | cons _ _=>exact h.elim
 | cons e es ih =>
  intro ps h x
  cases ps with
  | nil=>exact h.elim
  | cons p ps =>
  refine br h fun ht hv r=>?_
  refine ex11 ht fun t hk=>?_
  have ih:=ih r x
  have hs:e.key.isStr x=(x == p.1):=by
   rw [hk]
   show (p.1 == x)=_
   rw [Bool.eq_iff_iff,beq_iff_eq,beq_iff_eq];exact eq_comm
  unfold getL at ih ⊢
  rw [List.find?_cons,List.lookup_cons,hs]
  cases x == p.1 with
  | true=>show some (some e.val)=_;rw [hv]
  | false =>
   have:e.refKey=false:=by unfold DictEntry.refKey;rw [hk]
   simp only [List.any_cons,this,Bool.false_or];exact ih
noncomputable def jd:List (Str×Value)→Str→Value→List (Str×Value)
 | [],x,v=>[(x,v)]
 | p::ps,x,v=>if p.1 == x then (p.1,v)::ps else p::jd ps x v
theorem iD {x:Str} {hs:Int} {t:Tok} {v:Value}:∀ {es:List DictEntry} {ps:List (Str×Value)},AttOk es ps→AttOk (putL x hs (.str x t) v es) (jd ps x v)
 | [],[],_=>⟨⟨t,rfl⟩,rfl,trivial⟩
 | e::es,p::ps,⟨⟨u,hk⟩,hv,r⟩=>by
  unfold putL jd
  have:e.key.isStr x=(p.1 == x):=by rw [hk];rfl
  rw [this]
  cases p.1 == x with
  | true=>exact ⟨⟨u,hk⟩,rfl,r⟩
  | false=>exact ⟨⟨u,hk⟩,hv,iD r⟩
 | [],_::_,h=>h.elim
 | _::_,[],h=>h.elim
theorem iE:∀ {es:List DictEntry} {ps:List (Str×Value)},AttOk es ps→es.length=ps.length
 | [],[],_=>rfl
 | e::es,p::ps,⟨_,_,r⟩=>by rw [List.length_cons,List.length_cons,iE r]
 | [],_::_,h=>h.elim
 | _::_,[],h=>h.elim
theorem gY:∀ {es:List DictEntry} {ps:List (Str×Value)},AttOk es ps→es.any (·.refKey)=false
 | [],[],_=>rfl
 | e::es,p::ps,⟨⟨t,hk⟩,_,r⟩=>by
  rw [List.any_cons,gY r]
  unfold DictEntry.refKey;rw [hk];rfl
 | [],_::_,h=>h.elim
 | _::_,[],h=>h.elim
section
variable {x:Addr} {dx:Addr} {ps:List (Str×Value)} {name:Str} {v:Value}
structure Inst (h:Heap) (x dx:Addr) (ps:List (Str×Value)):Prop where
 o:h.get? x=some (instObj CL dx)
 d:∃ es n,h.get? dx=some (dicO es n)∧AttOk es ps
theorem Inst.at (I:Inst s.heap x dx ps):∃ es n,s.heap.get? dx=some (dicO es n)∧AttOk es ps∧InstAt s.heap x (instObj CL dx) CL (some (dicO es n)):=by
 refine ex22 I.d fun es n h1 h2=>?_
 exact ⟨es,n,h1,h2,I.o,rfl,rfl,h1⟩
theorem rt (t:TopOk s.heap) (I:Inst s.heap x dx ps) (hn:name∈attNames) (hl:ps.lookup name=some v) (hv:handedIn v=true) {ex:Bool} {Q:Value→Shared→Prop} (h:Q v { s with toks:=s.toks + 1 }):WP prog w A (getAttr (.ref x) name ex) Q s:=by
 refine ex12 t.frag fun K hK F=>?_
 refine ex23 I.at fun es n h1 h2 IA=>?_
 refine ex12 (any_some F.hasD) fun cd hcd hd=>?_
 refine get_value hK IA F.ga ?_ hv h
 unfold findObj
 rw [hcd,F.att name hn]
 rw [Option.bind_some]
 unfold PySem.W.ownOf
 rw [hd]
 show ((if true=true then lookIn name (dicO es n) else some none):Option (Option Value)).bind _=_
 rw [if_pos rfl,lookIn_dict,iC h2,hl]
 rfl
theorem sC (t:TopOk s.heap) (I:Inst s.heap x dx ps) (hn:name∈attNames) (hl:ps.length≤100) {Q:Unit→Shared→Prop}
  (h:∀ h' tk,Heap.SameBut dx s.heap h'→(∃ es n,h'.get? dx=some (dicO es n)∧AttOk es (jd ps name v))→Q () { s with heap:=h',toks:=tk }):WP prog w A (setAttr (.ref x) name v) Q s:=by
 revert t I hn hl h
 revert prog w A s x dx ps name v Q;refine @(dr10 ?_);exists w10 _ _,prog,w,A,s,x,dx,ps,name,v,Q
 intro t I hn hl h
 refine ex12 t.frag fun K hK F=>?_
 refine ex23 I.at fun es n h1 h2 IA=>?_
 refine ex12 (any_some F.hasD) fun cd hcd hd=>?_
 have hlen:=iE h2
 refine set_plain hK IA F.sa (osa_open (s:={ s with toks:=s.toks + 1 }) hK IA F.plain (r:=none) (by unfold takerIn;rw [F.att name hn];rfl) fun b=>?_)
 have ho:=I.o
 refine wpAny_bind (wpAny_pure (wpAny_bind (wpAny_bind (wpAny_loadPart ho (wpAny_bind (Looks.here (s:={ s with toks:=s.toks + 1 }) (looks_clsIn hK hcd) ?_))))))
 rw [hd]
 refine wpAny_pure (a:=some dx) (wpAny_bind (wpAny_pure (wpAny_bind ?_)))
 unfold nsSet
 refine wpAny_bind (wpAny_bind (wpAny_askSetting (wpAny_pure (wpAny_bind (wpAny_mkText (wpAny_bind (wpAny_loadPart h1 ?_)))))))
 have hc:aRefKeyMayBeTheName name es.toArray=false:=by
  rw [aRefKeyMayBeTheName_at]
  have:=gY h2
  rw [show es.toArray.any (·.refKey)=es.any (·.refKey) by simp,this,Bool.and_false]
 dsimp only
 rw [hc]
 have hp:Obj.putName name (PyData.keyHash w.params name) (.str name (s.toks + 1)) v (dicO es n)=dicO (putL name (PyData.keyHash w.params name) (.str name (s.toks + 1)) v es) (PySem.W.putN name es n):=putName_dict ..
 have hg:=Heap.get?_update_self (Obj.putName name (PyData.keyHash w.params name) (.str name (s.toks + 1)) v) h1 (by rw [hp];rfl)
 rw [hp] at hg
 have hlen':=iE (iD (x:=name) (hs:=PyData.keyHash w.params name) (t:=s.toks + 1) (v:=v) h2)
 have hpl:(jd ps name v).length≤ps.length + 1:=by
  clear h hp hg hlen' hlen h2 h1 IA I
  induction ps with
  | nil=>exact Nat.le_refl _
  | cons p r ih=>unfold jd;split <;> simp_all;have:=ih (by exact Nat.le_succ_of_le hl);exact this
 refine wpAny_updatePart h1 (wpAny_bind (wpAny_lookBehind hg (pastItsLine_dict (by simp [aM];lia)) (wpAny_pure ?_)))
 exact h _ _ (Heap.SameBut.update ..) ⟨_,_,hg,iD h2⟩
theorem kW {K:Frag} {f:Addr} (h:typeIn K (.ref f)=some (.type "function")):specialIn K (.ref f) "__get__"=some (some (.builtin "function.__get__"))∧takesIn K (.ref f)=some false:=by
 have h1:∀ n,specialIn K (.ref f) n=findIn K (.type "function") n:=fun n=>by unfold specialIn;rw [h];rfl
 refine ⟨by rw [h1];kernel_rfl,?_⟩
 unfold takesIn
 rw [h1,h1,show findIn K (.type "function") "__set__"=some none from by kernel_rfl,show findIn K (.type "function") "__delete__"=some none from by kernel_rfl]
 rfl
theorem ru {f:Addr} {i:Nat} (t:TopOk s.heap) (I:Inst s.heap x dx ps) (hm:(f,i)∈methTab) (hn:fnName i=name) (hl:ps.lookup name=none) (hc:copiedNames.contains name=false) {ex:Bool} {Q:Value→Shared→Prop}
  (h:Q (.ref s.heap.objs.size) { s with heap:=s.heap.push (methodObj (.ref f) (.ref x)),toks:=s.toks + 1 }):WP prog w A (getAttr (.ref x) name ex) Q s:=by
 refine ex12 t.frag fun K hK F=>?_
 refine ex23 I.at fun es n h1 h2 IA=>?_
 refine ai (F.meth _ hm) fun m1 m2=>?_
 rw [hn] at m1
 refine get_bind hK IA F.ga (findObj_fn (by unfold hasDictIn;exact F.hasD) m1 (kW m2).1 (kW m2).2 hc (by show lookIn name (dicO es n)=_;rw [lookIn_dict,iC h2,hl])) F.gt
  (wpAny_call (fn_get (s:={ s with toks:=s.toks + 1 }) hK m2 (handed_on rfl h)))
theorem kX {f:Addr} {i:Nat} (t:TopOk s.heap) (I:Inst s.heap x dx ps) (hm:(f,i)∈methTab) (hn:fnName i=name) (hl:ps.lookup name=none) {pl:Sem Bool} {Q:Value×List Value→Shared→Prop}
  (h:Q (.ref f,[.ref x]) s):WP prog w A (getMethod (.ref x) name pl) Q s:=by
 refine ex12 t.frag fun K hK F=>?_
 refine ex23 I.at fun es n h1 h2 IA=>?_
 refine ai (F.meth _ hm) fun m1 m2=>?_
 rw [hn] at m1
 refine method_fn hK IA F.ga F.gt m1 m2 ?_ h
 unfold shadowIn
 show (lookIn name (dicO es n)).map _=_
 rw [lookIn_dict,iC h2,hl];rfl
theorem gy {M:Model} {E:Value→Shared→Prop} {f:Value} {pos:List Value} {Q:Value→Shared→Prop} (h:wpAny M A (call f pos) Q E s):wpAny M A (callBorrowed f pos) Q E s:=fun Γ p hΓ=>by
 have h1:=h Γ p hΓ
 unfold call at h1
 rw [Sem.wp_runValue] at h1
 refine wpCode_mono (fun r s' h'=>?_) h1
 cases r with
 | error e=>exact h'
 | ok f=>cases f <;> first | exact h' | exact h'.elim
end
section
variable {ωa:List (Addr×OD)} {ωb:List (Addr×OD)} {ωa':List (Addr×OD)}
theorem Sx.puts (S:Sx prog w s₀ env M X τ (ωa++ωb) s) (k:Keep (ωa.map (·.1)) s s') (hk:ωa'.map (·.1)=ωa.map (·.1)) (h:∀ p∈ωa',OwnAt prog w s'.heap X p.1 p.2) (hd:∀ p∈ωb,p.1∉ωa.map (·.1)):Sx prog w s₀ env M X τ (ωa'++ωb) s':=by
 revert S k hk h hd
 revert prog w env M X τ s s' s₀ ωa ωb ωa';refine @(dr12 ?_);exists w12 _ _,prog,w,env,M,X,τ,s,s',s₀,ωa,ωb,ωa'
 intro S k hk h hd
 have hY:∀ b∈ωa.map (·.1),b∈X∧b≠env.locals∧(∀ c∈env.cells,c.2≠b)∧b∈M:=fun b hb=>by
  refine mM hb fun p hp Z1=>?_;subst Z1
  refine dS (S.cx.own p (mL hp)) fun Z q2 q3 q4=>?_
  exact ⟨q2,q3,q4,S.mown p (mL hp)⟩
 have hmem:∀ p∈ωa',p.1∈ωa.map (·.1):=fun p hp=>by rw [← hk];exact List.mem_map_of_mem hp
 refine ex11 S.cx.ns fun m hm=>?_
 have hloc:env.locals∉ωa.map (·.1):=fun hb=>(hY _ hb).2.1 rfl
 have hcell:∀ c∈env.cells,c.2∉ωa.map (·.1):=fun c hc hb=>(hY _ hb).2.2.1 c hc rfl
 refine ⟨S.cx.turn k (fun b hb=>(hY b hb).1) ⟨m,aW hm fun o e=>k.heap _ o hloc e⟩ (fun p hp=>?_) (fun y b e=>?_) fun p hp=>?_,S.base.trans (k.more fun b hb=>(hY b hb).2.2.2),S.sub,S.mloc,S.mcel,fun p hp=>?_⟩
 ·refine ex11 (S.cx.cells p hp) fun v hv=>?_
  exact ⟨v,aA hv fun o e=>k.heap _ o (hcell p hp) e⟩
 ·refine ex12 (S.cx.vars y b e) fun v h1 h2=>?_
  refine ⟨v,?_,h2⟩
  rcases h1 with ⟨hk',m',hm',hv'⟩ | ⟨hk',c,hc,hv'⟩
  ·exact .inl ⟨hk',m',aW hm' fun o e=>k.heap _ o hloc e,hv'⟩
  ·exact .inr ⟨hk',c,hc,aA hv' fun o e=>k.heap _ o (hcell _ (ak hc)) e⟩
 ·refine mA hp (fun hp=>?_) fun hp=>?_
  ·exact ⟨h p hp,(hY _ (hmem p hp)).1,(hY _ (hmem p hp)).2.1,(hY _ (hmem p hp)).2.2.1⟩
  ·have z:=S.cx.own p (mR hp)
   exact ⟨z.1.mv (fun b o hb e=>⟨hb,k.heap b o (fun hm=>hb (hY b hm).1) e⟩) fun o e=>k.heap _ o (hd p hp) e,z.2⟩
 ·refine mA hp (fun hp=>?_) fun hp=>?_
  ·exact (hY _ (hmem p hp)).2.2.2
  ·exact S.mown p (mR hp)
theorem Sx.adopt {X0:List Addr} (S:Sx prog w s env M (M++X0) τ [] s') (hnew:∀ a∈M,s.heap.get? a=none) (h:∀ p∈ωa,OwnAt prog w s.heap X0 p.1 p.2∧p.1∈X0) (hc:∀ c∈env.cells,c.2∉ωa.map (·.1)) :
  Sx prog w s env (ωa.map (·.1)++M) (M++X0) τ ωa s':=by
 have kk:∀ b o,s.heap.get? b=some o→s'.heap.get? b=some o:=fun b o e=>S.base.heap b o (fun hm=>by rw [hnew b hm] at e;exact nO e) e
 have hne:∀ p∈ωa,p.1∉M:=fun p hp hm=>by
  have:=(h p hp).1.live
  rw [hnew _ hm] at this;exact nB this
 refine ⟨⟨S.cx.ok,S.cx.ns,S.cx.cells,S.cx.vars,S.cx.top,S.cx.xlt,S.cx.xhi,fun p hp=>⟨(h p hp).1.mv (fun b o hb e=>⟨fun hm=>?_,kk b o e⟩) fun o e=>kk _ o e,mR ((h p hp).2),fun e=>hne p hp (e ▸ S.mloc),fun c hcc e=>hc c hcc (e ▸ List.mem_map_of_mem hp)⟩⟩,
  S.base.more fun b hb=>mR hb,fun b hb=>?_,mR S.mloc,fun p hp hlt=>mR (S.mcel p hp hlt),fun p hp=>mL (List.mem_map_of_mem hp)⟩
 ·refine mA hm (fun hm=>?_) fun hm=>?_
  ·rw [hnew b hm] at e;exact nO e
  ·exact hb hm
 ·refine mA hb (fun hb=>?_) fun hb=>?_
  ·refine mM hb fun p hp Z1=>?_;subst Z1
   exact mR ((h p hp).2)
  ·exact mL hb
theorem Sx.left {X0:List Addr} {ωr:List (Addr×OD)} (S:Sx prog w s env (ωa.map (·.1)++M) (M++X0) τ ωr s') (hnew:∀ a∈M,s.heap.get? a=none):Keep (ωa.map (·.1)) s s'∧∀ p∈ωr,OwnAt prog w s'.heap X0 p.1 p.2 :=
 ⟨S.base.dropTo fun b hb=>by
  refine mA hb (fun hb=>?_) fun hb=>?_
  ·exact .inl hb
  ·exact .inr (hnew b hb),fun p hp=>(S.cx.own p hp).1.less fun b hb=>mR hb⟩
theorem gZ {o:Expr} {x dx:Addr} {ps:List (Str×Value)} {name:Str} {u:Value} {q:Pos} (c:Cx prog w env X τ ω s) (ho:EvV prog w A env s o (.ref x)) (h1:(x,OD.raw (instObj CL dx))∈ω) (h2:(dx,OD.att ps)∈ω)
  (hn:name∈attNames) (hl:ps.lookup name=some u) (hh:handedIn u=true)
  (he:autoParam (eval (.Attribute o name q) env=(do
   let v ← eval o env
   standAt q.atName
   let r ← holding [v] (getAttr v name true)
   letTemporaryGo o v r
   pure r)) tn._auto_1):EvV prog w A env s (.Attribute o name q) u:=fun s' k=>by
 refine Attribute_any_ ((ho.keep k).go fun v s₁ k₁ h₁=>?_) he
 subst h₁
 have c₁:=c.keep (k.trans k₁)
 exact rt c₁.top ⟨(c₁.own _ h1).1,(c₁.own _ h2).1⟩ hn hl hh ⟨k₁.trans Keep.toks,rfl⟩
theorem EvV.d {e:Expr} {u:Value} {d:D} (h:EvV prog w A env s e u) (hd:∀ h,Rd prog w h X d u):EvD prog w A env X s e d:=Ev.imp h fun s v e=>by rw [e];exact hd _
theorem eH {o:Expr} {x dx f:Addr} {i:Nat} {ps:List (Str×Value)} {name:Str} {ap pos:Pos} {args:List Expr} {bs:List Bd} {Q:Value→Shared→Prop} (c:Cx prog w env X τ ω s) (ho:EvV prog w A env s o (.ref x)) (h1:(x,OD.raw (instObj CL dx))∈ω) (h2:(dx,OD.att ps)∈ω)
  (hm:(f,i)∈methTab) (hn:fnName i=name) (hl:ps.lookup name=none) (hes:EvBs prog w A env X s args bs)
  (h:∀ vs s',Keep [] s s'→Args3 prog w s'.heap X bs vs→WP prog w A (call (.ref f) (.ref x::vs) []) Q s') {pl:Sem Bool}
  (he:autoParam (eval (.Call (.Attribute o name ap) args [] pos) env=(do
   let ov ← eval o env
   standAt ap.atName
   let (f,first) ← holding [ov] (getMethod ov name pl)
   callWith pos f first (backTo pos (starEach args env)) [])) cT._auto_1) :
  WP prog w A (eval (.Call (.Attribute o name ap) args [] pos) env) Q s:=by
 refine MethodCall_ (pl:=pl) (ho.go fun v s₁ k₁ h₁=>?_) he
 subst h₁
 have c₁:=c.keep k₁
 refine kX c₁.top ⟨(c₁.own _ h1).1,(c₁.own _ h2).1⟩ hm hn hl ?_
 refine cw (first:=[.ref x]) (hes.keep k₁) (fun s₂ k₂=>?_) fun vs s₂ k₂ h₂=>h vs s₂ (k₁.trans k₂) h₂
 obtain ⟨_,⟨doc,pm,c,oc,vs,t,hf,_⟩,_⟩:=(c₁.keep k₂).top.fm _ hm
 exact fc hf rfl
theorem qC {e:Expr} {a:Addr} {ds:List D} (c:Cx prog w env X τ ω s) (hv:EvV prog w A env s e (.ref a)) (hm:(a,OD.lst ds)∈ω) (hl:ds.length≤16777216) (he:autoParam (∀ whole,isTrue e env whole=(do let v ← whole;standAt e.pos;holding [v] (truthy v))) e8._auto_1) :
  EvT prog w A env s e (!ds.isEmpty):=by
 revert c hv hm hl he
 revert prog w A env X τ ω s e a ds;refine @(dr11 ?_);exists w11 _ _,prog,w,A,env,X,τ,ω,s,e,a,ds
 intro c hv hm hl he
 exact fun s' k =>
 wpAny_isTrue_value ((hv.keep k).go fun v s₁ k₁ h₁=>by
  subst h₁
  refine ai ((c.keep (k.trans k₁)).own _ hm) fun Z1 Z=>?_;refine ex22 Z1 fun vs n hg hr=>?_;clear Z1
  have hlen:=hr.length
  have:vs.toArray.isEmpty=ds.isEmpty:=by
   cases vs <;> cases ds <;> first | rfl | cases hlen
  exact wpAny_truthy_list (ah hg) (by simp;lia) (this ▸ ⟨k₁.trans Keep.toks,rfl⟩)) (he _)
end
structure LA where
 lx:Addr
 dx:Addr
 pl:Addr
 fd:Addr
 fx:Addr
 fn:Addr
 cl:Addr
 cc:Addr
 lf:Addr
 wt:Tok
 fps:List (Str×Value)
 fo:Obj
 co:Obj
 oc:Obj
instance:Nonempty LA:=⟨⟨0,0,0,0,0,0,0,0,0,0,[],default,default,default⟩⟩
structure LS where
 line:Int
 lt:Tok
 q:List D
 txt:Str
instance:Nonempty LS:=⟨⟨0,0,[],default⟩⟩
noncomputable def qD:Str:="\n\t\r "
noncomputable def cD (L:LA) (st:LS):List (Str×Value):=[("lineno",.int st.line st.lt),("instream",.ref L.fd),("whitespace",.str qD L.wt),("pushback",.ref L.pl)]
noncomputable def aD (L:LA) (st:LS):List (Addr×OD):=[(L.lx,.raw (instObj CL L.dx)),(L.dx,.att (cD L st)),(L.pl,.lst st.q),(L.fd,.raw (instObj CL L.fx)),(L.fx,.att L.fps),(L.fn,.raw L.fo),(L.cl,.raw L.co),(L.cc,.raw L.oc),(L.lf,.lst [.str st.txt])]
noncomputable def lexA (L:LA):List Addr:=[L.lx,L.dx,L.pl,L.fd,L.fx,L.fn,L.cl,L.cc,L.lf]
theorem aR (L:LA) (st:LS):(aD L st).map (·.1)=lexA L:=rfl
noncomputable def readQ:Str:="_law_lexer.<locals>._law_read"
structure LaOk (L:LA):Prop where
 nodup:(lexA L).Nodup
 read:L.fps.lookup ("read":Str)=some (.ref L.fn)
 fo:∃ doc pm ctv,L.fo={ cls:=.type "function",data:=.func (fnX (fnName 201) readQ (fnParams 201) (fnBody 201) (fnScope 201) [("left",L.cl)] .none .none doc pm none (.ref L.cc) ctv) }
 co:L.co.data=.cell (some (.ref L.lf))
 oc:∃ vs t,L.oc.data=.fields vs∧vs[1]?=some (.str readQ t)
theorem sD {l:List Addr} (h:l.Nodup) {i j:Nat} {a b:Addr} (hi:l[i]?=some a) (hj:l[j]?=some b) (n:i≠j):a≠b:=fun e=>by
 subst e
 exact n ((List.getElem?_inj (List.getElem?_eq_some_iff.mp hi).1 h).mp (hi.trans hj.symm))
theorem aj {α:Type} {P:α→Prop} {a:α} {l:List α} (h:P a) (t:∀ p∈l,P p):∀ p∈a::l,P p:=fun p hp=>by
 cases hp with
 | head=>exact h
 | tail _ hp=>exact t p hp
theorem iF {α:Type} {P:α→Prop}:∀ p∈([]:List α),P p:=fun Z h=>nomatch h
noncomputable def LexAt (prog:Program) (w:World) (h:Heap) (X:List Addr) (L:LA) (st:LS):Prop:=∀ p∈aD L st,OwnAt prog w h X p.1 p.2∧p.1∈X
theorem cq {l:List (Str×Addr)} (h:∀ x,(l.lookup x).isSome=false):l=[]:=by
 cases l with
 | nil=>rfl
 | cons p r=>have:=h p.1;rw [List.lookup_cons,beq_self_eq_true] at this;exact nB this.symm
section
variable {L:LA} {st:LS}
theorem LexAt.inX {h:Heap} (x:LexAt prog w h X L st):∀ a∈lexA L,a∈X:=fun a ha=>by
 rw [← aR L st] at ha
 refine mM ha fun p hp Z1=>?_;subst Z1
 exact (x p hp).2
theorem Sx.lexLeft {X0:List Addr} {st':LS} (S:Sx prog w s env (lexA L++M) (M++X0) τ (aD L st') s') (hnew:∀ a∈M,s.heap.get? a=none) (hX:∀ a∈lexA L,a∈X0):Keep (lexA L) s s'∧LexAt prog w s'.heap X0 L st':=by
 refine ai (Sx.left (ωa:=aD L st') S hnew) fun h1 h2=>?_
 exact ⟨h1,fun p hp=>⟨h2 p hp,hX _ (by rw [← aR L st'];exact List.mem_map_of_mem hp)⟩⟩
theorem bf (ok:LaOk L) (i j:Nat) {a b:Addr} (hi:autoParam ((lexA L)[i]?=some a) cT._auto_1) (hj:autoParam ((lexA L)[j]?=some b) cT._auto_1) (n:autoParam (i≠j) fb._auto_1):a≠b:=sD ok.nodup hi hj n
theorem rW:(L.lx,OD.raw (instObj CL L.dx))∈aD L st:=.head _
theorem rX:(L.dx,OD.att (cD L st))∈aD L st:=.tail _ (.head _)
theorem tr:(L.pl,OD.lst st.q)∈aD L st:=.tail _ (.tail _ (.head _))
theorem uD:(L.fd,OD.raw (instObj CL L.fx))∈aD L st:=.tail _ (.tail _ (.tail _ (.head _)))
theorem uE:(L.fx,OD.att L.fps)∈aD L st:=.tail _ (.tail _ (.tail _ (.tail _ (.head _))))
theorem tW:(L.fn,OD.raw L.fo)∈aD L st:=.tail _ (.tail _ (.tail _ (.tail _ (.tail _ (.head _)))))
theorem tX:(L.cl,OD.raw L.co)∈aD L st:=.tail _ (.tail _ (.tail _ (.tail _ (.tail _ (.tail _ (.head _))))))
theorem uF:(L.cc,OD.raw L.oc)∈aD L st:=.tail _ (.tail _ (.tail _ (.tail _ (.tail _ (.tail _ (.tail _ (.head _)))))))
theorem uT:(L.lf,OD.lst [.str st.txt])∈aD L st:=.tail _ (.tail _ (.tail _ (.tail _ (.tail _ (.tail _ (.tail _ (.tail _ (.head _))))))))
theorem uU:L.lf∈lexA L:=by simp [lexA]
theorem nG (ok:LaOk L) (ds:List D):∀ p∈[(L.lx,OD.raw (instObj CL L.dx)),(L.dx,.att (cD L st))]++[(L.fd,.raw (instObj CL L.fx)),(L.fx,.att L.fps),(L.fn,.raw L.fo),(L.cl,.raw L.co),(L.cc,.raw L.oc),(L.lf,.lst [.str st.txt])],p.1≠L.pl :=
 aj (bf ok 0 2) (aj (bf ok 1 2) (aj (bf ok 3 2) (aj (bf ok 4 2) (aj (bf ok 5 2) (aj (bf ok 6 2) (aj (bf ok 7 2) (aj (bf ok 8 2) iF)))))))
theorem nH {k:Nat} {d:D} {v:Value} (ao:Ao (k + 1) A) (g:Gd X s) (ok:LaOk L) (hl:LexAt prog w s.heap X L st) (hr:Rd prog w s.heap X d v) (hq:st.q.length≤1000000) :
  WP prog w A (call (.ref 77) [.ref L.lx,v] []) (fun Z s'=>Keep (lexA L) s s'∧LexAt prog w s'.heap X L { st with q:=st.q++[d] }) s:=by
 revert ao g ok hl hr hq
 revert prog w A X s L st k d v;refine @(dr10 ?_);exists w10 _ _,prog,w,A,X,s,L,st,k,d,v
 intro ao g ok hl hr hq
 refine dY (bs:=[.v (.ref L.lx),.d d]) (names:=["self", "token"]) (g.top.fm (77,103) (by decide)) g ao.lim (.cons rfl (.cons hr .nil)) (fun env M s₁ hsc hnew hcl hcl' S Z=>?_) (fun Z Z Z=>rfl) (by rfl) (by decide) (by decide +kernel) (by decide +kernel) (by decide +kernel) (by decide +kernel)
 have fe:Fe env 103:=⟨hsc,hcl,hcl'⟩
 have hce:env.cells=[]:=cq fun x=>by rw [hcl'];rfl
 have S1:=Sx.adopt (ωa:=aD L st) S hnew hl (by rw [hce];intro c hc;exact nM hc)
 have c:=S1.cx
 have eq:EvV prog w (A.deeper env) env s₁ (.Attribute (.Name "self" ⟨81,8,81,12⟩) "pushback" ⟨81,8,81,21⟩) (.ref L.pl) :=
  gZ (x:=L.lx) (dx:=L.dx) (ps:=cD L st) c (az (.ref L.lx) c rfl) rW rX (by decide) rfl rfl
 show WP prog w (A.deeper env) (execs (fnBody 103) env) _ s₁
 refine kE S1 (wpAny_Call_append rfl rfl rfl rfl (eq.go fun u s₂ k₂ h₂=>?_))
 subst h₂
 have S2:=S1.keep k₂
 refine ai (S2.cx.own (L.pl,.lst st.q) tr) fun Z1 Z=>?_;refine ex22 Z1 fun vs n hg hr'=>?_;clear Z1
 refine ⟨L.pl,vs.toArray,rfl,⟨_,n,hg,rfl,rfl,rfl⟩,(aa d S2.cx rfl).go fun y s₃ k₃ h₃=>?_⟩
 refine (S2.keep k₃).append (ω1:=[(L.lx,.raw (instObj CL L.dx)),(L.dx,.att (cD L st))]) (ω2:=[(L.fd,.raw (instObj CL L.fx)),(L.fx,.att L.fps),(L.fn,.raw L.fo),(L.cl,.raw L.co),(L.cc,.raw L.oc),(L.lf,.lst [.str st.txt])]) rfl ?_ h₃ (by exact Nat.le_add_left_of_le hq) fun s₄ Z S4=>ax ?_
 ·exact nG ok []
 ·exact Sx.lexLeft (st':={ st with q:=st.q++[d] }) S4 hnew hl.inX
theorem Sx.popFirst (S:Sx prog w s₀ env M X τ ω s) {a:Addr} {t:Tok} {ds:List D} {d:D} {ω1 ω2:List (Addr×OD)} {Q:Value→Shared→Prop} (hω:ω=ω1++(a,.lst (d::ds))::ω2) (hne:∀ p∈ω1++ω2,p.1≠a) (hl:ds.length≤1000000)
  (h:∀ v s',Rd prog w s'.heap X d v→Sx prog w s₀ env M X τ (ω1++(a,.lst ds)::ω2) s'→Q v s'):WP prog w A (call (.builtin "list.pop") [.ref a,.int 0 t]) Q s:=by
 revert S hω hne hl h
 revert s₀ a t ds d ω1 ω2 Q
 revert prog w A env M X τ ω s;refine @(dr9 ?_);exists w9 _ _,prog,w,A,env,M,X,τ,ω,s
 intro s₀ a t ds d ω1 ω2 Q
 revert s₀ a t ds d ω1 ω2 Q;refine @(dr8 ?_);exists w8 _ _,s₀,a,t,ds,d,ω1,ω2,Q
 intro S hω hne hl h
 have hm:(a,OD.lst (d::ds))∈ω:=by rw [hω];exact mR (.head _)
 refine br (S.cx.own _ hm) fun Z1 hX Z=>?_;refine ex22 Z1 fun vs n hg hr=>?_;clear Z1
 have hlen:=hr.length
 refine RdL.consE hr fun y r Z1 hy Z9=>?_;clear hr;revert Z9;intro hr;subst Z1
 have hrl:=hr.length
 refine call_meets PySem.F.slot_list_pop ⟨_,hg,rfl⟩ PySem.F.entry_list_pop (PySem.F.args_list_pop_2 _ _) (PySem.MeetsSeq.list_pop_at a (y::r).toArray n 0 t 0 y (by decide) (by unfold seqIndex?;simp) (by simp) (by simp [aM];lia)) ⟨hg,?_⟩
 have hs:Heap.SameBut a s.heap (s.heap.update a (Obj.mapSeq fun xs=>xs.eraseIdxIfInBounds 0)):=Heap.SameBut.update ..
 have e:((y::r).toArray.eraseIdxIfInBounds 0)=r.toArray:=by simp [Array.eraseIdxIfInBounds]
 have q:=IsL.update hg fun xs=>xs.eraseIdxIfInBounds 0
 have ho:OwnAt prog w (s.heap.update a (Obj.mapSeq fun xs=>xs.eraseIdxIfInBounds 0)) X a (.lst ds):=by
  rw [e] at q
  exact ⟨r,_,q,RdL.mv (fun b o hb eb=>⟨hb,(hs.2 b fun z=>hb (z ▸ hX)).trans eb⟩) _ _ hr⟩
 exact h y _ (Rd.mv (fun b o hb eb=>⟨hb,(hs.2 b fun z=>hb (z ▸ hX)).trans eb⟩) _ _ hy) (S.put (tk:=s.toks) hω hne hs ho)
theorem sF {k:Nat} {d:D} {r:List D} (ao:Ao (k + 1) A) (g:Gd X s) (ok:LaOk L) (hl:LexAt prog w s.heap X L st) (hq:st.q=d::r) (hz:r.length≤1000000) :
  WP prog w A (call (.ref 70) [.ref L.lx] []) (fun v s'=>Keep (lexA L) s s'∧LexAt prog w s'.heap X L { st with q:=r }∧Rd prog w s'.heap X d v) s:=by
 revert ao g ok hl hq hz
 revert prog w A X s L st k d r;refine @(dr10 ?_);exists w10 _ _,prog,w,A,X,s,L,st,k,d,r
 intro ao g ok hl hq hz
 refine dY (bs:=[.v (.ref L.lx)]) (names:=["self"]) (g.top.fm (70,102) (by decide)) g ao.lim (.cons rfl .nil) (fun env M s₁ hsc hnew hcl hcl' S Z=>?_) (fun Z Z Z=>rfl) (by rfl) (by decide) (by decide +kernel) (by decide +kernel) (by decide +kernel) (by decide +kernel)
 have fe:Fe env 102:=⟨hsc,hcl,hcl'⟩
 have hce:env.cells=[]:=cq fun x=>by rw [hcl'];rfl
 have S1:=Sx.adopt (ωa:=aD L st) S hnew hl (by rw [hce];intro c hc;exact nM hc)
 have hqm:(L.pl,OD.lst (d::r))∈aD L st:=by rw [← hq];exact tr
 have eq:∀ {s₂:Shared} {p q:Pos},Sx prog w s env ((aD L st).map (·.1)++M) (M++X) [("self",.v (.ref L.lx))] (aD L st) s₂→EvV prog w (A.deeper env) env s₂ (.Attribute (.Name "self" p) "pushback" q) (.ref L.pl):=fun S2 =>
  gZ (x:=L.lx) (dx:=L.dx) (ps:=cD L st) S2.cx (az (.ref L.lx) S2.cx rfl) rW rX (by decide) rfl rfl
 refine ik S1 true ((qC S1.cx (eq S1) hqm (by simp;exact Nat.le_add_left_of_le hz)).to rfl) (fun Z s₂ S2=>?_) (fun h=>by exact nB h.symm)
 refine aK (wpAny_Return_some (dD (X:=M++X) (b:=.v (.ref L.pl)) PySem.F.plainAttrs_list PySem.F.slot_list_pop PySem.F.type_list_pop (eq S2) (aH (ag (i:=0)) al) (fun v s' k e=>?_) fun v vs s' k e e'=>?_))
 ·subst e
  refine ai ((S2.keep k).cx.own _ hqm) fun Z1 Z=>?_;refine ex22 Z1 fun vs n hg hr=>?_;clear Z1
  exact jH (h:=s'.heap) hg
 ·subst e
  refine aO e' fun u Z1 hu=>?_;subst Z1
  refine hu.intE fun t Z1=>?_;subst Z1
  refine (S2.keep k).popFirst (ω1:=[(L.lx,.raw (instObj CL L.dx)),(L.dx,.att (cD L st))]) (ω2:=[(L.fd,.raw (instObj CL L.fx)),(L.fx,.att L.fps),(L.fn,.raw L.fo),(L.cl,.raw L.co),(L.cc,.raw L.oc),(L.lf,.lst [.str st.txt])]) (d:=d) (ds:=r) (by rw [← hq];rfl) (nG ok []) hz fun v s₃ hv S3=>?_
  have z:=Sx.lexLeft (st':={ st with q:=r }) S3 hnew hl.inX
  exact ⟨z.1,z.2,hv.less fun b hb=>mR hb⟩
end
noncomputable def tx (l:List Nat):Str:=⟨l.toArray⟩
theorem sG (l:List Nat):Txt.slice (tx l) none (some 1)=tx (l.take 1):=by
 cases l with
 | nil=>rfl
 | cons c r =>
  have:=StrLaws.sliceText_to (x:=tx (c::r)) (j:=1) ⟨by decide,by simp [tx];lia⟩
  rw [show Txt.slice (tx (c::r)) none (some 1)=StrLaws.sliceText (tx (c::r)) none (some 1) from rfl,this]
  rfl
theorem qE (l:List Nat):Txt.slice (tx l) (some 1) none=tx (l.drop 1):=by
 cases l with
 | nil=>rfl
 | cons c r =>
  have:=StrLaws.sliceText_from (x:=tx (c::r)) (i:=1) ⟨by decide,by simp [tx];lia⟩
  rw [show Txt.slice (tx (c::r)) (some 1) none=StrLaws.sliceText (tx (c::r)) (some 1) none from rfl,this]
  show (⟨(List.take (((c::r).length:Int) - 1).toNat r).toArray⟩:Str)=tx r
  rw [show (((c::r).length:Int) - 1).toNat=r.length by simp,List.take_length];rfl
theorem aP (l:List Nat):(tx l).length=l.length:=by show l.toArray.size=_;simp
section
variable {L:LA} {st:LS}
theorem fV {value:Expr} {lower upper:Option Expr} {p pos:Pos} {T id:String} {Q:Value→Shared→Prop} (hl:typeLookup (.type T) "__getitem__"=pure (some (.builtin id)))
  (h:WP prog w A (eval value env) (fun o s₁=>WP prog w A (eval (.Slice lower upper none p) env) (fun i s₂=>s₂.TypeIs o T∧WP prog w A (getItem o i) Q s₂) s₁) s):WP prog w A (eval (.Subscript value (.Slice lower upper none p) pos) env) Q s:=by
 rw [eval_Subscript]
 refine wpAny_bind (wpAny_mono h (fun o s₁ h₁=>wpAny_bind (wpAny_holding (wpAny_mono h₁ (fun i s₂ h₂=>wpAny_bind (wpAny_standAt ?_)) fun Z Z x=>x))) fun Z Z x=>x)
 have go:WP prog w A (operate [i,o] (getItem o i)) (fun r s₃=>WP prog w A (letTemporaryGo value o r >>= fun Z=>pure r) Q s₃) s₂ :=
  wpAny_operating (wpAny_mono h₂.2 (fun r s₃ h₃=>wpAny_bind (wpAny_letTemporaryGo (wpAny_pure h₃))) fun Z Z x=>x)
 refine wpAny_bind ?_
 rw [getitemInPython_of_ne h₂.1.not_modules]
 refine wpAny_bind (wpAny_specialOf h₂.1 hl ?_)
 first | exact wpAny_pure (wpAny_bind go) | exact wpAny_bind (wpAny_pure (wpAny_bind go)) | exact wpAny_bind go
theorem fW {v:Expr} {lo hi:Option Expr} {q p:Pos} {x:Str} {a b:Option Int} (c:Cx prog w env X τ ω s) (hv:EvD prog w A env X s v (.str x)) (ha:optI prog w A env X s lo a) (hb:optI prog w A env X s hi b) (hl:x.length≤16777216) :
  EvD prog w A env X s (.Subscript v (.Slice lo hi none q) p) (.str (Txt.slice x a b)):=by
 revert c hv ha hb hl
 revert v lo hi q p x a b
 revert prog w A env X τ ω s;refine @(dr8 ?_);exists w8 _ _,prog,w,A,env,X,τ,ω,s
 intro v lo hi q p x a b
 revert v lo hi q p x a b;refine @(dr8 ?_);exists w8 _ _,v,lo,hi,q,p,x,a,b
 intro c hv ha hb hl
 intro s' k
 refine fV (T:="str") F.slot_str_getitem.lookup ((hv.keep k).go fun u s₁ k₁ h₁=>wpAny_Slice (bJ (ha.keep (k.trans k₁)) fun y s₂ k₂ h₂=>bJ (hb.keep ((k.trans k₁).trans k₂)) fun z s₃ k₃ h₃=>?_))
 refine h₁.strE fun t Z1=>?_;subst Z1
 rw [evalPart_none]
 refine wpAny_pure ⟨PySem.typeIs_str _ _ _,?_⟩
 have hsz:x.length≤sizeLine:=Nat.le_trans hl (by decide)
 have kk:∀ {o:Obj} {tk:Nat},Keep [] s' { s₃ with heap:=s₃.heap.push o,toks:=tk }:=((k₁.trans k₂).trans k₃).trans (Keep.ext fun Z Z e=>Heap.get?_push_of_some _ e)
 cases h₂ <;> cases h₃
 ·exact wpAny_getItem_str_slice (l:=none) (u:=none) (st:=none) ⟨_,Heap.get?_push_size _ rfl,rfl,rfl⟩ rfl (post_val_or_str ⟨Nat.le_trans (Txt.slice_le x _ _) hsz,fun t' k=>⟨kk,Rd.str_⟩⟩)
 ·rename_i j uj
  exact wpAny_getItem_str_slice (l:=none) (u:=some (j,uj)) (st:=none) ⟨_,Heap.get?_push_size _ rfl,rfl,rfl⟩ rfl (post_val_or_str ⟨Nat.le_trans (Txt.slice_le x _ _) hsz,fun t' k=>⟨kk,Rd.str_⟩⟩)
 ·rename_i i ui
  exact wpAny_getItem_str_slice (l:=some (i,ui)) (u:=none) (st:=none) ⟨_,Heap.get?_push_size _ rfl,rfl,rfl⟩ rfl (post_val_or_str ⟨Nat.le_trans (Txt.slice_le x _ _) hsz,fun t' k=>⟨kk,Rd.str_⟩⟩)
 ·rename_i i ui j uj
  exact wpAny_getItem_str_slice (l:=some (i,ui)) (u:=some (j,uj)) (st:=none) ⟨_,Heap.get?_push_size _ rfl,rfl,rfl⟩ rfl (post_val_or_str ⟨Nat.le_trans (Txt.slice_le x _ _) hsz,fun t' k=>⟨kk,Rd.str_⟩⟩)
theorem pG (S:Sx prog w s₀ env M X τ ω s) {o i e:Expr} {sp p:Pos} {a:Addr} {ds:List D} {k:Int} {n:Nat} {d:D} {ω1 ω2:List (Addr×OD)} {rest:List Stmt} {Q:Flow→Shared→Prop}
  (ho:EvV prog w A env s o (.ref a)) (hi:EvD prog w A env X s i (.int k)) (hω:ω=ω1++(a,.lst ds)::ω2) (hne:∀ p∈ω1++ω2,p.1≠a)
  (hk:(if k < 0 then k + ds.length else k)=n) (hn:n < ds.length) (hl:ds.length≤16777216) (he:EvD prog w A env X s e d)
  (h:∀ s',Sx prog w s₀ env M X τ (ω1++(a,.lst (ds.set n d))::ω2) s'→WP prog w A (execs rest env) Q s')
  (hs:autoParam (swapsWith e (some (.Subscript o i sp)) p.line env=pure false) cT._auto_1) :
  WP prog w A (execs (.Assign [.Subscript o i sp] e p::rest) env) Q s:=by
 refine aK (wpAny_Assign_Subscript (he.go fun v s₁ k₁ h₁=>(ho.keep k₁).go fun u s₂ k₂ h₂=>(hi.keep (k₁.trans k₂)).go fun j s₃ k₃ h₃=>?_) hs)
 subst h₂
 refine h₃.intE fun t Z1=>?_;subst Z1
 exact (S.keep ((k₁.trans k₂).trans k₃)).setAt hω hne hk hn hl (h₁.keep (k₂.trans k₃).any) fun s₄ Z S4=>h s₄ S4
theorem rv {k:Nat} {l:List Nat} {t:Tok} (ao:Ao (k + 1) A) (g:Gd X s) (ok:LaOk L) (hl:LexAt prog w s.heap X L st) (hx:st.txt=tx l) (hlen:l.length≤1000000) :
  WP prog w A (call (.ref L.fn) [.int 1 t] []) (fun v s'=>Keep (lexA L) s s'∧LexAt prog w s'.heap X L { st with txt:=tx (l.drop 1) }∧Rd prog w s'.heap X (.str (tx (l.take 1))) v) s:=by
 revert ao g ok hl hx hlen
 revert prog w A X s L st k l t;refine @(dr10 ?_);exists w10 _ _,prog,w,A,X,s,L,st,k,l,t
 intro ao g ok hl hx hlen
 refine ex31 ok.fo fun doc pm ctv hfo=>?_
 refine ex22 ok.oc fun vs t' hoc hv=>?_
 have ofn:s.heap.get? L.fn=some L.fo:=(hl (L.fn,.raw L.fo) tW).1
 have occ:s.heap.get? L.cc=some L.oc:=(hl (L.cc,.raw L.oc) uF).1
 have ocl:s.heap.get? L.cl=some L.co:=(hl (L.cl,.raw L.co) tX).1
 have olf:=hl (L.lf,.lst [.str st.txt]) uT
 have hclX:L.cl∈X:=(hl (L.cl,.raw L.co) tX).2
 have hne:L.cl≠L.lf:=bf ok 6 8
 have hfl:L.fn < s.heap.objs.size:=Heap.lt_size ofn
 refine wpAny_call (codeAny_call_def (fd:=fnX (fnName 201) readQ (fnParams 201) (fnBody 201) (fnScope 201) [("left",L.cl)] .none .none doc pm none (.ref L.cc) ctv) (body:=fnBody 201) (binds:=[("size",.int 1 t)]) ao.lim ofn (by rw [hfo]) g.top.lim ⟨_,_,_,_,rfl,occ,hoc,hv⟩ rfl (.of_eq rfl) (show ∀ x∈(fnScope 201).names,x.2≠.cell by decide +kernel) (fun x hx'=>by rw [mS hx'];rfl) (fun h₀ hns hk=>?_) (show (fnScope 201).isCoroutine=false by decide +kernel) (show (fnScope 201).isGenerator=false by decide +kernel) (show (fnScope 201).kind=.function by decide +kernel))
 have henv:∃ env:Env,env=callEnv (fnX (fnName 201) readQ (fnParams 201) (fnBody 201) (fnScope 201) [("left",L.cl)] .none .none doc pm none (.ref L.cc) ctv) s.heap.objs.size L.fn:=⟨_,rfl⟩
 refine ex11 henv fun env he=>?_;clear henv
 rw [← he]
 have k0:Keep [] s ({ s with heap:=h₀,toks:=s.toks + 1 }:Shared):=Keep.ext hk
 have hloc:env.locals=s.heap.objs.size:=by rw [he];rfl
 have hcell:env.cells=[(("left":Str),L.cl)]:=by rw [he];rfl
 have hsc:env.scope=fnScope 201:=by rw [he];rfl
 have hkd:∀ x,env.kindOf x=(fnScope 201).names.lookup x:=fun x=>by unfold Env.kindOf;rw [hsc]
 have hnew:∀ a∈[env.locals],s.heap.get? a=none:=fun a ha=>by rw [ay ha,hloc];exact af _
 have g':=g.keep k0
 have S:Sx prog w s env [env.locals] ([env.locals]++X) [("size",.d (.int 1)),("left",.v (.ref L.lf))] [] ({ s with heap:=h₀,toks:=s.toks + 1 }:Shared):=by
  refine ⟨⟨⟨by rw [hsc];decide +kernel,by rw [he];rfl,by rw [he];rfl,.head _,fun p hp=>?_,?_⟩,⟨_,hloc ▸ hns⟩,fun p hp=>?_,fun x b e=>?_,g'.top,fun a ha=>?_,fun a ha=>?_,fun p hp=>nomatch hp⟩,k0.any,fun a ha=>mL ha,.head _,fun p hp hlt=>?_,fun p hp=>nomatch hp⟩
  ·rw [hcell] at hp;rw [mS hp]
   exact ⟨.tail _ hclX,fun e=>by dsimp only at e;rw [hloc] at e;rw [e,af] at ocl;exact nO ocl⟩
  ·rw [hcell];exact List.pairwise_singleton ..
  ·rw [hcell] at hp;rw [mS hp]
   exact ⟨_,L.co,hk _ _ ocl,ok.co⟩
  ·rw [List.lookup_cons] at e
   cases hx':x == ("size":Str) with
   | true =>
    rw [hx'] at e;refine sE e fun e=>?_;subst e
    rw [eq_of_beq hx']
    refine ⟨.int 1 t,.inl ⟨by rw [hkd];rfl,_,hloc ▸ hns,by rfl⟩,(Rd.int_:Rd prog w h₀ ([env.locals]++X) (.int 1) (.int 1 t))⟩
   | false =>
    rw [hx'] at e
    change List.lookup x [(("left":Str),Bd.v (.ref L.lf))]=some b at e
    rw [List.lookup_cons] at e
    cases hx'':x == ("left":Str) with
    | true =>
     rw [hx''] at e;refine sE e fun e=>?_;subst e
     rw [eq_of_beq hx'']
     exact ⟨.ref L.lf,.inr ⟨.inr ⟨by rw [hkd];rfl,by decide⟩,L.cl,by rw [hcell];rfl,L.co,hk _ _ ocl,ok.co⟩,rfl⟩
    | false=>rw [hx''] at e;exact nO e
  ·refine mC ha (fun Z1=>?_) fun ha=>?_;subst Z1
   ·rw [hloc];exact bV hns
   ·exact g'.liv a ha
  ·refine mC ha (fun Z1=>?_) fun ha=>?_;subst Z1
   ·rw [hloc];exact g.top.size
   ·exact g.hi a ha
  ·rw [hcell] at hp;rw [mS hp] at hlt
   dsimp only at hlt
   rw [hloc] at hlt
   exact absurd hlt (Nat.not_lt.mpr (Nat.le_of_lt (Heap.lt_size ocl)))
 have S1:=Sx.adopt (ωa:=[(L.lf,.lst [.str st.txt])]) S hnew (fun p hp=>by rw [mS hp];exact olf) (by
  rw [hcell];intro c hc;rw [mS hc];exact fun h=>hne (mS h))
 have hown:∀ {x},(fnScope 201).names.lookup x=some .local→Own env x:=fun h=>.inl (by rw [hkd];exact h)
 have fin:wpAny (model prog w) (A.deeper env) (execs (fnBody 201) env) (fun f s'=>Keep [L.lf] s s'∧OwnAt prog w s'.heap X L.lf (.lst [.str (tx (l.drop 1))])∧Rd prog w s'.heap X (.str (tx (l.take 1))) (dU f)) (fun Z Z=>False) { s with heap:=h₀,toks:=s.toks + 1 }:=by
  have item:∀ {s₂:Shared} {τ'} {M'} {p q r:Pos} {k:Nat},Sx prog w s env M' ([env.locals]++X) τ' [(L.lf,.lst [.str st.txt])] s₂→τ'.lookup ("left":Str)=some (.v (.ref L.lf))→EvD prog w (A.deeper env) env ([env.locals]++X) s₂ (.Subscript (.Name "left" p) (.Constant (.int 0) k q) r) (.str (tx l)):=fun S2 hτ=>by
   rw [← hx]
   exact eC (a:=L.lf) (ds:=[.str st.txt]) (k:=0) (n:=0) S2.cx hτ (.head _) ag rfl rfl (Nat.le_trans (by decide:1≤16777216) (Nat.le_refl _))
  refine dT S1 (.d (.str (tx (l.take 1)))) (hown rfl) ?_ fun s₂ S2=>?_
  ·rw [← sG]
   exact fW (a:=none) (b:=some 1) S1.cx (item S1 rfl) trivial (aa (.int 1) S1.cx rfl) (by rw [aP];exact Nat.le_add_left_of_le hlen)
  ·refine pG S2 (a:=L.lf) (ds:=[.str st.txt]) (k:=0) (n:=0) (ω1:=[]) (ω2:=[]) (d:=.str (tx (l.drop 1))) (az (.ref L.lf) S2.cx rfl) ag rfl (by simp) rfl (Nat.lt_succ_self 0) (Nat.le_trans (by decide:1≤16777216) (Nat.le_refl _)) ?_ fun s₃ S3=>?_
   ·rw [← qE]
    exact fW (a:=some 1) (b:=none) S2.cx (item S2 rfl) (aa (.int 1) S2.cx rfl) trivial (by rw [aP];exact Nat.le_add_left_of_le hlen)
   ·refine ca S3 (aa (.str (tx (l.take 1))) S3.cx rfl) fun s₄ v S4 hv=>?_
    refine ai (Sx.left (ωa:=[(L.lf,.lst [.str st.txt])]) S4 hnew) fun z1 z2=>?_
    exact ⟨z1,z2 _ (.head _),hv.less fun b hb=>mR hb⟩
 refine wpAny_mono fin (fun f s' q=>?_) fun Z Z z=>z.elim
 have res:Keep (lexA L) s s'∧LexAt prog w s'.heap X L { st with txt:=tx (l.drop 1) }∧Rd prog w s'.heap X (.str (tx (l.take 1))) (dU f):=by
  have hlfX:=olf.2
  have mvo:∀ p:Addr×OD,p∈aD L st→p.1≠L.lf→OwnAt prog w s'.heap X p.1 p.2∧p.1∈X:=fun p hp hne=>⟨(hl p hp).1.mv (fun b o hb e=>⟨hb,q.1.heap b o (fun hm=>hb (ay hm ▸ hlfX)) e⟩) fun o e=>q.1.heap _ o (fun hm=>hne (ay hm)) e,(hl p hp).2⟩
  exact ⟨q.1.more fun b hb=>by rw [ay hb];exact uU,aj (mvo _ rW (bf ok 0 8)) (aj (mvo (L.dx,.att (cD L st)) rX (bf ok 1 8)) (aj (mvo _ tr (bf ok 2 8)) (aj (mvo _ uD (bf ok 3 8)) (aj (mvo _ uE (bf ok 4 8)) (aj (mvo _ tW (bf ok 5 8)) (aj (mvo _ tX (bf ok 6 8)) (aj (mvo _ uF (bf ok 7 8)) (aj ⟨q.2.1,hlfX⟩ iF)))))))),q.2.2⟩
 cases f <;> exact res
end
noncomputable def eI (l:List Nat):Int:=if tx (l.take 1) == ("\n":Str) then 1 else 0
section
variable {ωb:List (Addr×OD)} {L:LA} {st:LS} {st':LS}
theorem Sx.lexTurn (S:Sx prog w s₀ env M X τ (aD L st++ωb) s) (k:Keep (lexA L) s s') (h:LexAt prog w s'.heap X L st') (hd:∀ p∈ωb,p.1∉lexA L):Sx prog w s₀ env M X τ (aD L st'++ωb) s' :=
 Sx.puts S k rfl (fun p hp=>(h p hp).1) hd
theorem Sx.lexAt (S:Sx prog w s₀ env M X τ (aD L st++ωb) s):LexAt prog w s.heap X L st:=fun p hp=>⟨(S.cx.own p (mL hp)).1,(S.cx.own p (mL hp)).2.1⟩
theorem Sx.lexOpen {X0:List Addr} (S:Sx prog w s env M (M++X0) τ [] s') (hnew:∀ a∈M,s.heap.get? a=none) (h:LexAt prog w s.heap X0 L st) (hc:env.cells=[]):Sx prog w s env (lexA L++M) (M++X0) τ (aD L st++[]) s':=by
 have:=Sx.adopt (ωa:=aD L st) S hnew h (by rw [hc];intro c hc;exact nM hc)
 rw [List.append_nil];exact this
theorem Sx.lexClose {X0:List Addr} (S:Sx prog w s env (lexA L++M) (M++X0) τ (aD L st++ωb) s') (hnew:∀ a∈M,s.heap.get? a=none) (hX:∀ a∈lexA L,a∈X0):Keep (lexA L) s s'∧LexAt prog w s'.heap X0 L st:=by
 refine ai (Sx.left (ωa:=aD L st) S hnew) fun h1 h2=>?_
 exact ⟨h1,fun p hp=>⟨h2 p (mL hp),hX _ (by rw [← aR L st];exact List.mem_map_of_mem hp)⟩⟩
theorem qF {p:Addr×OD} {ω:List (Addr×OD)} (h:p∈aD L st):p∈aD L st++ω:=mL h
theorem LexAt.inst {h:Heap} (x:LexAt prog w h X L st):Inst h L.lx L.dx (cD L st):=⟨(x _ rW).1,(x _ rX).1⟩
theorem l0 {o:Expr} {x dx f:Addr} {fo:Obj} {fd:FuncData} {ps:List (Str×Value)} {name:Str} {ap pos:Pos} {args:List Expr} {bs:List Bd} {Q:Value→Shared→Prop} (c:Cx prog w env X τ ω s) (ho:EvV prog w A env s o (.ref x)) (h1:(x,OD.raw (instObj CL dx))∈ω) (h2:(dx,OD.att ps)∈ω)
  (hn:name∈attNames) (hl:ps.lookup name=some (.ref f)) (hf:(f,OD.raw fo)∈ω) (hfd:fo.data=.func fd) (hes:EvBs prog w A env X s args bs)
  (h:∀ vs s',Keep [] s s'→Args3 prog w s'.heap X bs vs→WP prog w A (call (.ref f) vs []) Q s') {pl:Sem Bool}
  (he:autoParam (eval (.Call (.Attribute o name ap) args [] pos) env=(do
   let ov ← eval o env
   standAt ap.atName
   let (f,first) ← holding [ov] (getMethod ov name pl)
   callWith pos f first (backTo pos (starEach args env)) [])) cT._auto_1) :
  WP prog w A (eval (.Call (.Attribute o name ap) args [] pos) env) Q s:=by
 refine MethodCall_ (pl:=pl) (ho.go fun v s₁ k₁ h₁=>?_) he
 subst h₁
 have c₁:=c.keep k₁
 have I:Inst s₁.heap x dx ps:=⟨(c₁.own _ h1).1,(c₁.own _ h2).1⟩
 refine ex12 c₁.top.frag fun K hK F=>?_
 refine ex23 I.at fun es n Z Z IA=>?_
 refine method_usual hK IA F.ga F.gt (F.att name hn) rfl (rt c₁.top I hn hl rfl ?_)
 have kt:Keep [] s₁ { s₁ with toks:=s₁.toks + 1 }:=Keep.toks
 refine cw (first:=[]) (hes.keep (k₁.trans kt)) (fun s₂ k₂=>?_) fun vs s₂ k₂ h₂=>h vs s₂ ((k₁.trans kt).trans k₂) h₂
 exact fc (((c₁.keep kt).keep k₂).own _ hf).1 hfd
theorem kY {k:Nat} {l:List Nat} (ao:Ao (k + 2) A) (g:Gd X s) (ok:LaOk L) (hl:LexAt prog w s.heap X L st) (hx:st.txt=tx l) (hlen:l.length≤1000000) :
  codeAny (model prog w) A (.call (.ref 63) ⟨[.ref L.lx],[]⟩) (fun r s'=>match r with | .ok (.ret v)=>(Keep (lexA L) s s'∧(∃ lt',LexAt prog w s'.heap X L ⟨st.line + eI l,lt',st.q,tx (l.drop 1)⟩)∧Rd prog w s'.heap X (.str (tx (l.take 1))) v) | .ok _=>False | .error _=>False) s:=by
 revert ao g ok hl hx hlen
 revert prog w A X s L st k l;refine @(dr9 ?_);exists w9 _ _,prog,w,A,X,s,L,st,k,l
 intro ao g ok hl hx hlen
 refine fA (bs:=[.v (.ref L.lx)]) (names:=["self"]) (g.top.fm (63,101) (by decide)) g ao.lim (.cons rfl .nil) (fun env M s₁ hsc hnew hcl hcl' S Z=>?_) (fun Z Z Z=>rfl) (by rfl) (by decide) (by decide +kernel) (by decide +kernel) (by decide +kernel) (by decide +kernel)
 have fe:Fe env 101:=⟨hsc,hcl,hcl'⟩
 have hce:env.cells=[]:=cq fun x=>by rw [hcl'];rfl
 have S1:=S.lexOpen hnew hl hce
 refine ex31 ok.fo fun doc pm ctv hfo=>?_
 refine aK (wpAny_Assign_Name (l0 (x:=L.fd) (dx:=L.fx) (f:=L.fn) (fo:=L.fo) (ps:=L.fps) S1.cx (gZ (x:=L.lx) (dx:=L.dx) (ps:=cD L st) S1.cx (az (.ref L.lx) S1.cx rfl) (qF rW) (qF rX) (by decide) rfl rfl) (qF uD) (qF uE) (by decide) ok.read (qF tW) (by rw [hfo]) (aH (ag (i:=1)) al) fun vs s₂ k₂ h₂=>?_) rfl)
 refine aO h₂ fun v Z1 hv=>?_;subst Z1
 refine hv.intE fun t Z1=>?_;subst Z1
 have S2:=S1.keep k₂
 refine wpAny_mono (rv (ao.deeper) S2.cx.gd ok S2.lexAt hx hlen) (fun r s₃ q=>?_) fun Z Z z=>z
 have S3:=S2.lexTurn q.1 q.2.1 (fun p hp=>nomatch hp)
 refine S3.store (fe.own rfl) (b:=.d (.str (tx (l.take 1)))) q.2.2 fun s₄ Z S4=>?_
 have fin:∀ {s₅:Shared} {lt:Tok} {ln:Int},ln=st.line + eI l→Sx prog w s env (lexA L++M) (M++X) [("ch",.d (.str (tx (l.take 1))))] (aD L ⟨ln,lt,st.q,tx (l.drop 1)⟩++[]) s₅ →
   WP prog w (A.deeper env) (execs ((fnBody 101).drop 2) env) (fun f s'=>Keep (lexA L) s s'∧(∃ lt',LexAt prog w s'.heap X L ⟨st.line + eI l,lt',st.q,tx (l.drop 1)⟩)∧Rd prog w s'.heap X (.str (tx (l.take 1))) (dU f)) s₅:=fun hln S5=>by
  refine ca S5 (aa (.str (tx (l.take 1))) S5.cx rfl) fun s₆ v S6 hv=>?_
  have z:=S6.lexClose hnew hl.inX
  exact ⟨z.1,⟨_,hln ▸ z.2⟩,hv.less fun b hb=>mR hb⟩
 refine ik S4 (tx (l.take 1) == ("\n":Str)) (aZ S4.cx (aa (.str (tx (l.take 1))) S4.cx rfl) aX gX) (fun hc s₅ S5=>?_) (fun hc s₅ S5=>?_)
 ·refine aK (wpAny_AugAssign_AttributeAny ((az (.ref L.lx) S5.cx rfl).go fun u s₆ k₆ h₆=>?_))
  subst h₆
  have S6:=S5.keep k₆
  refine rt S6.cx.top S6.lexAt.inst (by decide) (v:=.int st.line st.lt) rfl rfl ?_
  refine (ag (X:=M++X) (i:=1)).go fun u s₇ k₇ h₇=>?_
  refine h₇.intE fun t' Z1=>?_;subst Z1
  have S7:=(S6.keep (Keep.toks (tk:=s₆.toks + 1))).keep k₇
  refine PyProof.Rows.iadd_int ?_
  have S8:=S7.keep (Keep.toks (tk:=s₇.toks + 1))
  refine sC S8.cx.top S8.lexAt.inst (by decide) (Nat.le_trans (by decide:4≤100) (Nat.le_refl _)) fun h' tk hs hg=>?_
  have ho:OwnAt prog w h' (M++X) L.dx (.att (cD L ⟨st.line + 1,s₇.toks,st.q,tx (l.drop 1)⟩)):=hg
  have S9:=S8.put (a:=L.dx) (ω1:=[(L.lx,.raw (instObj CL L.dx))]) (ω2:=[(L.pl,.lst st.q),(L.fd,.raw (instObj CL L.fx)),(L.fx,.att L.fps),(L.fn,.raw L.fo),(L.cl,.raw L.co),(L.cc,.raw L.oc),(L.lf,.lst [.str (tx (l.drop 1))])]) (tk:=tk) rfl (aj (bf ok 0 1) (aj (bf ok 2 1) (aj (bf ok 3 1) (aj (bf ok 4 1) (aj (bf ok 5 1) (aj (bf ok 6 1) (aj (bf ok 7 1) (aj (bf ok 8 1) iF)))))))) hs ho
  exact ax (prog:=prog) (w:=w) (A:=A.deeper env) (env:=env) (Q:=fun f s=>c5 prog w (A.deeper env) env _ _ f s) (fin (lt:=s₇.toks) (ln:=st.line + 1) (by unfold eI;rw [hc];rfl) (S9.cover ⟨rfl,trivial⟩))
 ·exact ax (prog:=prog) (w:=w) (A:=A.deeper env) (env:=env) (Q:=fun f s=>c5 prog w (A.deeper env) env _ _ f s) (fin (lt:=st.lt) (ln:=st.line) (by unfold eI;rw [hc];simp) (S5.cover ⟨rfl,trivial⟩))
theorem nJ {k:Nat} {l:List Nat} (ao:Ao (k + 2) A) (g:Gd X s) (ok:LaOk L) (hl:LexAt prog w s.heap X L st) (hx:st.txt=tx l) (hlen:l.length≤1000000) :
  WP prog w A (call (.ref 63) [.ref L.lx] []) (fun v s'=>Keep (lexA L) s s'∧(∃ lt',LexAt prog w s'.heap X L ⟨st.line + eI l,lt',st.q,tx (l.drop 1)⟩)∧Rd prog w s'.heap X (.str (tx (l.take 1))) v) s:=wpAny_call (kY ao g ok hl hx hlen)
end
theorem bP:Slot "callable_iterator" "__next__" "callable_iterator.__next__" :=
 .of (owner:="callable_iterator") (n:="__next__") (by rw [typeLookup_type,builtinLookup_eq_fast];kernel_rfl) (by decide +kernel) (by decide +kernel) (by decide +kernel)
  (by first | exact .inl (by decide +kernel) | exact .inr (by decide +kernel)) (by rw [isSubtype_type];kernel_rfl)
theorem ei:Slot "callable_iterator" "__iter__" "callable_iterator.__iter__" :=
 .of (owner:="callable_iterator") (n:="__iter__") (by rw [typeLookup_type,builtinLookup_eq_fast];kernel_rfl) (by decide +kernel) (by decide +kernel) (by decide +kernel)
  (by first | exact .inl (by decide +kernel) | exact .inr (by decide +kernel)) (by rw [isSubtype_type];kernel_rfl)
theorem dG:entryFor table "callable_iterator.__next__"=some Builtin.«callable_iterator.__next__»:=entryFor_of_tree (by kernel_rfl)
theorem gz:entryFor table "callable_iterator.__iter__"=some Builtin.«dict_keyiterator.__iter__» :=
 entryFor_alias (id':="dict_keyiterator.__iter__") (by kernel_rfl) rfl (by decide +kernel) (by kernel_rfl)
theorem ej (a:Value):argsOk "callable_iterator.__next__" ⟨[a],[]⟩:=by unfold argsOk;kernel_rfl
theorem iG (a:Value):argsOk "callable_iterator.__iter__" ⟨[a],[]⟩:=by unfold argsOk;kernel_rfl
theorem l3:builtinKind "iter"=none:=by decide +kernel
theorem j2:plainId "iter"=true:=by decide +kernel
theorem j3:entryFor table "iter"=some Builtin.«iter»:=entryFor_of_tree (by kernel_rfl)
theorem j4 (a b:Value):argsOk "iter" ⟨[a,b],[]⟩:=by unfold argsOk;kernel_rfl
noncomputable abbrev mG (m:Addr) (t:Tok):Obj:={ cls:=.type "callable_iterator",data:=.fields #[.ref m,.str (tx []) t,.bool false] }
noncomputable abbrev fX:Obj:={ cls:=.type "callable_iterator",data:=.fields #[.none,.none,.bool true] }
theorem l4:typeLookup (.type "method") "__call__"=pure (some (.builtin "method.__call__")):=by rw [typeLookup_type,builtinLookup_eq_fast];kernel_rfl
theorem sH {m:Addr} {t:Tok} {f:Value} {x:Value} {Q:Value→Shared→Prop} (hm:s.heap.get? m=some (methodObj f x)) (h:Q (.ref s.heap.objs.size) { s with heap:=s.heap.push (mG m t) }) :
  WP prog w A (call (.builtin "iter") [.ref m,.str (tx []) t]) Q s:=by
 refine Calls.call_function_entry l3 j2 j3 (j4 _ _) ?_
 unfold Builtin.«iter»
 refine wpAny_bind (wpAny_of_eq (a:=[Value.ref m,.str (tx []) t]) (by first | rfl | kernel_rfl) ?_)
 dsimp only
 refine wpAny_bind (wpAny_specialOf (T:="method") ⟨_,hm,rfl⟩ l4 ?_)
 first | refine wF (by simp) ?_ | refine nF (by simp) ?_
 refine wpAny_bind (wpAny_rule ?_)
 exact wpAny_bind (wpAny_newObj_type (wpAny_pure ⟨_,rfl,h⟩) (by size_fits))
theorem pH {I:Addr} {o:Obj} {Q:Value→Shared→Prop} (hI:s.heap.get? I=some o) (hc:o.cls=.type "callable_iterator") (h:Q (.ref I) s):WP prog w A (pyIter (.ref I)) Q s:=by
 have hT:s.TypeIs (.ref I) "callable_iterator":=⟨o,hI,hc⟩
 refine wpAny_pyIter_slot hT ei (wpAny_call_entry ei hT gz ?_ (iG _))
 exact wpAny_pure ⟨_,rfl, "callable_iterator",_,hT,bP.lookup,h⟩
theorem nK {I:Addr} {Q:Option Value→Shared→Prop} (hh:A.handled=none) (hI:s.heap.get? I=some fX) (h:∀ h',(∀ b o,s.heap.get? b=some o→h'.get? b=some o)→Q none { s with heap:=h' }):WP prog w A (pyNext (.ref I)) Q s:=by
 have hT:s.TypeIs (.ref I) "callable_iterator":=⟨_,hI,rfl⟩
 unfold pyNext
 refine wpAny_bind (wpAny_attempt (wpAny_callSpecial?_slot (name:=Str.ofString "__next__") hT bP (wpAny_call_entry bP hT dG ?_ (ej _))))
 unfold Builtin.«callable_iterator.__next__»
 refine wpAny_bind (wpAny_pure ?_)
 refine wpAny_bind (wpAny_field hI rfl (x:=.bool true) rfl ?_)
 refine wT (by decide) ?_
 refine wpAny_bind (wpAny_rule ?_)
 have hh1:A.in1.handled=none:=hh
 exact kP hh1 fun h' e hk hT=>wpAny_bind (wpAny_isInstance hT isSubtype_stop (wpAny_pure (h h' hk)))
theorem g5 {m f:Addr} {x:Value} {fo:Obj} {fd:FuncData} {E:Value→Shared→Prop} {Q:Bool→Shared→Prop} (hm:s.heap.get? m=some (methodObj (.ref f) x)) (hf:s.heap.get? f=some fo) (hd:fo.data=.func fd) (h:Q true s) :
  wpAny (model prog w) A (borrowsExactly (.ref m)) Q E s:=by
 unfold borrowsExactly
 refine wpAny_bind (wpAny_load hm ?_)
 show wpAny _ _ (do let o ← load f;match o.data with | .func _=>pure true | _=>pure false) _ _ _
 refine wpAny_bind (wpAny_load hf ?_)
 rw [hd]
 exact wpAny_pure h
theorem nL {β:Type} {E:Value→Shared→Prop} {Q:β→Shared→Prop} (hh:A.handled=none)
  (h:∀ h' e,(∀ b o,s.heap.get? b=some o→h'.get? b=some o)→({ s with heap:=h' }:Shared).TypeIs (.ref e) "StopIteration"→E (.ref e) { s with heap:=h' }) :
  wpAny (model prog w) A (newExc (.type "StopIteration") [] >>= fun x=>(raiseNew x:Sem β)) Q E s:=by
 refine wpAny_bind ?_
 unfold newExc newTuple
 refine wpAny_bind (wpAny_newObj_type (wpAny_bind (m:=firstArgMember _ _) (wpAny_of_eq (a:=Value.none) (by first | rfl | (simp only [firstArgMember];rfl)) (wpAny_newObj_type ?_ (by size_fits)))) (by size_fits))
 exact wpAny_raiseNew_none hh (h _ _ (fun b o hb=>Heap.get?_push_of_some _ (Heap.get?_push_of_some _ hb)) ⟨_,Heap.get?_push_size _ rfl,rfl⟩)
theorem pI {I m f:Addr} {t:Tok} {x:Value} {fo:Obj} {fd:FuncData} {Q:Option Value→Shared→Prop} (hh:A.handled=none) (hI:s.heap.get? I=some (mG m t)) (hm:s.heap.get? m=some (methodObj (.ref f) x)) (hf:s.heap.get? f=some fo) (hd:fo.data=.func fd)
  (h:codeAny (model prog w) A.in1 (.call (.ref f) ⟨[x],[]⟩) (fun r s'=>match r with | .ok (.ret v)=>(∃ r u,v=.str r u∧s'.heap.get? I=some (mG m t)∧s'.heap.get? m=some (methodObj (.ref f) x)∧s'.heap.get? f=some fo ∧
   (r≠tx []→Q (some v) s')∧(r=tx []→∀ h',(∀ b o,b≠I→s'.heap.get? b=some o→h'.get? b=some o)→h'.get? I=some fX→Q none { s' with heap:=h' })) | .ok _=>False | .error _=>False) s) :
  WP prog w A (pyNext (.ref I)) Q s:=by
 revert hh hI hm hf hd h
 revert prog w A s I m f t x fo fd Q;refine @(dr12 ?_);exists w12 _ _,prog,w,A,s,I,m,f,t,x,fo,fd,Q
 intro hh hI hm hf hd h
 have hT:s.TypeIs (.ref I) "callable_iterator":=⟨_,hI,rfl⟩
 unfold pyNext
 refine wpAny_bind (wpAny_attempt (wpAny_callSpecial?_slot (name:=Str.ofString "__next__") hT bP (wpAny_call_entry bP hT dG ?_ (ej _))))
 unfold Builtin.«callable_iterator.__next__»
 refine wpAny_bind (wpAny_pure ?_)
 refine wpAny_bind (wpAny_field hI rfl (x:=.bool false) rfl ?_)
 refine wF (by decide) ?_
 refine wpAny_bind (wpAny_field hI rfl (x:=.ref m) rfl ?_)
 refine wpAny_bind (wpAny_attempt ?_)
 unfold callOutOfASlot
 refine wpAny_bind (g5 hm hf hd ?_)
 refine wT rfl ?_
 refine gy (wpAny_call (ks_codeAny_call_bound hm (codeAny_mono h fun r s' z=>?_)))
 rcases r with e | (_ | _ | _ | v) <;> first | exact z.elim | skip
 obtain ⟨r,u,rfl,hI',hm',hf',h1,h2⟩:=z
 refine wpAny_bind (wpAny_field hI' rfl (x:=.bool false) rfl ?_)
 refine wF (by decide) ?_
 refine wpAny_bind (wpAny_field hI' rfl (x:=.str (tx []) t) rfl ?_)
 refine wpAny_bind (wpAny_holding (wpAny_eqBool_str ?_))
 by_cases hr:r=tx []
 ·subst hr
  rw [decide_eq_true rfl,if_neg (by decide)]
  refine wpAny_bind (wpAny_rule (wpAny_bind ?_))
  refine wpAny_bind (wpAny_field hI' rfl (x:=.ref m) rfl ?_)
  refine wpAny_bind ?_
  unfold slotLetsGo
  refine wpAny_bind (g5 hm' hf' hd ?_)
  refine wT rfl ?_
  refine wpAny_pure ?_
  refine wpAny_bind (wpAny_setField hI' rfl (show (0:Nat) < 3 by decide) ?_)
  have e1:=Heap.get?_update_self (Obj.mapFields (·.setIfInBounds 0 Value.none)) hI' rfl
  refine wpAny_bind (wpAny_setField e1 rfl (show (1:Nat) < 3 by decide) ?_)
  have e2:=Heap.get?_update_self (Obj.mapFields (·.setIfInBounds 1 Value.none)) e1 rfl
  refine wpAny_setField e2 rfl (show (2:Nat) < 3 by decide) ?_
  have e3:=Heap.get?_update_self (Obj.mapFields (·.setIfInBounds 2 (Value.bool true))) e2 rfl
  show wpAny _ A.in1 (newExc (.type "StopIteration") [] >>= fun x=>(raiseNew x:Sem PySem.Fin)) _ _ _
  have hh1:A.in1.handled=none:=hh
  refine nL hh1 fun h' e hk hT=>?_
  refine wpAny_bind (wpAny_isInstance hT isSubtype_stop (wpAny_pure ?_))
  refine h2 rfl h' (fun b o hb e=>hk b o ?_) (hk _ _ e3)
  show (((s'.heap.update I _).update I _).update I _).get? b=some o
  rw [Heap.get?_update_ne _ _ _ _ hb,Heap.get?_update_ne _ _ _ _ hb,Heap.get?_update_ne _ _ _ _ hb]
  exact e
 ·rw [decide_eq_false (fun e=>hr e.symm),if_pos (by decide)]
  exact wpAny_pure ⟨_,rfl,wpAny_pure (h1 hr)⟩
noncomputable def qB (c:Nat):Bool:=tx [c] == ("\"":Str)
noncomputable def bB (c:Nat):Bool:=tx [c] == ("\\":Str)
noncomputable def jy (c:Nat):Bool:=pj qD (tx [c])
noncomputable def b4 (stop:Nat→Bool):Nat→List Nat→List Nat→Bool×List Nat×List Nat
 | 0,tok,l=>(false,tok,l)
 | _ + 1,tok,[]=>(false,tok,[])
 | n + 1,tok,c::r=>if stop c then (true,tok,r) else if bB c then b4 stop n (tok++r.take 1) (r.drop 1) else b4 stop n (tok++[c]) r
theorem b7 (a b:List Nat):tx a++tx b=tx (a++b):=by
 show (⟨a.toArray++b.toArray⟩:Str)=⟨(a++b).toArray⟩
 rw [List.append_toArray]
noncomputable def bO (L:LA) (I m:Addr) (t:Tok) (en:Bool):List (Addr×OD):=[(I,.raw (if en then fX else mG m t)),(m,.raw (methodObj (.ref 63) (.ref L.lx)))]
structure CiOk (L:LA) (I m:Addr):Prop where
 hI:I∉lexA L
 hm:m∉lexA L
 ne:I≠m
section
variable {L:LA} {st:LS} {I:Addr} {m:Addr} {t:Tok}
theorem kZ {a b:Str} (hl:a.length + b.length≤16777216):cv prog w A X (inplaceOp .Add) (.str a) (.str b) (.str (a++b)):=fun s u v Z h1 h2=>by
 refine h1.strE fun t Z1=>?_;subst Z1;refine h2.strE fun t' Z1=>?_;subst Z1
 exact PyProof.Rows.iadd_str (fun t' tk=>⟨Keep.toks,Rd.str_⟩) (by rw [aM];exact hl)
theorem eJ (ci:CiOk L I m) (en:Bool):∀ p∈bO L I m t en,p.1∉lexA L:=fun p hp=>by
 refine mC hp (fun Z1=>?_) fun hp=>?_;subst Z1
 ·exact ci.hI
 ·rw [mS hp];exact ci.hm
theorem k4 {k:Nat} {l:List Nat} {Q:Option Value→Shared→Prop} (ao:Ao (k + 3) A) (ok:LaOk L) (ci:CiOk L I m) (S:Sx prog w s₀ env M X τ (aD L st++bO L I m t false) s) (hx:st.txt=tx l) (hlen:l.length≤1000000)
  (h1:l=[]→∀ s' lt',Sx prog w s₀ env M X τ (aD L ⟨st.line,lt',st.q,tx []⟩++bO L I m t true) s'→Q none s')
  (h2:∀ c r,l=c::r→∀ s' v lt',Rd prog w s'.heap X (.str (tx [c])) v→Sx prog w s₀ env M X τ (aD L ⟨st.line + eI l,lt',st.q,tx r⟩++bO L I m t false) s'→Q (some v) s') :
  WP prog w A (pyNext (.ref I)) Q s:=by
 revert ao ok ci S hx hlen h1 h2
 revert L st I m t k l Q
 revert prog w A env M X τ s s₀;refine @(dr9 ?_);exists w9 _ _,prog,w,A,env,M,X,τ,s,s₀
 intro L st I m t k l Q
 revert L st I m t k l Q;refine @(dr8 ?_);exists w8 _ _,L,st,I,m,t,k,l,Q
 intro ao ok ci S hx hlen h1 h2
 have hI:s.heap.get? I=some (mG m t):=(S.cx.own (I,.raw (mG m t)) (by simp [bO])).1
 have hm:s.heap.get? m=some (methodObj (.ref 63) (.ref L.lx)):=(S.cx.own (m,.raw (methodObj (.ref 63) (.ref L.lx))) (by simp [bO])).1
 obtain ⟨_,⟨doc,pm,c,oc,vs,t',hf,_⟩,_⟩:=S.cx.top.fm (63,101) (by decide)
 refine pI ao.h hI hm hf rfl (codeAny_mono (kY (ao.in1) S.cx.gd ok S.lexAt hx hlen) fun r s₁ z=>?_)
 rcases r with e | (_ | _ | _ | v) <;> first | exact z.elim | skip
 refine br z fun z1 Z1 z3=>?_;clear z;refine ex11 Z1 fun lt' z2=>?_;clear Z1
 have S1:=S.lexTurn z1 z2 (eJ ci false)
 refine z3.strE fun u Z1=>?_;subst Z1
 have hI1:s₁.heap.get? I=some (mG m t):=(S1.cx.own (I,.raw (mG m t)) (by simp [bO])).1
 have hm1:s₁.heap.get? m=some (methodObj (.ref 63) (.ref L.lx)):=(S1.cx.own (m,.raw (methodObj (.ref 63) (.ref L.lx))) (by simp [bO])).1
 have h63:(63:Addr)∉lexA L:=fun hm=>by
  have:=S.cx.xhi _ (S.lexAt.inX _ hm)
  exact absurd this (by decide)
 refine ⟨_,u,rfl,hI1,hm1,z1.heap _ _ h63 hf,fun hne=>?_,fun he h' hk hI'=>?_⟩
 ·cases l with
  | nil=>exact absurd rfl hne
  | cons c r=>exact h2 c r rfl _ _ lt' z3 S1
 ·have hl:l=[]:=by
   cases l with
   | nil=>rfl
   | cons c r=>exact absurd (congrArg (fun x:Str=>x.cps.size) he) (by simp [tx])
  subst hl
  have k1:Keep [I] s₁ { s₁ with heap:=h' }:=⟨fun a o ha e=>hk a o (fun e=>ha (by rw [e];exact .head _)) e,fun a ha=>by
   by_cases hb:a=I
   ·subst hb;show (h'.get? a).isSome=true;rw [hI'];rfl
   ·cases e:s₁.heap.get? a with
    | none=>rw [e] at ha;exact nB ha
    | some o=>show (h'.get? a).isSome=true;rw [hk a o hb e];rfl,fun Z Z e=>e,id,rfl⟩
  have S2:=(S1.owns (ω':=[(I,.raw (mG m t))]++(aD L ⟨st.line + eI [],lt',st.q,tx []⟩++[(m,.raw (methodObj (.ref 63) (.ref L.lx)))])) (fun p hp=>by
   simp only [List.cons_append,List.nil_append,List.mem_cons,List.mem_append,bO] at hp ⊢
   refine ly hp (fun h=>?_) (fun h=>?_) fun h=>?_
   ·exact .inr (.inl h)
   ·exact .inl h
   ·exact .inr (.inr h))).puts (ωa':=[(I,.raw fX)]) k1 rfl (fun p hp=>by rw [mS hp];exact hI') (fun p hp=>by
   intro hm
   have:p.1=I:=by simpa using hm
   refine mA hp (fun h=>?_) fun h=>?_
   ·exact ci.hI (this ▸ aR L _ ▸ List.mem_map_of_mem h)
   ·rw [mS h] at this;exact ci.ne this.symm)
  rw [show eI []=0 by decide,Int.add_zero] at S2
  refine h1 rfl _ lt' (S2.owns fun p hp=>?_)
  simp only [List.cons_append,List.nil_append,List.mem_cons,List.mem_append,bO] at hp ⊢
  refine ly hp (fun h=>?_) (fun h=>?_) fun h=>?_
  ·exact .inr (.inl h)
  ·exact .inl h
  ·exact .inr (.inr h)
theorem nQ {x:Str} {px p:Pos} {e:Expr} {body rest:List Stmt} {Q:Flow→Shared→Prop} (he:EvV prog w A env s e (.ref I)) (hc:∀ s',Keep [] s s'→∃ o,s'.heap.get? I=some o∧o.cls=.type "callable_iterator") (J:Nat→Shared→Prop) (n:Nat) (h0:∀ s',Keep [] s s'→J n s')
  (turn:∀ n s,J n s→WP prog w A (pyNext (.ref I)) (fun r s₁=>match r with
   | none=>WP prog w A (execs rest env) Q s₁
   | some v=>(∃ o,s₁.heap.get? I=some o∧o.cls=.type "callable_iterator")∧WP prog w A (storeName env x v) (fun Z s₂=>WP prog w A (execs body env) (fun f s₃=>match f with
     | .next | .cont=>∃ m,m < n∧J m s₃
     | .brk=>False
     | .ret v=>Q (.ret v) s₃) s₂) s₁) s)
  (hs:autoParam (∀ x,foldedSetIterable e env x=pure x) e8._auto_1):WP prog w A (execs (.For (.Name x px) e body [] p::rest) env) Q s:=by
 revert he hc h0 turn hs
 revert p e body rest Q J n
 revert prog w A env s I x px;refine @(dr8 ?_);exists w8 _ _,prog,w,A,env,s,I,x,px
 intro p e body rest Q J n
 revert p e body rest Q J n;refine @(dr7 ?_);exists w7 _ _,p,e,body,rest,Q,J,n
 intro he hc h0 turn hs
 refine aK (wpAny_For (he.go fun v s₁ k₁ h₁=>?_) hs)
 subst h₁
 refine ex12 (hc s₁ k₁) fun o ho hoc=>?_
 refine pH ho hoc ?_
 refine dr J (fun n s' hJ=>wpAny_mono (turn n s' hJ) (fun r s₂ h₂=>?_) fun Z Z z=>z.elim) n (h0 s₁ k₁)
 cases r with
 | none=>exact ax (prog:=prog) (w:=w) (A:=A) (env:=env) (Q:=fun f s=>c5 prog w A env rest Q f s) h₂
 | some v =>
  refine ai h₂ fun Z1 h₂=>?_;refine ex12 Z1 fun o ho hoc=>?_;clear Z1
  refine wpAny_mono (cg ho hoc (by decide) ?_) (fun Z Z z=>z) fun Z Z z=>z.elim
  refine wpAny_mono (Q:=fun Z s₃=>WP prog w A (execs body env) (fun f s₃=>match f with
     | .next | .cont=>∃ m,m < n∧J m s₃
     | .brk=>False
     | .ret v=>Q (.ret v) s₃) s₃) (wpAny_assign_Name h₂) (fun Z s₃ h₃=>wpAny_mono h₃ (fun f s₄ h₄=>?_) fun Z Z z=>z.elim) fun Z Z z=>z.elim
  cases f <;> first | exact h₄ | exact h₄.elim
end
noncomputable def nls:List Nat→Int
 | []=>0
 | c::r=>eI (c::r) + nls r
theorem je (l:List Nat):nls l=eI l + nls (l.drop 1):=by
 cases l with
 | nil=>decide
 | cons c r=>rfl
noncomputable def k5 (L:LA) (I:Addr) (tok:List Nat):List (Str×Bd):=[("token",.d (.str (tx tok))),("fiter",.v (.ref I)),("self",.v (.ref L.lx))]
section
variable {L:LA} {st:LS} {I:Addr} {m:Addr} {t:Tok}
theorem iH {en:Bool} (S:Sx prog w s₀ env M X τ (aD L st++bO L I m t en) s):∃ o,s.heap.get? I=some o∧o.cls=.type "callable_iterator":=by
 have:=(S.cx.own (I,.raw (if en then fX else mG m t)) (by simp [bO])).1
 exact ⟨_,this,by cases en <;> rfl⟩
theorem g6 {k:Nat} {te:Expr} {stop:Nat→Bool} {rest:List Stmt} {Q:Flow→Shared→Prop} {px pf p p1 p2 p3 p4 p5 p6 p7 p8 p9 p10 p11 p12 p13 p14 p15:Pos} (fe:Fe env 102) (ao:Ao (k + 3) A) (ok:LaOk L) (ci:CiOk L I m)
  (hte:∀ c tok st' s',Sx prog w s₀ env M X (("ch",.d (.str (tx [c])))::k5 L I tok) (aD L st'++bO L I m t false) s'→EvT prog w A env s' te (stop c))
  {pl:Sem Bool} (hcall:eval (.Call (.Attribute (.Name "self" p7) "_read_char" p8) [] [] p9) env=(do
   let ov ← eval (.Name "self" p7) env
   standAt p8.atName
   let (f,first) ← holding [ov] (getMethod ov "_read_char" pl)
   callWith p9 f first (backTo p9 (starEach [] env)) []))
  (n:Nat) (tok l:List Nat) (hn:l.length < n) (hlen:tok.length + l.length≤1000) (S:Sx prog w s₀ env M X (k5 L I tok) (aD L st++bO L I m t false) s) (hx:st.txt=tx l)
  (hret:∀ tok' r s' v ln lt',b4 stop n tok l=(true,tok',r)→ln=st.line + (nls l - nls r)→Sx prog w s₀ env M X [] (aD L ⟨ln,lt',st.q,tx r⟩++bO L I m t false) s'→Rd prog w s'.heap X (.str (tx tok')) v→Q (.ret v) s')
  (hend:∀ tok' s' ln lt',b4 stop n tok l=(false,tok',[])→ln=st.line + nls l→Sx prog w s₀ env M X (k5 L I tok') (aD L ⟨ln,lt',st.q,tx []⟩++bO L I m t true) s'→WP prog w A (execs rest env) Q s') :
  WP prog w A (execs (.For (.Name "ch" px) (.Name "fiter" pf) [.If te [.Return (some (.Name "token" p1)) p2] [.If (.Compare (.Name "ch" p3) [.Eq] [.Constant (.str "\\") 0 p4] p5) [.Assign [.Name "ch" p6] (.Call (.Attribute (.Name "self" p7) "_read_char" p8) [] [] p9) p10] [] p11] p12,.AugAssign (.Name "token" p13) .Add (.Name "ch" p14) p15] [] p::rest) env) Q s:=by
 revert fe ao ok ci hte hcall hn hlen S hx hret hend
 revert te stop rest Q px pf p p1 p2 p3 p4 p5 p6 p7 p8 p9 p10 p11 p12 p13 p14 p15 pl n tok l
 revert prog w A env M X s s₀ L st I m t k;refine @(dr14 ?_);exists w14 _ _,prog,w,A,env,M,X,s,s₀,L,st,I,m,t,k
 intro te stop rest Q px pf p p1 p2 p3 p4 p5 p6 p7 p8 p9 p10 p11 p12 p13 p14 p15 pl n tok l
 revert p8 p9 p10 p11 p12 p13 p14 p15 pl n tok l
 revert te stop rest Q px pf p p1 p2 p3 p4 p5 p6 p7;refine @(dr14 ?_);exists w14 _ _,te,stop,rest,Q,px,pf,p,p1,p2,p3,p4,p5,p6,p7
 intro p8 p9 p10 p11 p12 p13 p14 p15 pl n tok l
 revert p8 p9 p10 p11 p12 p13 p14 p15 pl n tok l;refine @(dr12 ?_);exists w12 _ _,p8,p9,p10,p11,p12,p13,p14,p15,pl,n,tok,l
 intro fe ao ok ci hte hcall hn hlen S hx hret hend
 refine nQ (az (.ref I) S.cx rfl) (fun s' k=>iH (S.keep k)) (fun n' s'=>∃ tok' l' ln lt',l'.length < n'∧b4 stop n' tok' l'=b4 stop n tok l∧tok'.length + l'.length≤1000∧ln=st.line + (nls l - nls l')∧Sx prog w s₀ env M X (k5 L I tok') (aD L ⟨ln,lt',st.q,tx l'⟩++bO L I m t false) s')
  n (fun s' k=>⟨tok,l,st.line,st.lt,hn,rfl,hlen,by lia,by rw [← hx];exact S.keep k⟩) (fun n' s' hJ=>?_)
 refine ex45 hJ fun tok' l' ln lt' h1 h2 h3 h4 S'=>?_;clear hJ
 obtain ⟨n',rfl⟩:∃ j,n'=j + 1:=⟨n' - 1,by lia⟩
 refine k4 ao ok ci S' rfl (by lia) (fun hl s₁ lt1 S1=>?_) (fun c r hl s₁ v lt1 hv S1=>?_)
 ·subst hl
  exact hend tok' s₁ _ lt1 (by rw [← h2];rfl) (by rw [h4];show _=st.line + nls l;simp [nls]) S1
 ·subst hl
  refine ⟨iH S1,S1.store (fe.own rfl) (b:=.d (.str (tx [c]))) hv fun s₂ Z S2=>?_⟩
  simp only [List.length_cons] at h1 h3
  have tail:∀ x l₂ s₃ ln2 ltB,b4 stop n' (tok'++x) l₂=b4 stop n tok l→l₂.length < n'→(tok'++x).length + l₂.length≤1000→ln2=st.line + (nls l - nls l₂)→Sx prog w s₀ env M X (("ch",.d (.str (tx x)))::k5 L I tok') (aD L ⟨ln2,ltB,st.q,tx l₂⟩++bO L I m t false) s₃ →
    WP prog w A (execs [.AugAssign (.Name "token" p13) .Add (.Name "ch" p14) p15] env) (fun f s₃=>match f with
     | .next | .cont=>∃ j,j < n' + 1∧∃ tok' l' ln lt',l'.length < j∧b4 stop j tok' l'=b4 stop n tok l∧tok'.length + l'.length≤1000∧ln=st.line + (nls l - nls l')∧Sx prog w s₀ env M X (k5 L I tok') (aD L ⟨ln,lt',st.q,tx l'⟩++bO L I m t false) s₃
     | .brk=>False
     | .ret v=>Q (.ret v) s₃) s₃:=fun x l₂ s₃ ln2 ltB e1 e2 e3 e4 S3=>by
   have hlx:(tok'++x).length=tok'.length + x.length:=List.length_append
   refine jB S3 (a:=.str (tx tok')) (b:=.str (tx x)) (d:=.str (tx (tok'++x))) (fe.own rfl) rfl (aa (.str (tx x)) S3.cx rfl) (by rw [← b7];exact kZ (by rw [aP,aP];lia)) fun s₄ S4=>ax ?_
   exact ⟨n',Nat.lt_succ_self _,tok'++x,l₂,ln2,ltB,e2,e1,e3,e4,S4.cover ⟨rfl,rfl,rfl,trivial⟩⟩
  have hsc:b4 stop (n' + 1) tok' (c::r)=if stop c then (true,tok',r) else if bB c then b4 stop n' (tok'++r.take 1) (r.drop 1) else b4 stop n' (tok'++[c]) r:=rfl
  rw [hsc] at h2
  have hnl:nls (c::r)=eI (c::r) + nls r:=rfl
  refine ik S2 (stop c) (hte c tok' _ s₂ S2) (fun hst s₃ S3=>?_) (fun hst s₃ S3=>?_)
  ·rw [if_pos hst] at h2
   refine ca S3 (aa (.str (tx tok')) S3.cx rfl) fun s₄ v S4 hv=>?_
   exact hret tok' r s₄ v _ _ h2.symm (by show ln + eI (c::r)=_;lia) (S4.cover trivial) hv
  ·rw [if_neg (by rw [hst];decide)] at h2
   refine ik S3 (bB c) (aZ S3.cx (aa (.str (tx [c])) S3.cx rfl) aX gX) (fun hb s₄ S4=>?_) (fun hb s₄ S4=>?_)
   ·rw [if_pos hb] at h2
    have c₄:=S4.cx
    refine aK (wpAny_Assign_Name (eH (pl:=pl) (he:=hcall) (x:=L.lx) (dx:=L.dx) (f:=63) (i:=101) c₄ (az (.ref L.lx) c₄ rfl) (mL (.head _)) (mL (.tail _ (.head _))) (by decide) rfl rfl al fun vs s₅ k₅ h₅=>?_) rfl)
    cases h₅
    have S5:=S4.keep k₅
    refine wpAny_mono (nJ (k:=k + 1) ao S5.cx.gd ok S5.lexAt rfl (by lia)) (fun u s₆ z=>?_) fun Z Z z=>z
    refine br z fun z1 Z1 z3=>?_;clear z;refine ex11 Z1 fun lt6 z2=>?_;clear Z1
    have S6:=S5.lexTurn z1 z2 (eJ ci false)
    refine S6.store (fe.own rfl) (b:=.d (.str (tx (r.take 1)))) z3 fun s₇ Z S7=>?_
    have hd:=je r
    refine ax (ax (prog:=prog) (w:=w) (A:=A) (env:=env) (Q:=fun f s=>c5 prog w A env _ _ f s) (tail (r.take 1) (r.drop 1) s₇ _ lt6 h2 (by rw [List.length_drop];lia) ?_ ?_ (S7.cover ⟨rfl,rfl,rfl,rfl,trivial⟩)))
    ·have:=List.length_take_le 1 r
     rw [List.length_append,List.length_drop,List.length_take];lia
    ·show ln + eI (c::r) + eI r=_
     lia
   ·rw [if_neg (by rw [hb];decide)] at h2
    refine ax (ax (prog:=prog) (w:=w) (A:=A) (env:=env) (Q:=fun f s=>c5 prog w A env _ _ f s) (tail [c] r s₄ _ _ h2 (by exact Nat.lt_of_add_lt_add_right h1) (by rw [List.length_append];simp;lia) ?_ (S4.cover ⟨rfl,rfl,rfl,rfl,trivial⟩)))
    show ln + eI (c::r)=_
    lia
end
noncomputable def outer:Nat→List Nat→List Nat→List Nat×List Nat
 | 0,tok,l=>(tok,l)
 | _ + 1,tok,[]=>(tok,[])
 | n + 1,tok,c::r=>if jy c then outer n tok r else if qB c then (b4 qB (r.length + 1) tok r).2 else
   if bB c then (b4 jy (r.length + 1) (tok++r.take 1) (r.drop 1)).2 else (b4 jy (r.length + 1) (tok++[c]) r).2
section
variable {L:LA} {st:LS} {I:Addr} {m:Addr} {t:Tok}
theorem uG {st':LS} {en:Bool} {tok:List Nat} {c:Nat} {p1 p2 p3 p4:Pos} (S:Sx prog w s₀ env M X (("ch",.d (.str (tx [c])))::k5 L I tok) (aD L st'++bO L I m t en) s) :
  EvT prog w A env s (.Compare (.Name "ch" p1) [.In] [.Attribute (.Name "self" p2) "whitespace" p3] p4) (jy c) :=
 aZ S.cx (aa (.str (tx [c])) S.cx rfl) ((gZ (x:=L.lx) (dx:=L.dx) (ps:=cD L st') (u:=.str qD L.wt) S.cx (az (.ref L.lx) S.cx rfl) (mL (.head _)) (mL (.tail _ (.head _))) (by decide) rfl rfl).d fun h=>Rd.str_) qx
theorem pJ {k:Nat} {Q:Flow→Shared→Prop} (fe:Fe env 102) (ao:Ao (k + 3) A) (ok:LaOk L) (ci:CiOk L I m) (l:List Nat) (hlen:l.length≤900) (S:Sx prog w s₀ env M X (k5 L I []) (aD L st++bO L I m t false) s) (hx:st.txt=tx l)
  (hret:∀ s' v ln lt' en,ln=st.line + (nls l - nls (outer (l.length + 1) [] l).2)→Sx prog w s₀ env M X [] (aD L ⟨ln,lt',st.q,tx (outer (l.length + 1) [] l).2⟩++bO L I m t en) s'→Rd prog w s'.heap X (.str (tx (outer (l.length + 1) [] l).1)) v→Q (.ret v) s') :
  WP prog w A (execs ((fnBody 102).drop 3) env) Q s:=by
 revert fe ao ok ci hlen S hx hret
 revert L st I m t k Q l
 revert prog w A env M X s s₀;refine @(dr8 ?_);exists w8 _ _,prog,w,A,env,M,X,s,s₀
 intro L st I m t k Q l
 revert L st I m t k Q l;refine @(dr8 ?_);exists w8 _ _,L,st,I,m,t,k,Q,l
 intro fe ao ok ci hlen S hx hret
 refine nQ (az (.ref I) S.cx rfl) (fun s' k=>iH (S.keep k)) (fun n' s' =>
   (∃ tok' l' ln lt',l'.length < n'∧outer n' tok' l'=outer (l.length + 1) [] l∧tok'.length + l'.length≤900∧ln=st.line + (nls l - nls l')∧Sx prog w s₀ env M X (k5 L I tok') (aD L ⟨ln,lt',st.q,tx l'⟩++bO L I m t false) s') ∨
   (∃ tok' ln lt',outer (l.length + 1) [] l=(tok',[])∧ln=st.line + nls l∧Sx prog w s₀ env M X (k5 L I tok') (aD L ⟨ln,lt',st.q,tx []⟩++bO L I m t true) s'))
  (l.length + 1) (fun s' k=>.inl ⟨[],l,st.line,st.lt,Nat.lt_succ_self _,rfl,by simp;exact hlen,by lia,by rw [← hx];exact S.keep k⟩) (fun n' s' hJ=>?_)
 have fin:∀ tok' ln lt' en s₁,outer (l.length + 1) [] l=(tok',[])→ln=st.line + nls l→Sx prog w s₀ env M X (k5 L I tok') (aD L ⟨ln,lt',st.q,tx []⟩++bO L I m t en) s₁→WP prog w A (execs ((fnBody 102).drop 4) env) Q s₁:=fun tok' ln lt' en s₁ e1 e2 S1=>by
  refine ca S1 (aa (.str (tx tok')) S1.cx rfl) fun s₂ v S2 hv=>?_
  refine hret s₂ v ln lt' en (by rw [e1,e2];simp [nls]) ?_ ?_
  ·rw [e1];exact S2.cover trivial
  ·rw [e1];exact hv
 rcases hJ with ⟨tok',l',ln,lt',h1,h2,h3,h4,S'⟩ | ⟨tok',ln,lt',h1,h2,S'⟩
 ·obtain ⟨n',rfl⟩:∃ j,n'=j + 1:=⟨n' - 1,by lia⟩
  refine k4 ao ok ci S' rfl (by lia) (fun hl s₁ lt1 S1=>?_) (fun c r hl s₁ v lt1 hv S1=>?_)
  ·subst hl
   exact fin tok' _ lt1 true s₁ (by rw [← h2];rfl) (by show ln=_;rw [h4];simp [nls]) S1
  ·subst hl
   refine ⟨iH S1,S1.store (fe.own rfl) (b:=.d (.str (tx [c]))) hv fun s₂ Z S2=>?_⟩
   simp only [List.length_cons] at h1 h3
   have hsc:outer (n' + 1) tok' (c::r)=if jy c then outer n' tok' r else if qB c then (b4 qB (r.length + 1) tok' r).2 else if bB c then (b4 jy (r.length + 1) (tok'++r.take 1) (r.drop 1)).2 else (b4 jy (r.length + 1) (tok'++[c]) r).2:=rfl
   rw [hsc] at h2
   have hnl:nls (c::r)=eI (c::r) + nls r:=rfl
   have scanned:∀ {stop:Nat→Bool} {tok1 l₁ n₁},(b4 stop n₁ tok1 l₁).2=outer (l.length + 1) [] l→∀ tok2 r₂ b,b4 stop n₁ tok1 l₁=(b,tok2,r₂)→outer (l.length + 1) [] l=(tok2,r₂):=fun e tok2 r₂ b e'=>by rw [← e,e']
   refine ik S2 (jy c) (uG S2) (fun hw s₃ S3=>?_) (fun hw s₃ S3=>?_)
   ·rw [if_pos hw] at h2
    refine aK (wpAny_Continue ?_)
    exact ⟨n',Nat.lt_succ_self _,.inl ⟨tok',r,_,lt1,by exact Nat.lt_of_add_lt_add_right h1,h2,by exact Nat.le_of_lt h3,by show ln + eI (c::r)=_;lia,S3.cover ⟨rfl,rfl,rfl,trivial⟩⟩⟩
   ·rw [if_neg (by rw [hw];decide)] at h2
    refine ax ?_
    refine ik S3 (qB c) (aZ S3.cx (aa (.str (tx [c])) S3.cx rfl) aX gX) (fun hq s₄ S4=>?_) (fun hq s₄ S4=>?_)
    ·rw [if_pos hq] at h2
     refine g6 (stop:=qB) (te:=.Compare (.Name "ch" ⟨63,23,63,25⟩) [.Eq] [.Constant (.str "\"") 0 ⟨63,29,63,32⟩] ⟨63,23,63,32⟩) fe ao ok ci (fun c tok st' s' S=>aZ S.cx (aa (.str (tx [c])) S.cx rfl) aX gX) rfl (r.length + 1) tok' r (Nat.lt_succ_self _) (by exact Nat.le_trans (Nat.le_of_lt h3) (by decide)) (S4.cover ⟨rfl,rfl,rfl,trivial⟩) rfl (fun tok2 r₂ s₅ v ln2 ltB e1 e2 S5 hv=>?_) (fun tok2 s₅ ln2 ltB e1 e2 S5=>?_)
     ·have e3:=scanned h2 _ _ _ e1
      refine hret s₅ v ln2 ltB false ?_ (by rw [e3];exact S5) (by rw [e3];exact hv)
      rw [e3,e2];show ln + eI (c::r) + _=st.line + (nls l - nls r₂);lia
     ·have e3:=scanned h2 _ _ _ e1
      refine ax (ax (prog:=prog) (w:=w) (A:=A) (env:=env) ?_)
      exact ⟨n',Nat.lt_succ_self _,.inr ⟨tok2,ln2,ltB,e3,by rw [e2];show ln + eI (c::r) + _=_;lia,S5⟩⟩
    ·rw [if_neg (by rw [hq];decide)] at h2
     have tail:∀ x l₂ s₅ ln2 ltB,(b4 jy (r.length + 1) (tok'++x) l₂).2=outer (l.length + 1) [] l→l₂.length < r.length + 1→(tok'++x).length + l₂.length≤900→ln2=st.line + (nls l - nls l₂)→∀ Q',Sx prog w s₀ env M X (("ch",.d (.str (tx x)))::k5 L I tok') (aD L ⟨ln2,ltB,st.q,tx l₂⟩++bO L I m t false) s₅ →
       (∀ v s',Q (.ret v) s'→Q' (.ret v) s')→(∀ s',(∃ tok' ln lt',outer (l.length + 1) [] l=(tok',[])∧ln=st.line + nls l∧Sx prog w s₀ env M X (k5 L I tok') (aD L ⟨ln,lt',st.q,tx []⟩++bO L I m t true) s')→Q' .next s') →
       WP prog w A (execs [.AugAssign (.Name "token" ⟨71,16,71,21⟩) .Add (.Name "ch" ⟨71,25,71,27⟩) ⟨71,16,71,27⟩,.For (.Name "ch" ⟨72,20,72,22⟩) (.Name "fiter" ⟨72,26,72,31⟩) [.If (.Compare (.Name "ch" ⟨73,23,73,25⟩) [.In] [.Attribute (.Name "self" ⟨73,29,73,33⟩) "whitespace" ⟨73,29,73,44⟩] ⟨73,23,73,44⟩) [.Return (some (.Name "token" ⟨74,31,74,36⟩)) ⟨74,24,74,36⟩] [.If (.Compare (.Name "ch" ⟨75,25,75,27⟩) [.Eq] [.Constant (.str "\\") 0 ⟨75,31,75,35⟩] ⟨75,25,75,35⟩) [.Assign [.Name "ch" ⟨76,24,76,26⟩] (.Call (.Attribute (.Name "self" ⟨76,29,76,33⟩) "_read_char" ⟨76,29,76,44⟩) [] [] ⟨76,29,76,46⟩) ⟨76,24,76,46⟩] [] ⟨75,20,76,46⟩] ⟨73,20,76,46⟩,.AugAssign (.Name "token" ⟨77,20,77,25⟩) .Add (.Name "ch" ⟨77,29,77,31⟩) ⟨77,20,77,31⟩] [] ⟨72,16,77,31⟩] env) Q' s₅:=fun x l₂ s₅ ln2 ltB e1 e2 e3 e4 Q' S5 hr hn=>by
      have hlx:(tok'++x).length=tok'.length + x.length:=List.length_append
      refine jB S5 (a:=.str (tx tok')) (b:=.str (tx x)) (d:=.str (tx (tok'++x))) (fe.own rfl) rfl (aa (.str (tx x)) S5.cx rfl) (by rw [← b7];exact kZ (by rw [aP,aP];lia)) fun s₆ S6=>?_
      refine g6 (stop:=jy) fe ao ok ci (fun c tok st' s' S=>uG S) rfl (r.length + 1) (tok'++x) l₂ e2 (by exact Nat.le_add_left_of_le e3) (S6.cover ⟨rfl,rfl,rfl,trivial⟩) rfl (fun tok2 r₂ s₇ v ln3 lt3 f1 f2 S7 hv=>hr _ _ ?_) (fun tok2 s₇ ln3 lt3 f1 f2 S7=>ax (hn _ ?_))
      ·have f3:=scanned e1 _ _ _ f1
       refine hret s₇ v ln3 lt3 false ?_ (by rw [f3];exact S7) (by rw [f3];exact hv)
       rw [f3,f2];show ln2 + _=st.line + (nls l - nls r₂);lia
      ·exact ⟨tok2,ln3,lt3,scanned e1 _ _ _ f1,by rw [f2];show ln2 + _=_;lia,S7⟩
     refine ik S4 (bB c) (aZ S4.cx (aa (.str (tx [c])) S4.cx rfl) aX gX) (fun hb s₅ S5=>?_) (fun hb s₅ S5=>?_)
     ·rw [if_pos hb] at h2
      have c₅:=S5.cx
      refine aK (wpAny_Assign_Name (eH (x:=L.lx) (dx:=L.dx) (f:=63) (i:=101) c₅ (az (.ref L.lx) c₅ rfl) (mL (.head _)) (mL (.tail _ (.head _))) (by decide) rfl rfl al fun vs s₆ k₆ h₆=>?_) rfl)
      cases h₆
      have S6:=S5.keep k₆
      refine wpAny_mono (nJ (k:=k + 1) ao S6.cx.gd ok S6.lexAt rfl (by lia)) (fun u s₇ z=>?_) fun Z Z z=>z
      refine br z fun z1 Z1 z3=>?_;clear z;refine ex11 Z1 fun lt7 z2=>?_;clear Z1
      have S7:=S6.lexTurn z1 z2 (eJ ci false)
      refine S7.store (fe.own rfl) (b:=.d (.str (tx (r.take 1)))) z3 fun s₈ Z S8=>?_
      have hd:=je r
      refine ax (tail (r.take 1) (r.drop 1) s₈ _ lt7 h2 (by rw [List.length_drop];lia) ?_ ?_ _ (S8.cover ⟨rfl,rfl,rfl,rfl,trivial⟩) (fun v s' h=>h) fun s' h=>ax (prog:=prog) (w:=w) (A:=A) (env:=env) ⟨n',Nat.lt_succ_self _,.inr h⟩)
      ·have:=List.length_take_le 1 r
       rw [List.length_append,List.length_drop,List.length_take];lia
      ·show ln + eI (c::r) + eI r=_
       lia
     ·rw [if_neg (by rw [hb];decide)] at h2
      refine ax (tail [c] r s₅ _ _ h2 (by exact Nat.lt_succ_self _) (by rw [List.length_append];simp;lia) ?_ _ (S5.cover ⟨rfl,rfl,rfl,rfl,trivial⟩) (fun v s' h=>h) fun s' h=>ax (prog:=prog) (w:=w) (A:=A) (env:=env) ⟨n',Nat.lt_succ_self _,.inr h⟩)
      show ln + eI (c::r)=_
      lia
 ·have hI:s'.heap.get? I=some fX:=(S'.cx.own (I,.raw fX) (by simp [bO])).1
  exact nK ao.h hI fun h' hk=>fin tok' ln lt' true _ h1 h2 (S'.keep (Keep.ext (tk:=s'.toks) hk))
end
noncomputable def lexT (l:List Nat):List Nat×List Nat:=outer (l.length + 1) [] l
section
variable {L:LA} {st:LS} {I:Addr} {m:Addr} {t:Tok}
theorem iI {k:Nat} {l:List Nat} (ao:Ao (k + 4) A) (g:Gd X s) (ok:LaOk L) (hl:LexAt prog w s.heap X L st) (hq:st.q=[]) (hx:st.txt=tx l) (hlen:l.length≤900) :
  WP prog w A (call (.ref 70) [.ref L.lx] []) (fun v s'=>Keep (lexA L) s s'∧(∃ lt',LexAt prog w s'.heap X L ⟨st.line + (nls l - nls (lexT l).2),lt',[],tx (lexT l).2⟩)∧Rd prog w s'.heap X (.str (tx (lexT l).1)) v) s:=by
 revert ao g ok hl hq hx hlen
 revert prog w A X s L st k l;refine @(dr9 ?_);exists w9 _ _,prog,w,A,X,s,L,st,k,l
 intro ao g ok hl hq hx hlen
 refine dY (bs:=[.v (.ref L.lx)]) (names:=["self"]) (g.top.fm (70,102) (by decide)) g ao.lim (.cons rfl .nil) (fun env M s₁ hsc hnew hcl hcl' S Z=>?_) (fun Z Z Z=>rfl) (by rfl) (by decide) (by decide +kernel) (by decide +kernel) (by decide +kernel) (by decide +kernel)
 have fe:Fe env 102:=⟨hsc,hcl,hcl'⟩
 have hce:env.cells=[]:=cq fun x=>by rw [hcl'];rfl
 have S1:=S.lexOpen hnew hl hce
 have eq:EvV prog w (A.deeper env) env s₁ (.Attribute (.Name "self" ⟨54,11,54,15⟩) "pushback" ⟨54,11,54,24⟩) (.ref L.pl) :=
  gZ (x:=L.lx) (dx:=L.dx) (ps:=cD L st) S1.cx (az (.ref L.lx) S1.cx rfl) (qF rW) (qF rX) (by decide) rfl rfl
 have hqm:(L.pl,OD.lst ([]:List D))∈aD L st++[]:=by rw [← hq];exact qF tr
 refine ik S1 false ((qC S1.cx eq hqm (by decide)).to rfl) (fun h=>by exact nB h) (fun Z s₂ S2=>ax ?_)
 refine dT S2 (.d (.str (tx []))) (fe.own rfl) ((aX (X:=M++X)).to (congrArg D.str (show Str.ofString ""=tx [] by decide))) fun s₃ S3=>?_
 refine aK (wpAny_Assign_Name (wpAny_Call_NameR ((aY (.builtin "iter") S3.cx (fe.gl rfl) rfl).go fun v s₄ k₄ h₄=>?_)))
 subst h₄
 have S4:=S3.keep k₄
 refine callWith_of (P:=Kp prog w (.builtin "iter")) rfl (fun h x=>x) ?_
 refine Calls.evalArgs_plain (Calls.spliced_cons (Attribute_any_ ((az (.ref L.lx) S4.cx rfl).go fun v s₅ k₅ h₅=>?_)))
 subst h₅
 have S5:=S4.keep k₅
 refine ru (f:=63) (i:=101) S5.cx.top S5.lexAt.inst (by decide) rfl rfl (by decide) ?_
 have S6:=S5.own (a:=s₅.heap.objs.size) (.raw (methodObj (.ref 63) (.ref L.lx))) (af _) (Keep.push (o:=methodObj (.ref 63) (.ref L.lx)) (tk:=s₅.toks + 1)) (Heap.get?_push_size _ rfl) S5.hi_size
 refine Calls.spliced_cons ((aX (X:=M++X) (x:=Str.ofString "") (k:=0) (p:=⟨57,38,57,40⟩)).go fun u s₇ k₇ h₇=>?_)
 refine h₇.strE fun t Z1=>?_;subst Z1
 have S7:=S6.keep k₇
 refine Calls.spliced_nil ⟨aJ,?_⟩
 have hm7:s₇.heap.get? s₅.heap.objs.size=some (methodObj (.ref 63) (.ref L.lx)):=(S7.cx.own _ (.head _)).1
 refine sH (m:=s₅.heap.objs.size) (t:=t) hm7 ?_
 have S8:=S7.own (a:=s₇.heap.objs.size) (.raw (mG s₅.heap.objs.size t)) (af _) (Keep.push (o:=mG s₅.heap.objs.size t) (tk:=s₇.toks)) (Heap.get?_push_size _ rfl) S7.hi_size
 refine S8.store (fe.own rfl) (b:=.v (.ref s₇.heap.objs.size)) rfl fun s₉ Z S9=>?_
 have fresh5:s.heap.get? s₅.heap.objs.size=none:=S5.base.none_back (af _)
 have fresh7:s.heap.get? s₇.heap.objs.size=none:=S7.base.none_back (af _)
 have hlive:∀ a,s.heap.get? a=none→a∉lexA L:=fun a ha hm=>by
  rw [← aR L st] at hm
  refine mM hm fun p hp Z1=>?_;subst Z1
  have:=(hl p hp).1.live
  rw [ha] at this;exact nB this
 have ci:CiOk L s₇.heap.objs.size s₅.heap.objs.size:=⟨hlive _ fresh7,hlive _ fresh5,fun e=>by rw [← e,af] at hm7;exact nO hm7⟩
 have S10:Sx prog w s env (s₇.heap.objs.size::s₅.heap.objs.size::(lexA L++M)) (s₇.heap.objs.size::s₅.heap.objs.size::(M++X)) (k5 L s₇.heap.objs.size []) (aD L st++bO L s₇.heap.objs.size s₅.heap.objs.size t false) s₉ :=
  (S9.owns (fun p hp=>by
   simp only [List.mem_append,List.mem_cons,bO,List.not_mem_nil,or_false] at hp ⊢
   refine ly hp (fun h=>?_) (fun h=>?_) fun h=>?_
   ·exact .inr (.inr h)
   ·exact .inl h
   ·exact .inr (.inl h))).cover ⟨rfl,rfl,rfl,trivial⟩
 refine pJ fe (k:=k) ao.deeper ok ci l hlen S10 hx fun s' v ln lt' en hln Se hv=>?_
 refine ⟨Se.base.dropTo fun b hb=>?_,⟨lt',fun p hp=>?_⟩,hv.less fun b hb=>.tail _ (.tail _ (mR hb))⟩
 ·refine mC hb (fun Z1=>?_) fun hb=>?_;subst Z1
  ·exact .inr fresh7
  ·refine mC hb (fun Z1=>?_) fun hb=>?_;subst Z1
   ·exact .inr fresh5
   ·refine mA hb (fun hb=>?_) fun hb=>?_
    ·exact .inl hb
    ·exact .inr (hnew b hb)
 ·have hp':p∈aD L ⟨ln,lt',st.q,tx (lexT l).2⟩:=by rw [hln,hq];exact hp
  refine ⟨(Se.cx.own p (mL hp')).1.less fun b hb=>.tail _ (.tail _ (mR hb)),hl.inX _ (by rw [← aR L ⟨ln,lt',st.q,tx (lexT l).2⟩];exact List.mem_map_of_mem hp')⟩
end
theorem Sx.setAttr (S:Sx prog w s₀ env M X τ ω s) {x dx:Addr} {ps:List (Str×Value)} {name:Str} {v:Value} {ω1 ω2:List (Addr×OD)} {Q:Unit→Shared→Prop} (h1:(x,OD.raw (instObj CL dx))∈ω) (hω:ω=ω1++(dx,.att ps)::ω2) (hne:∀ p∈ω1++ω2,p.1≠dx)
  (hn:name∈attNames) (hl:ps.length≤100) (h:∀ s',Sx prog w s₀ env M X τ (ω1++(dx,.att (jd ps name v))::ω2) s'→Q () s'):WP prog w A (setAttr (.ref x) name v) Q s:=by
 have hd:=S.cx.own (dx,.att ps) (by rw [hω];simp)
 refine sC S.cx.top ⟨(S.cx.own _ h1).1,hd.1⟩ hn hl fun h' tk hs hg=>h _ (S.put (tk:=tk) hω hne hs hg)
theorem el (S:Sx prog w s₀ env M X τ ω s) {o e:Expr} {x dx:Addr} {ps:List (Str×Value)} {name:Str} {ω1 ω2:List (Addr×OD)} {ap p:Pos} {rest:List Stmt} {Q:Flow→Shared→Prop} {P:Shared→Value→Prop} (ho:EvV prog w A env s o (.ref x)) (h1:(x,OD.raw (instObj CL dx))∈ω) (hω:ω=ω1++(dx,.att ps)::ω2) (hne:∀ p∈ω1++ω2,p.1≠dx)
  (hn:name∈attNames) (hl:ps.length≤100) (he:Ev prog w A env e s P) (h:∀ v s₁ s',P s₁ v→Sx prog w s₀ env M X τ (ω1++(dx,.att (jd ps name v))::ω2) s'→WP prog w A (execs rest env) Q s')
  (hs:autoParam (swapsWith e (some (.Attribute o name ap)) p.line env=pure false) cT._auto_1):WP prog w A (execs (.Assign [.Attribute o name ap] e p::rest) env) Q s:=by
 refine aK (plainObj_wpAny_Assign_Attribute (he.go fun v s₁ k₁ h₁=>(ho.keep k₁).go fun u s₂ k₂ h₂=>?_) hs)
 subst h₂
 exact (S.keep (k₁.trans k₂)).setAttr h1 hω hne hn hl fun s' S'=>h v s₁ s' h₁ S'
theorem pK {k:Nat} {x dx:Addr} {fpv:Value} (ao:Ao (k + 1) A) (g:Gd X s) (ho:∀ p∈[(x,OD.raw (instObj CL dx)),(dx,.att [])],OwnAt prog w s.heap X p.1 p.2∧p.1∈X) (hne:x≠dx) :
  codeAny (model prog w) A (.call (.ref 56) ⟨[.ref x,fpv],[]⟩) (fun r s'=>match r with | .ok (.ret v)=>(v=.none∧Keep [x,dx] s s'∧∃ t1 t2 pl n,s.heap.get? pl=none∧178≤pl∧s'.heap.get? x=some (instObj CL dx) ∧
   OwnAt prog w s'.heap X dx (.att [("lineno",.int 1 t1),("instream",fpv),("whitespace",.str qD t2),("pushback",.ref pl)])∧s'.heap.get? pl=some (bo [] n)) | .ok _=>False | .error _=>False) s:=by
 revert ao g ho hne
 revert prog w A X s k x dx fpv;refine @(dr9 ?_);exists w9 _ _,prog,w,A,X,s,k,x,dx,fpv
 intro ao g ho hne
 refine fA (bs:=[.v (.ref x),.v fpv]) (names:=["self", "fp"]) (g.top.fm (56,100) (by decide)) g ao.lim (.cons rfl (.cons rfl .nil)) (fun env M s₁ hsc hnew hcl hcl' S Z=>?_) (fun Z Z Z=>rfl) (by rfl) (by decide) (by decide +kernel) (by decide +kernel) (by decide +kernel) (by decide +kernel)
 have fe:Fe env 100:=⟨hsc,hcl,hcl'⟩
 have hce:env.cells=[]:=cq fun x=>by rw [hcl'];rfl
 have S1:=Sx.adopt (ωa:=[(x,.raw (instObj CL dx)),(dx,.att [])]) S hnew ho (by rw [hce];intro c hc;exact nM hc)
 have hn:∀ p∈[(x,OD.raw (instObj CL dx))]++[],p.1≠dx:=fun p hp=>by rw [List.append_nil] at hp;rw [mS hp];exact hne
 refine el (x:=x) (dx:=dx) (ω1:=[(x,.raw (instObj CL dx))]) (ω2:=[]) S1 (az (.ref x) S1.cx rfl) (.head _) rfl hn (by decide) (by decide) (ag (X:=M++X) (i:=1)) fun v s₂ s₃ hv S3=>?_
 refine hv.intE fun t1 Z1=>?_;subst Z1
 refine el (x:=x) (dx:=dx) (ω1:=[(x,.raw (instObj CL dx))]) (ω2:=[]) S3 (az (.ref x) S3.cx rfl) (.head _) rfl hn (by decide) (Nat.le_trans (by decide:1≤100) (Nat.le_refl _)) (az fpv S3.cx rfl) fun v s₄ s₅ hv S5=>?_
 subst hv
 refine el (x:=x) (dx:=dx) (ω1:=[(x,.raw (instObj CL dx))]) (ω2:=[]) S5 (az (.ref x) S5.cx rfl) (.head _) rfl hn (by decide) (Nat.le_trans (by decide:2≤100) (Nat.le_refl _)) (aX (X:=M++X) (x:=qD)) fun v s₆ s₇ hv S7=>?_
 refine hv.strE fun t2 Z1=>?_;subst Z1
 refine aK (plainObj_wpAny_Assign_Attribute (PyProof.Rows.List_ ((al (X:=M++X)).go _ fun vs s₈ k₈ h₈=>wpAny_newList ?_ (by rw [(bW (ds:=[]) h₈).length,aM];decide))) rfl)
 cases h₈
 have S8:=S7.keep k₈
 have S9:=S8.own (a:=s₈.heap.objs.size) (.lst []) (af _) (Keep.push (o:=bo [] 0) (tk:=s₈.toks)) ⟨[],0,Heap.get?_push_size _ rfl,RdL.nil⟩ S8.hi_size
 have hx8:s₈.heap.objs.size≠dx:=fun e=>by
  have:=(S8.cx.own (dx,_) (.tail _ (.head _))).1.live
  rw [← e,af] at this;exact nB this
 refine (az (.ref x) S9.cx rfl).go fun u s10 k10 hAO=>?_
 subst hAO
 refine (S9.keep k10).setAttr (x:=x) (dx:=dx) (ω1:=[(s₈.heap.objs.size,.lst []),(x,.raw (instObj CL dx))]) (ω2:=[]) (.tail _ (.head _)) rfl (fun p hp=>by
  rw [List.append_nil] at hp
  refine mC hp (fun Z1=>?_) fun hp=>?_;subst Z1
  ·exact hx8
  ·rw [mS hp];exact hne) (by decide) (Nat.le_trans (by decide:3≤100) (Nat.le_refl _)) fun s11 S11=>ax ?_
 have hpl:s.heap.get? s₈.heap.objs.size=none:=S8.base.none_back (af _)
 refine ai (S11.cx.own (s₈.heap.objs.size,.lst []) (.head _)) fun Z1 Z=>?_;refine ex22 Z1 fun vs n hg hr=>?_;clear Z1
 unfold RdL at hr
 subst hr
 refine ⟨rfl,S11.base.dropTo fun b hb=>?_,t1,t2,s₈.heap.objs.size,n,hpl,S8.hi_size,(S11.cx.own (x,.raw (instObj CL dx)) (.tail _ (.head _))).1,?_,hg⟩
 ·refine mC hb (fun Z1=>?_) fun hb=>?_;subst Z1
  ·exact .inr hpl
  ·refine mA hb (fun hb=>?_) fun hb=>?_
   ·exact .inl hb
   ·exact .inr (hnew b hb)
 ·exact (S11.cx.own (dx,_) (.tail _ (.tail _ (.head _)))).1
theorem Ao.create {k:Nat} (ao:Ao (k + 1) A) {l:List Value}:Ao k (A.under (.builtin "type.__call__" ⟨.ref CL::l,[]⟩)):=by
 refine ⟨ao.h,?_,?_⟩
 ·show A.depth + Code.weight (.builtin "type.__call__" ⟨.ref CL::l,[]⟩) + k≤900
  have:Code.weight (.builtin "type.__call__" ⟨.ref CL::l,[]⟩)=1:=by rfl
  have:=ao.d;lia
 ·show A.units + Code.cUnits (.builtin "type.__call__" ⟨.ref CL::l,[]⟩) + 10 * k≤9000
  have h2:Code.cUnits (.builtin "type.__call__" ⟨.ref CL::l,[]⟩)≤10:=by
   have:Code.cUnits (.builtin "type.__call__" ⟨.ref CL::l,[]⟩)=Code.cUnits (.builtin "type.__call__" ⟨.ref CL::[],[]⟩):=by rfl
   rw [this];decide
  have:=ao.u;lia
theorem nR (t:TopOk s.heap):Kp prog w (.ref CL) s.heap:=by
 refine ex12 t.frag fun K hK F=>?_
 have Y:=makes_of (M:=model prog w) hK F.makes
 refine ex42 Y.obj fun oc od cd sl ho Z=>?_
 exact ⟨.machine,.inr (.inl rfl),(Looks.ld (part:=none) ho).andThen (Y.call.andThen .now)⟩
theorem nS {k:Nat} {fpv:Value} {Q:Value→Shared→Prop} (ao:Ao (k + 2) A) (g:Gd X s)
  (h:∀ s' x dx pl t1 t2 n,Keep [] s s'→s.heap.get? x=none→s.heap.get? dx=none→s.heap.get? pl=none→178≤x→178≤dx→178≤pl→x≠dx→x≠pl→dx≠pl→s'.heap.get? x=some (instObj CL dx) →
   (∀ X',OwnAt prog w s'.heap X' dx (.att [("lineno",.int 1 t1),("instream",fpv),("whitespace",.str qD t2),("pushback",.ref pl)]))→s'.heap.get? pl=some (bo [] n)→Q (.ref x) s') :
  WP prog w A (call (.ref CL) [fpv] []) Q s:=by
 revert ao g h
 revert prog w A X s k fpv Q;refine @(dr8 ?_);exists w8 _ _,prog,w,A,X,s,k,fpv,Q
 intro ao g h
 refine ex12 g.top.frag fun K hK F=>?_
 refine ai (F.meth (56,100) (by decide)) fun m1 m2=>?_
 obtain ⟨hh,gg,dd,tt,os⟩:=s
 have Y:=makes_of (M:=model prog w) hK F.makes
 refine wpAny_call (make_core Y (looks_findIn hK m1) (fun self=>bind_fn hK self m2) (.inl rfl) ?_)
 have hz1:(hh.push emptyDict).objs.size=hh.objs.size + 1:=Heap.size_push ..
 have kk:Keep [] (⟨hh,gg,dd,tt,os⟩:Shared) ⟨(hh.push emptyDict).push (instObj CL hh.objs.size),gg,dd,tt,os⟩:=Keep.ext (tk:=tt) fun b o e=>Heap.get?_push_of_some _ (Heap.get?_push_of_some _ e)
 have ex:((hh.push emptyDict).push (instObj CL hh.objs.size)).get? (hh.objs.size + 1)=some (instObj CL hh.objs.size):=by
  have:=Heap.get?_push_size (hh.push emptyDict) (o:=instObj CL hh.objs.size) rfl
  rw [hz1] at this;exact this
 have ed:((hh.push emptyDict).push (instObj CL hh.objs.size)).get? hh.objs.size=some emptyDict:=Heap.get?_push_of_some _ (Heap.get?_push_size _ rfl)
 have fx:hh.get? (hh.objs.size + 1)=none:=aU (Nat.le_succ _)
 have fd:hh.get? hh.objs.size=none:=af _
 have hlo:178≤hh.objs.size:=g.top.size
 have g':Gd ((hh.objs.size + 1)::hh.objs.size::X) (⟨(hh.push emptyDict).push (instObj CL hh.objs.size),gg,dd,tt,os⟩:Shared):=by
  have g0:=g.keep kk
  refine ⟨g0.top,fun a ha=>?_,fun a ha=>?_⟩
  ·refine mC ha (fun Z1=>?_) fun ha=>?_;subst Z1
   ·rw [ex];rfl
   ·refine mC ha (fun Z1=>?_) fun ha=>?_;subst Z1
    ·rw [ed];rfl
    ·exact g0.liv a ha
  ·refine mC ha (fun Z1=>?_) fun ha=>?_;subst Z1
   ·exact Nat.le_succ_of_le hlo
   ·refine mC ha (fun Z1=>?_) fun ha=>?_;subst Z1
    ·exact hlo
    ·exact g.hi a ha
 refine codeAny_mono (pK (k:=k) (x:=hh.objs.size + 1) (dx:=hh.objs.size) (fpv:=fpv) ao.create g' (fun p hp=>?_) (Nat.succ_ne_self _)) fun r s' z=>?_
 ·refine mC hp (fun Z1=>?_) fun hp=>?_;subst Z1
  ·exact ⟨ex,.head _⟩
  ·rw [mS hp];exact ⟨⟨[],0,ed,trivial⟩,.tail _ (.head _)⟩
 ·rcases r with e | (_ | _ | _ | v) <;> first | exact z.elim | skip
  refine br z fun z1 z2 Z1=>?_;clear z;refine ex45 Z1 fun t1 t2 pl n z3 z4 z5 z6 z7=>?_;clear Z1
  refine ⟨z1,h s' (hh.objs.size + 1) hh.objs.size pl t1 t2 n ?_ fx fd (kk.none_back z3) (Nat.le_succ_of_le hlo) hlo z4 (Nat.succ_ne_self _) (fun e=>?_) (fun e=>?_) z5 (fun X'=>z6) z7⟩
  ·exact (kk.any.trans z2).drop fun a ha=>by
    refine mC ha (fun Z1=>?_) fun ha=>?_;subst Z1
    ·exact fx
    ·rw [ay ha];exact fd
  ·rw [← e,ex] at z3;exact nO z3.symm
  ·rw [← e,ed] at z3;exact nO z3.symm
section tq
variable {h:Heap} {h':Heap} {ps:Array Value}
variable (hT:h.get? TQ=some (tabObj ps)) (hk:∀ a o,a≠TQ→h.get? a=some o→h'.get? a=some o)
include hT
theorem jf {a:Addr} {o:Obj} (e:h.get? a=some o) (hc:o.cls≠.none):a≠TQ:=fun q=>by
 rw [q,hT] at e;refine sE e fun e=>?_;subst e;exact hc rfl
include hk
mutual
theorem Rd.tq:∀ (d:D) (v:Value),Rd prog w h X d v→Rd prog w h' X d v
 | .none,_,x=>x
 | .bool _,_,x=>x
 | .int _,_,x=>x
 | .str _,_,x=>x
 | .byt _,_,x=>x
 | .val _,_,x=>x
 | .rng n,_,x=>by
  unfold Rd at x ⊢
  refine ex43 x fun a t u t' e hx hg=>?_;clear x
  refine ⟨a,t,u,t',e,hx,hk _ _ (jf hT hg (by intro q;cases q)) hg⟩
 | .tup ds,_,x=>by
  unfold Rd at x ⊢
  refine ex34 x fun a vs n e hx hg r=>?_;clear x
  exact ⟨a,vs,n,e,hx,hk _ _ (jf hT hg (by intro q;cases q)) hg,RdL.tq ds vs r⟩
 | .lst ds,_,x=>by
  unfold Rd at x ⊢
  refine ex34 x fun a vs n e hx hg r=>?_;clear x
  exact ⟨a,vs,n,e,hx,hk _ _ (jf hT hg (by intro q;cases q)) hg,RdL.tq ds vs r⟩
 | .dci ds,_,x=>by
  unfold Rd at x ⊢
  refine ex24 x fun a ps e hx Z1 r=>?_;clear x;refine ai Z1 fun hg hy=>?_;clear Z1
  refine ⟨a,ps,e,hx,⟨?_,hy⟩,RdI.tq ds ps r⟩
  refine ex33 hg fun o es ep ho hex rest=>?_;clear hg
  exact ⟨o,es,ep,hk _ _ (jf hT ho (by rw [hex.1];intro q;cases q)) ho,hex,rest⟩
 | .dcs ds,_,x=>by
  unfold Rd at x ⊢
  refine ex24 x fun a ps e hx Z1 r=>?_;clear x;refine ai Z1 fun hg hy=>?_;clear Z1
  refine ⟨a,ps,e,hx,⟨?_,hy⟩,RdS.tq ds ps r⟩
  refine ex33 hg fun o es ep ho hex rest=>?_;clear hg
  exact ⟨o,es,ep,hk _ _ (jf hT ho (by rw [hex.1];intro q;cases q)) ho,hex,rest⟩
theorem RdL.tq:∀ (ds:List D) (vs:List Value),RdL prog w h X ds vs→RdL prog w h' X ds vs
 | [],_,x=>x
 | d::ds,_,x=>by
  unfold RdL at x ⊢
  refine ex23 x fun v r e y z=>?_;clear x
  exact ⟨v,r,e,Rd.tq d v y,RdL.tq ds r z⟩
theorem RdI.tq:∀ (ds:List (Int×D)) (vs:List (Int×Value)),RdI prog w h X ds vs→RdI prog w h' X ds vs
 | [],_,x=>x
 | (k,d)::ds,_,x=>by
  unfold RdI at x ⊢
  refine ex23 x fun v r e y z=>?_;clear x
  exact ⟨v,r,e,Rd.tq d v y,RdI.tq ds r z⟩
theorem RdS.tq:∀ (ds:List (Str×D)) (vs:List (Str×Value)),RdS prog w h X ds vs→RdS prog w h' X ds vs
 | [],_,x=>x
 | (k,d)::ds,_,x=>by
  unfold RdS at x ⊢
  refine ex23 x fun v r e y z=>?_;clear x
  exact ⟨v,r,e,Rd.tq d v y,RdS.tq ds r z⟩
end
theorem OwnAt.tq {a:Addr} (ha:a≠TQ):∀ {od:OD},OwnAt prog w h X a od→OwnAt prog w h' X a od
:=by
 intro od x
 cases od with
 | lst ds=>exact ex22 x fun vs n e r=>⟨vs,n,hk _ _ ha e,RdL.tq hT hk ds vs r⟩
 | dci kvs=>exact ex12 x fun ps e r=>⟨ps,bt e fun o=>hk _ o ha,RdI.tq hT hk kvs ps r⟩
 | dcs kvs=>exact ex12 x fun ps e r=>⟨ps,bt e fun o=>hk _ o ha,RdS.tq hT hk kvs ps r⟩
 | att ps=>exact ex22 x fun es n e r=>⟨es,n,hk _ _ ha e,r⟩
 | raw o=>exact hk _ _ ha x
 | sd o=>exact ex11 x fun sl e=>⟨sl,hk _ _ ha e⟩
end tq
section
variable {ps:Array Value}
theorem g7 {a:Addr} (h:178≤a):a≠TQ:=fun e=>by subst e;exact absurd h (by decide)
theorem Cx.tq (c:Cx prog w env X τ ω s) (hT:s.heap.get? TQ=some (tabObj ps)) (hk:∀ a o,a≠TQ→s.heap.get? a=some o→s'.heap.get? a=some o):Cx prog w env X τ ω s':=by
 obtain ⟨ok,⟨m,ns⟩,cells,vars,top,xlt,xhi,own⟩:=c
 have hX:∀ a∈X,a≠TQ:=fun a ha=>g7 (xhi a ha)
 have lv:∀ a,a≠TQ→(s.heap.get? a).isSome=true→(s'.heap.get? a).isSome=true:=fun a ha h=>by
  cases e:s.heap.get? a with
  | none=>rw [e] at h;exact nB h
  | some o=>rw [hk a o ha e];rfl
 refine ⟨ok,⟨m,aW ns fun o=>hk _ o (hX _ ok.loc)⟩,fun p hp=>?_,fun x b e=>?_,top.mv fun a o Z hn e=>hk a o hn e,fun a ha=>lv a (hX a ha) (xlt a ha),xhi,fun p hp=>⟨(own p hp).1.tq hT hk (hX _ (own p hp).2.1),(own p hp).2⟩⟩
 ·refine ex11 (cells p hp) fun v hv=>?_
  exact ⟨v,aA hv fun o=>hk _ o (hX _ (ok.cel p hp).1)⟩
 ·refine ex12 (vars x b e) fun v h1 h2=>?_
  refine ⟨v,?_,?_⟩
  ·rcases h1 with ⟨k1,m',h3,h4⟩ | ⟨k1,c,h3,h4⟩
   ·exact .inl ⟨k1,m',aW h3 fun o=>hk _ o (hX _ ok.loc),h4⟩
   ·exact .inr ⟨k1,c,h3,aA h4 fun o=>hk _ o (hX _ (ok.cel _ (ak h3)).1)⟩
  ·cases b with
   | d d=>exact Rd.tq hT hk d v h2
   | v u=>exact h2
theorem Sx.tq (S:Sx prog w s₀ env M X τ ω s) (hT:s.heap.get? TQ=some (tabObj ps)) (hk:∀ a o,a≠TQ→s.heap.get? a=some o→s'.heap.get? a=some o):Sx prog w s' env M X τ ω s' :=
 ⟨S.cx.tq hT hk,Keep.refl _ _,S.sub,S.mloc,S.mcel,S.mown⟩
theorem Sx.ownL (S:Sx prog w s₀ env M X τ ω s) (ωn:List (Addr×OD)) (hn:∀ p∈ωn,s.heap.get? p.1=none) (k:Keep [] s s') (ho:∀ p∈ωn,OwnAt prog w s'.heap (ωn.map (·.1)++X) p.1 p.2) (hi:∀ p∈ωn,178≤p.1) :
  Sx prog w s₀ env (ωn.map (·.1)++M) (ωn.map (·.1)++X) τ (ωn++ω) s':=by
 have hm:∀ a∈ωn.map (·.1),∃ p∈ωn,p.1=a:=fun a ha=>by
  refine mM ha fun p hp e=>?_
  exact ⟨p,hp,e⟩
 have S1:=S.avoid (Y:=ωn.map (·.1)) (fun a ha=>by (refine ex12 (hm a ha) fun p hp Z1=>?_;subst Z1);exact hn p hp) k (fun a ha=>by (refine ex12 (hm a ha) fun p hp Z1=>?_;subst Z1);exact (ho p hp).live) (fun a ha=>by (refine ex12 (hm a ha) fun p hp Z1=>?_;subst Z1);exact hi p hp)
 refine ex11 S.cx.ns fun m hns=>?_
 refine ⟨⟨S1.cx.ok,S1.cx.ns,S1.cx.cells,S1.cx.vars,S1.cx.top,S1.cx.xlt,S1.cx.xhi,fun p hp=>?_⟩,S1.base.more fun a ha=>mR ha,fun a ha=>?_,mR S1.mloc,fun p hp hlt=>mR (S1.mcel p hp hlt),fun p hp=>?_⟩
 ·refine mA hp (fun hp=>?_) fun hp=>?_
  ·refine ⟨ho p hp,mL (List.mem_map_of_mem hp),fun e=>?_,fun c hc e=>?_⟩
   ·have:=bV hns
    rw [← e,hn p hp] at this;exact nB this
   ·refine ex11 (S.cx.cells c hc) fun v hv=>?_
    have:=bI hv
    rw [e,hn p hp] at this;exact nB this
  ·exact S1.cx.own p hp
 ·refine mA ha (fun ha=>?_) fun ha=>?_
  ·exact mL ha
  ·exact mR (S.sub a ha)
 ·refine mA hp (fun hp=>?_) fun hp=>?_
  ·exact mL (List.mem_map_of_mem hp)
  ·exact mR (S1.mown p hp)
end
theorem pL {k:Nat} {l:List Nat} {v:Value} {Q:Value→Shared→Prop} (ao:Ao (k + 3) A) (g:Gd X s) (hT:s.heap.get? TQ=some (tabObj #[])) (hv:Rd prog w s.heap X (.str (tx l)) v)
  (h:∀ s' L lt tab,Keep [TQ] s s'→s'.heap.get? TQ=some (tabObj tab)→LaOk L→(∀ a∈lexA L,s.heap.get? a=none∧178≤a)→(∀ p∈aD L ⟨1,lt,[],tx l⟩,∀ X',OwnAt prog w s'.heap X' p.1 p.2)→Q (.ref L.lx) s') :
  WP prog w A (call (.ref 112) [v] []) Q s:=by
 revert ao g hT hv h
 revert prog w A X s k l v Q;refine @(dr9 ?_);exists w9 _ _,prog,w,A,X,s,k,l,v,Q
 intro ao g hT hv h
 obtain ⟨lo,⟨doc,pm,c,oc,vs,t,h1,h2,h3,h4,h5,h6⟩,ne⟩:=g.top.fn (112,14) (by decide)
 refine ex21 g.top.lx fun doc' pm' l1=>?_
 have hc:c=111:=by
  have e2:Value.ref c=Value.ref 111:=congrArg (fun o:Obj=>match o.data with | .func f=>f.code | _=>.none) (Option.some.inj (h1.symm.trans l1))
  cases e2;rfl
 subst hc
 refine wpAny_call (codeAny_call_function (fd:=fnOf (fnName 14) (fnName 14) (fnParams 14) (fnBody 14) (fnScope 14) .none .none doc pm none (.ref 111) .none) (body:=fnBody 14) ao.lim h1 rfl (show (fnScope 14).isCoroutine=false by decide +kernel) (show (fnScope 14).isGenerator=false by decide +kernel) rfl ⟨111,oc,vs,t,rfl,h4,h5,h6⟩ ?_)
 rw [show bindArgs (fnOf (fnName 14) (fnName 14) (fnParams 14) (fnBody 14) (fnScope 14) .none .none doc pm none (.ref 111) .none) ⟨[v],[]⟩=pure ((["text"]:List Str).zip [v]) from rfl]
 have hk1:((((["text"]:List Str).zip [v]).all fun y=>(fnScope 14).names.lookup y.1 == some .local || (fnScope 14).names.lookup y.1 == some .cell)=true):=by rfl
 refine wpAny_pure (wpAny_newFunctionEnv_cells (show (fnScope 14).kind=.function by decide +kernel) (kindsX hk1 _) fun env he s₁ hs=>?_)
 obtain ⟨hsc,hnew,hlo,hce,S,hg⟩:=dh (bs:=[.d (.str (tx l))]) g (.cons hv .nil) hk1 (by decide +kernel) (by decide +kernel) (by decide +kernel) he hs
 have fe:Fe env 14:=⟨hsc,hlo,hce⟩
 obtain ⟨M0,hM0⟩:∃ M0,M0=env.locals::env.cells.map (·.2):=⟨_,rfl⟩
 rw [← hM0] at S hnew
 obtain ⟨mc,cc1,cc2⟩:=S.cx.top.lim
 refine ⟨⟨mc,cc1,cc2⟩,codeAny_func (wpAny_mono (Q:=fun f s'=>Q (dU f) s') (E:=fun Z Z=>False) ?_ (fun f s' q=>by cases f <;> exact q) fun Z Z z=>z.elim)⟩
 have hcells:env.cells=[(("left":Str),s.heap.objs.size + 1)]:=by rw [he];rfl
 have hcode:env.code=.ref 111:=by rw [he];rfl
 refine cj (ds:=[.str (tx l)]) S (fe.ownC rfl (by decide +kernel)) (aH (aa (.str (tx l)) S.cx rfl) al) (Nat.le_trans (by decide:1≤1000) (Nat.le_refl _)) fun a s₂ ha S2=>?_
 have hTM:TQ∉a::M0:=fun hm=>g7 (S2.cx.xhi _ (S2.sub _ hm)) rfl
 have hP:s₂.heap.get? TQ=some (tabObj #[]):=S2.base.heap _ _ hTM hT
 obtain ⟨mg,m1,bm,ob,m2,m3,m4,m5,m6,m7,m8,m9,m10⟩:=S2.cx.top.bm
 have hclos:closureFor (fnScope 201) env=pure [(("left":Str),s.heap.objs.size + 1)]:=by
  rw [bC (fun p hp hq=>by
   rw [hcells]
   have:p.1="left":=by
    revert p;decide +kernel
   rw [this];rfl),hcells]
  rfl
 refine aK (nestDef_K rfl rfl rfl (makeFunction_K (P:=TQ) (ps:=#[]) (c:=111) hclos S2.cx.ok.glob m1 hcode S2.cx.top.ch hP trivial rfl (by decide) ⟨bm,ob,m2,m4,m5,m6,m7,m8,m9,m10⟩ fun c' ctv doc' h' tk hx hge hlt hrec hP'=>?_))
 have hqn:qualnameIn env "_law_read" "_law_read"=readQ:=by rw [he];kernel_rfl
 rw [hqn] at hrec ⊢
 refine ex44 hrec fun c2 occ cvs ct e2 hocc hcd hcv=>?_;clear hrec
 cases e2
 let tab:Array Value:=#[]++#[rawInt (⟨111,4,114,19⟩:Pos).line,rawInt (⟨111,4,114,19⟩:Pos).col,.ref c']
 have hPt:h'.get? TQ=some (tabObj tab):=hP'
 have hmid:=Heap.get?_update_self (fun Z=>tabObj tab) hP rfl
 obtain ⟨sm,hsm⟩:∃ sm:Shared,sm={ s₂ with heap:=s₂.heap.update TQ (fun Z=>tabObj tab) }:=⟨_,rfl⟩
 have hmm:sm.heap.get? TQ=some (tabObj tab):=by rw [hsm];exact hmid
 have S3:Sx prog w { s₂ with heap:=s₂.heap.update TQ (fun Z=>tabObj tab) } env _ _ _ _ { s₂ with heap:=s₂.heap.update TQ (fun Z=>tabObj tab) }:=S2.tq hP fun b o hb e=>(Heap.get?_update_ne _ _ _ _ hb).trans e
 rw [← hsm] at S3
 have km:Keep [] sm { s₂ with heap:=h',toks:=tk }:=by
  rw [hsm]
  exact Keep.ext (s:={ s₂ with heap:=s₂.heap.update TQ (fun Z=>tabObj tab) }) fun b o e=>by
   by_cases hb:b=TQ
   ·subst hb
    rw [show ({ s₂ with heap:=s₂.heap.update TQ (fun Z=>tabObj tab) }:Shared).heap.get? TQ=some (tabObj tab) from hmid] at e
    refine sE e fun e=>?_;subst e;exact hPt
   ·exact hx b o hb ((Heap.get?_update_ne _ _ _ _ hb).symm.trans e)
 have kmid:Keep [TQ] s₂ sm:=by rw [hsm];exact Keep.sameBut (tk:=s₂.toks) (Heap.SameBut.update ..) (.head _) (by rw [hmid];rfl)
 have hzm:∀ b,s₂.heap.objs.size≤b→sm.heap.get? b=none:=fun b hb=>by rw [hsm];exact aU (by rw [Heap.size_update];exact hb)
 clear hsm
 have h178:178≤s₂.heap.objs.size:=S2.hi_size
 have S4:=S3.own (a:=c') (.raw occ) (hzm c' hge) km hocc (Nat.le_trans h178 hge)
 have S5:=S4.own (a:=h'.objs.size) (.raw (fnMade (fnName 201) readQ (fnParams 201) (fnBody 201) (fnScope 201) [(("left":Str),s.heap.objs.size + 1)] doc' ((mg "__name__").getD .none) c' ctv)) (af _)
  (Keep.push (o:=fnMade (fnName 201) readQ (fnParams 201) (fnBody 201) (fnScope 201) [(("left":Str),s.heap.objs.size + 1)] doc' ((mg "__name__").getD .none) c' ctv) (tk:=tk)) (Heap.get?_push_size _ rfl) S4.hi_size
 refine S5.store (x:="_law_read") (fe.own rfl) (b:=.v (.ref h'.objs.size)) rfl fun s₆ Z S6=>?_
 obtain ⟨fo,hfo⟩:∃ fo,fo=fnMade (fnName 201) readQ (fnParams 201) (fnBody 201) (fnScope 201) [(("left":Str),s.heap.objs.size + 1)] doc' ((mg "__name__").getD .none) c' ctv:=⟨_,rfl⟩
 rw [← hfo] at S6
 have fr0:∀ b,s₂.heap.objs.size≤b→s.heap.get? b=none:=fun b hb=>S2.base.none_back (aU hb)
 have hf2:s₂.heap.objs.size≤h'.objs.size:=Nat.le_trans hge (Nat.le_of_lt hlt)
 have hfc:h'.objs.size≠c':=Nat.ne_of_gt hlt
 refine aK (wpAny_Assign_Name (wpAny_Call_NameR ((bj (.ref CL) S6.cx (fe.gl rfl) rfl).go fun u s₇ k₇ h₇=>?_)) rfl)
 subst h₇
 have S7:=S6.keep k₇
 refine cw (bs:=[.d .none]) (first:=[]) (aH (fu (X:=h'.objs.size::c'::a::(M0++X))) al) (fun s' k=>nR (S7.keep k).cx.top) fun vs s₈ k₈ h₈=>?_
 refine aO h₈ fun u Z1 hu=>?_;subst Z1
 have hu':=hu.none_inv
 subst hu'
 have S8:=S7.keep k₈
 refine nS (k:=k) ao.deeper S8.cx.gd fun s₉ x dx pl t1 t2 n k₉ fx fdx fpl ix idx ipl n1 n2 n3 ex ed epl=>?_
 have S9:=S8.ownL [(x,.raw (instObj CL dx)),(dx,.att [("lineno",.int 1 t1),("instream",.none),("whitespace",.str qD t2),("pushback",.ref pl)])] (fun p hp=>by
  refine mC hp (fun Z1=>?_) fun hp=>?_;subst Z1
  ·exact fx
  ·rw [mS hp];exact fdx) k₉ (fun p hp=>by
  refine mC hp (fun Z1=>?_) fun hp=>?_;subst Z1
  ·exact ex
  ·rw [mS hp];exact ed _) (fun p hp=>by
  refine mC hp (fun Z1=>?_) fun hp=>?_;subst Z1
  ·exact ix
  ·rw [mS hp];exact idx)
 refine S9.store (x:="feed") (fe.own rfl) (b:=.v (.ref x)) rfl fun s10 Z S10=>?_
 have live8:∀ p∈[(h'.objs.size,OD.raw fo),(c',.raw occ),(a,.lst [.str (tx l)])],p.1≠x∧p.1≠dx:=fun p hp=>by
  have:=(S8.cx.own p hp).1.live
  exact ⟨fun e=>by (rw [e,fx] at this;exact nB this),fun e=>by (rw [e,fdx] at this;exact nB this)⟩
 refine el (x:=x) (dx:=dx) (ω1:=[(x,.raw (instObj CL dx))]) S10 (az (.ref x) S10.cx rfl) (.head _) rfl (fun p hp=>by
  refine mC hp (fun Z1=>?_) fun hp=>?_;subst Z1
  ·exact n1
  ·exact (live8 p hp).2) (by decide) (Nat.le_trans (by decide:4≤100) (Nat.le_refl _)) (az (.ref h'.objs.size) S10.cx rfl) fun u s11 s12 hu S12=>?_
 subst hu
 refine aK (wpAny_Return_some (wpAny_Call_NameR ((bj (.ref CL) S12.cx (fe.gl rfl) rfl).go fun u s13 kAC hAC=>?_)))
 subst hAC
 have S13:=S12.keep kAC
 refine cw (X:=X) (bs:=[.v (.ref x)]) (first:=[]) (qt (az (.ref x) S13.cx rfl) al) (fun s' k=>nR (S13.keep k).cx.top) fun vs s14 kAD h14=>?_
 refine ex12 (dZ h14) fun u Z1 hu=>?_;subst Z1
 have hu':u=.ref x:=hu
 subst hu'
 have S14:=S13.keep kAD
 refine nS (k:=k) ao.deeper S14.cx.gd fun s15 x2 dx2 pl2 u1 u2 n' k15 gx gdx gpl jx jdx jpl q1 q2 q3 ex2 ed2 epl2=>?_
 have S15:=S14.keep k15
 refine ex12 (S15.cx.vars "left" (.v (.ref a)) rfl) fun vleft hvl hvb=>?_
 have hvb':vleft=.ref a:=hvb
 subst hvb'
 have hcell:∃ co,s15.heap.get? (s.heap.objs.size + 1)=some co∧co.data=.cell (some (.ref a)):=by
  rcases hvl with ⟨hk,_⟩ | ⟨_,cc,hcc,o,ho,hd⟩
  ·rw [fe.kind] at hk;cases hk
  ·rw [hcells,List.lookup_cons,beq_self_eq_true] at hcc
   refine sE hcc fun hcc=>?_;subst hcc;exact ⟨o,ho,hd⟩
 refine ex12 hcell fun co hco hcod=>?_;clear hcell
 have ne_of:∀ {hh:Heap} {p q:Addr},hh.get? p=none→(hh.get? q).isSome=true→p≠q:=fun e1 e2 e=>by (rw [← e,e1] at e2;exact nB e2)
 have clM:∀ {τ' ω' M' X' r r'},Sx prog w r env M' X' τ' ω' r'→(r'.heap.get? (s.heap.objs.size + 1)).isSome=true:=fun S'=>by
  refine ex11 (S'.cx.cells (("left":Str),s.heap.objs.size + 1) (by rw [hcells];exact .head _)) fun v hv=>?_
  exact bI hv
 have own15:=S15.cx.own
 have live14:∀ p∈[(x,OD.raw (instObj CL dx))]++(dx,OD.att _)::_,(s14.heap.get? p.1).isSome=true:=fun p hp=>(S14.cx.own p hp).1.live
 have live2:(s₂.heap.get? a).isSome=true:=(S2.cx.own _ (.head _)).1.live
 have lt2:∀ {q:Addr},(s₂.heap.get? q).isSome=true→q < s₂.heap.objs.size:=fun e=>by
  refine iS e fun o ho=>?_
  exact Heap.lt_size ho
 have la:=lt2 live2
 have lc:=lt2 (clM S2)
 have c14:=clM S14
 have c8:=clM S8
 have c0:=clM S
 have lx14:=live14 _ (.head _)
 have ld14:=live14 _ (.tail _ (.head _))
 have lf14:=live14 (h'.objs.size,_) (.tail _ (.tail _ (.head _)))
 have lc14:=live14 (c',_) (.tail _ (.tail _ (.tail _ (.head _))))
 have la14:=live14 (a,_) (.tail _ (.tail _ (.tail _ (.tail _ (.head _)))))
 have lv8f:=live8 (h'.objs.size,_) (.head _)
 have lv8c:=live8 (c',_) (.tail _ (.head _))
 have lv8a:=live8 (a,_) (.tail _ (.tail _ (.head _)))
 have hfx:s.heap.get? x=none:=S2.base.none_back (kmid.none_back (S8.base.none_back fx))
 have hfdx:s.heap.get? dx=none:=S2.base.none_back (kmid.none_back (S8.base.none_back fdx))
 have g14:∀ {q},s14.heap.get? q=none→s.heap.get? q=none:=fun e=>S2.base.none_back (kmid.none_back (S14.base.none_back e))
 have ha0:s.heap.get? a=none:=S.base.none_back ha
 have hcl0:s.heap.get? (s.heap.objs.size + 1)=none:=aU (Nat.le_succ _)
 refine h s15 ⟨x2,dx2,pl2,x,dx,h'.objs.size,s.heap.objs.size + 1,c',a,u2,[("lineno",.int 1 t1),("instream",.none),("whitespace",.str qD t2),("pushback",.ref pl),("read",.ref h'.objs.size)],fo,co,occ⟩ u1 tab ?_ ?_ ⟨?_,rfl,⟨doc',_,ctv,hfo⟩,hcod,⟨cvs,ct,hcd,hcv⟩⟩ ?_ ?_
 ·refine (((S2.base.more (Y:=TQ::x::dx::h'.objs.size::c'::a::M0) fun b hb=>?_).trans (kmid.more fun b hb=>?_)).trans (S15.base.more fun b hb=>?_)).dropTo fun b hb=>?_
  ·exact .tail _ (.tail _ (.tail _ (.tail _ (.tail _ hb))))
  ·rw [ay hb];exact .head _
  ·exact .tail _ hb
  ·simp only [List.mem_cons] at hb
   rcases hb with rfl | rfl | rfl | rfl | rfl | rfl | hb
   ·exact .inl (.head _)
   ·exact .inr hfx
   ·exact .inr hfdx
   ·exact .inr (fr0 _ hf2)
   ·exact .inr (fr0 _ hge)
   ·exact .inr ha0
   ·exact .inr (hnew b hb)
 ·exact S15.base.heap TQ _ (fun hm=>g7 (S15.cx.xhi _ (S15.sub _ hm)) rfl) hmm
 ·have e1:x≠s.heap.objs.size + 1:=ne_of fx c8
  have e2:dx≠s.heap.objs.size + 1:=ne_of fdx c8
  have e3:h'.objs.size≠s.heap.objs.size + 1:=Nat.ne_of_gt (Nat.lt_of_lt_of_le lc hf2)
  have e4:h'.objs.size≠a:=Nat.ne_of_gt (Nat.lt_of_lt_of_le la hf2)
  have e5:c'≠s.heap.objs.size + 1:=Nat.ne_of_gt (Nat.lt_of_lt_of_le lc hge)
  have e6:c'≠a:=Nat.ne_of_gt (Nat.lt_of_lt_of_le la hge)
  have e7:a≠s.heap.objs.size + 1:=ne_of ha c0
  have f1:=ne_of gx lx14;have f2:=ne_of gx ld14;have f3:=ne_of gx lf14;have f4:=ne_of gx lc14;have f5:=ne_of gx la14;have f6:=ne_of gx c14
  have f1':=ne_of gdx lx14;have f2':=ne_of gdx ld14;have f3':=ne_of gdx lf14;have f4':=ne_of gdx lc14;have f5':=ne_of gdx la14;have f6':=ne_of gdx c14
  have f1'':=ne_of gpl lx14;have f2'':=ne_of gpl ld14;have f3'':=ne_of gpl lf14;have f4'':=ne_of gpl lc14;have f5'':=ne_of gpl la14;have f6'':=ne_of gpl c14
  simp only [lexA,List.nodup_cons,List.mem_cons,List.not_mem_nil,or_false,not_or,List.nodup_nil,and_true,not_false_eq_true]
  exact ⟨⟨q1,q2,f1,f2,f3,f6,f4,f5⟩,⟨q3,f1',f2',f3',f6',f4',f5'⟩,⟨f1'',f2'',f3'',f6'',f4'',f5''⟩,⟨n1,lv8f.1.symm,e1,lv8c.1.symm,lv8a.1.symm⟩,⟨lv8f.2.symm,e2,lv8c.2.symm,lv8a.2.symm⟩,⟨e3,hfc,e4⟩,⟨e5.symm,e7.symm⟩,e6⟩
 ·intro b hb
  simp only [lexA,List.mem_cons,List.not_mem_nil,or_false] at hb
  rcases hb with rfl | rfl | rfl | rfl | rfl | rfl | rfl | rfl | rfl
  ·exact ⟨g14 gx,jx⟩
  ·exact ⟨g14 gdx,jdx⟩
  ·exact ⟨g14 gpl,jpl⟩
  ·exact ⟨hfx,ix⟩
  ·exact ⟨hfdx,idx⟩
  ·exact ⟨fr0 _ hf2,Nat.le_trans h178 hf2⟩
  ·exact ⟨hcl0,Nat.le_succ_of_le g.top.size⟩
  ·exact ⟨fr0 _ hge,Nat.le_trans h178 hge⟩
  ·exact ⟨ha0,S2.cx.xhi _ (.head _)⟩
 ·intro p hp X'
  simp only [aD,List.mem_cons,List.not_mem_nil,or_false] at hp
  rcases hp with rfl | rfl | rfl | rfl | rfl | rfl | rfl | rfl | rfl
  ·exact ex2
  ·exact ed2 X'
  ·exact ⟨[],n',epl2,RdL.nil⟩
  ·exact (own15 (x,_) (.head _)).1
  ·exact (own15 (dx,_) (.tail _ (.head _))).1
  ·exact (own15 (h'.objs.size,_) (.tail _ (.tail _ (.head _)))).1
  ·exact hco
  ·exact (own15 (c',_) (.tail _ (.tail _ (.tail _ (.head _))))).1
  ·refine ex22 ((own15 (a,_) (.tail _ (.tail _ (.tail _ (.tail _ (.head _)))))).1) fun vs m hg' hr=>?_
   refine RdL.consE hr fun y r Z1 hy Z9=>?_;clear hr;revert Z9;intro hr;subst Z1
   unfold RdL at hr
   subst hr
   refine hy.strE fun ty Z1=>?_;subst Z1
   exact ⟨[_],m,hg',RdL.one Rd.str_⟩
theorem k6 {st:Stmt} {rest:List Stmt} {Q:Flow→Shared→Prop} (h:WP prog w A (execs [st] env) (fR prog w A env rest Q) s):WN prog w A (execs (st::rest) env) Q s:=fun Γ p hΓ hN=>by
 have h1:=h Γ p hΓ
 rw [execs_cons,Sem.wp_bind'] at h1 ⊢
 refine Sem.wp_mono (model prog w) Γ _ (fun f p' s' h'=>?_) (fun Z Z Z h'=>h'.elim) _ _ h1
 cases f with
 | next=>exact h' Γ p' hΓ hN
 | cont=>exact h'
 | brk=>exact h'
 | ret v=>exact h'
theorem Cx.sd2 {F:List Addr} (c:Cx prog w env X τ ω s) (hs:SDh F s.heap s'.heap) (hF:∀ a∈F,a∈X) (hω:∀ p∈ω,p.1∉F∨∃ o,p.2=.sd o):Cx prog w env X τ ω s':=by
 have c':=Cx.sd (ω:=[]) (⟨c.ok,c.ns,c.cells,c.vars,c.top,c.xlt,c.xhi,fun p hp=>nomatch hp⟩:Cx prog w env X τ [] s) hs hF (fun p hp=>nomatch hp)
 refine ⟨c'.ok,c'.ns,c'.cells,c'.vars,c'.top,c'.xlt,c'.xhi,fun p hp=>⟨?_,(c.own p hp).2⟩⟩
 have z:=(c.own p hp).1
 rcases hω p hp with h | ⟨o,h⟩
 ·exact z.mv (fun b o hb e=>⟨hb,hs.off (fun hm=>hb (hF b hm)) e⟩) fun o e=>hs.off h e
 ·rw [h] at z ⊢
  refine ex11 z fun sl e=>?_;clear z
  refine ex12 (hs _ _ e) fun sl' e' Z=>?_
  exact ⟨sl',e'⟩
theorem SDS.keep {F:List Addr} (k:SDS F s s'):Keep F s s':=⟨fun a o ha e=>k.heap.off ha e,fun a ha=>by
 refine iS ha fun o ho=>?_
 refine ex12 (k.heap a o ho) fun sl e Z=>?_
 rw [e];rfl,k.gens,k.bare,k.os⟩
theorem Sx.sds {F:List Addr} (S:Sx prog w s₀ env M X τ ω s) (k:SDS F s s') (hF:∀ a∈F,a∈M) (hω:∀ p∈ω,p.1∉F∨∃ o,p.2=.sd o):Sx prog w s₀ env M X τ ω s' :=
 ⟨S.cx.sd2 k.heap (fun a ha=>S.sub a (hF a ha)) hω,S.base.trans (k.keep.more hF),S.sub,S.mloc,S.mcel,S.mown⟩
theorem j5 {o:Expr} {x dx f:Addr} {i:Nat} {ps:List (Str×Value)} {name:Str} {ap pos:Pos} {e:Expr} {es:List Expr} {b:Bd} {bs:List Bd} {Q:Value→Shared→Prop} (c:Cx prog w env X τ ω s) (ho:EvV prog w A env s o (.ref x)) (h1:(x,OD.raw (instObj CL dx))∈ω) (h2:(dx,OD.att ps)∈ω)
  (hm:(f,i)∈methTab) (hn:fnName i=name) (hl:ps.lookup name=none) (hes:EvNs prog w A env X s (e::es) (b::bs))
  (h:∀ vs s',Keep [] s s'→Args3 prog w s'.heap X (b::bs) vs→WN prog w A (call (.ref f) (.ref x::vs) []) Q s') {pl:Sem Bool}
  (he:autoParam (eval (.Call (.Attribute o name ap) (e::es) [] pos) env=(do
   let ov ← eval o env
   standAt ap.atName
   let (f,first) ← holding [ov] (getMethod ov name pl)
   callWith pos f first (backTo pos (starEach (e::es) env)) [])) cT._auto_1) :
  WN prog w A (eval (.Call (.Attribute o name ap) (e::es) [] pos) env) Q s:=by
 revert c ho h1 h2 hm hn hl hes h he
 revert i ps name ap pos e es b bs Q pl
 revert prog w A env X τ ω s o x dx f;refine @(dr12 ?_);exists w12 _ _,prog,w,A,env,X,τ,ω,s,o,x,dx,f
 intro i ps name ap pos e es b bs Q pl
 revert i ps name ap pos e es b bs Q pl;refine @(dr11 ?_);exists w11 _ _,i,ps,name,ap,pos,e,es,b,bs,Q,pl
 intro c ho h1 h2 hm hn hl hes h he
 refine nr he (an (ho.go fun v s₁ k₁ h₁=>?_))
 subst h₁
 have c₁:=c.keep k₁
 refine an (wpAny_standAt (an (wpAny_holding (kX c₁.top ⟨(c₁.own _ h1).1,(c₁.own _ h2).1⟩ hm hn hl ?_))))
 refine tV (first:=[.ref x]) (hes.keep k₁) (fun s₂ k₂=>?_) fun vs s₂ k₂ h₂=>h vs s₂ (k₁.trans k₂) h₂
 obtain ⟨_,⟨doc,pm,c,oc,vs,t,hf,_⟩,_⟩:=(c₁.keep k₂).top.fm _ hm
 exact fc hf rfl
theorem rx {e:Expr} {p:Pos} {rest:List Stmt} {Q:Flow→Shared→Prop} (ck:env.scope.kind=.function)
  (h:WN prog w A (eval e env) (fun Z s'=>WN prog w A (execs rest env) Q s') s) (hs:autoParam (swapsWith e none p.line env=pure false) cT._auto_1):WN prog w A (execs (.Expr e p::rest) env) Q s:=by
 have hi:interactive env=false:=by unfold interactive;rw [ck];rfl
 refine cN (nr (exec_Expr env e p hi hs) (an (wpAny_standAt (aw (av h (fun v s' h'=>?_) fun Z Z z=>z)))))
 exact aT (wpAny_dropValue h')
noncomputable def ysOf:Option Int→List Int→List Int×Bool
 | _,[]=>([],true)
 | last,x::r=>if x=127 then ([],true) else if x=0 then (match last with | some l=>(List.replicate 5 l,false) | none=>([],false)) else (x::(ysOf (some x) r).1,(ysOf (some x) r).2)
theorem k7:∀ (row:List Int) (last:Option Int),Strm row last (ysOf last row).1 (ysOf last row).2
 | [],_=>.nil
 | x::r,last=>by
  unfold ysOf
  by_cases h1:x=127
  ·rw [if_pos h1];subst h1;exact .max
  ·rw [if_neg h1]
   by_cases h2:x=0
   ·rw [if_pos h2];subst h2
    cases last with
    | none=>exact .stop
    | some l=>exact .rep 5
   ·rw [if_neg h2]
    exact .cons h1 h2 (k7 r (some x))
noncomputable def mnL (l:List Int):Int:=l.foldl min (l.headD 0)
noncomputable def mxL (l:List Int):Int:=l.foldl max (l.headD 0)
noncomputable def jg (n cut:Nat):Bool :=
 let l:=partsL cut n
 ([0,1,2].all fun m=>let row:=rowD l m;let y:=ysOf none row;szL ((n:Int) + 1) [] y.1 == (l,m == 2) && (y.2 || (szL ((n:Int) + 1) [] y.1).2) && decide (row.length≤1000) && decide (y.1.length≤1000)) &&
 decide (l.length≤100) && (l.all fun x=>decide (1≤x) && decide (x < 1000)) && ((List.range l.length).all fun i=>decide (startAt l i + l.getD i 0≤(n:Int) + 1)) &&
 l.contains (mnL l) && (l.all fun y=>decide (mnL l≤y)) && l.contains (mxL l) && (l.all fun y=>decide (y≤mxL l)) &&
 (!(mnL l == mxL l) || decide (n + 1=l.length * (l.getD 0 0).toNat)) && decide (startAt l l.length=(n:Int) + 1)
theorem ry:∀ n∈[2,3],∀ cut,cut < 2 ^ n→jg n cut=true:=by
 intro n hn
 simp only [List.mem_cons,List.not_mem_nil,or_false] at hn
 refine bQ hn (fun Z1=>?_) fun Z1=>?_ <;> subst Z1
 ·have:(List.range (2 ^ 2)).all (jg 2)=true:=by decide +kernel
  exact fun cut hc=>List.all_eq_true.mp this cut (List.mem_range.mpr hc)
 ·have:(List.range (2 ^ 3)).all (jg 3)=true:=by decide +kernel
  exact fun cut hc=>List.all_eq_true.mp this cut (List.mem_range.mpr hc)
structure CutF (n cut:Nat):Prop where
 row:∀ m:Int,m=0∨m=1∨m=2→szL ((n:Int) + 1) [] (ysOf none (rowD (partsL cut n) m)).1=(partsL cut n,m == 2)∧((ysOf none (rowD (partsL cut n) m)).2=false→(szL ((n:Int) + 1) [] (ysOf none (rowD (partsL cut n) m)).1).2=true) ∧
  (rowD (partsL cut n) m).length≤1000∧(ysOf none (rowD (partsL cut n) m)).1.length≤1000
 siz:∀ b:Array UInt8,b.size=n + 1→Sizes b (partsL cut n)
 mn:mnL (partsL cut n)∈partsL cut n
 mn':∀ y∈partsL cut n,mnL (partsL cut n)≤y
 mx:mxL (partsL cut n)∈partsL cut n
 mx':∀ y∈partsL cut n,y≤mxL (partsL cut n)
 eq:∀ b:Array UInt8,b.size=n + 1→mnL (partsL cut n)=mxL (partsL cut n)→b.size=(partsL cut n).length * ((partsL cut n).getD 0 0).toNat
theorem sI {n cut:Nat} (hn3:n≤3) (h:jg n cut=true):CutF n cut:=by
 unfold jg at h
 simp only [Bool.and_eq_true,List.all_eq_true,decide_eq_true_eq,List.contains_iff_mem,beq_iff_eq,Bool.or_eq_true] at h
 refine ai h fun Z1 h10=>?_;clear h;refine ai Z1 fun Z2 h9=>?_;refine ai Z2 fun Z3 h8=>?_;refine ai Z3 fun Z4 h7=>?_;refine ai Z4 fun Z5 h6=>?_;refine ai Z5 fun Z6 h5=>?_;refine ai Z6 fun Z7 h4=>?_;refine ai Z7 fun Z8 h3=>?_;refine ai Z8 fun h1 h2=>?_;clear Z8;clear Z7;clear Z6;clear Z5;clear Z4;clear Z3;clear Z2;clear Z1
 refine ⟨fun m hm=>?_,fun b hb=>⟨h2,fun i hi=>?_,fun i hi=>?_,by lia⟩,h5,h6,h7,h8,fun b hb e=>?_⟩
 ·refine ai (h1 m (by (refine ly hm (fun Z1=>?_) (fun Z1=>?_) fun Z1=>?_ <;> subst Z1) <;> simp)) fun Z1 d=>?_;refine ai Z1 fun Z2 c=>?_;refine ai Z2 fun a b=>?_;clear Z2;clear Z1
  exact ⟨a,fun e=>b.resolve_left (by rw [e];decide),c,d⟩
 ·have:(partsL cut n).getD i 0∈partsL cut n:=by
   rw [List.getD_eq_getElem?_getD,List.getElem?_eq_getElem hi];exact List.getElem_mem hi
  exact h3 _ this
 ·rw [hb];have:=h4 i (List.mem_range.mpr hi);exact this
 ·rw [hb]
  refine bQ h9 (fun q=>?_) fun q=>?_
  ·rw [e] at q;simp at q
  ·exact q
noncomputable def pM (b:Array UInt8) (l:List Int):List Str:=fh b l (mnL l == mxL l)
noncomputable def pushItem (n:Nat) (x:Str) (cut:Nat):D:=.tup [.int cut,.str (tx []),.tup ((pM (bl x) (partsL cut n)).map .str)]
theorem sJ (a:Int):a.fmod 3=0∨a.fmod 3=1∨a.fmod 3=2:=by
 have:=ba (a:=a) (b:=3) (by decide)
 lia
section
variable {L:LA} {st:LS}
theorem nU {n k:Nat} {x:Str} {kind:Int} {e0:Env} {L0:Addr} {o0:Obj} {vw vk:Value} (ao:Ao (k + 6) A) (hg:A.guards=some []) (hfr:A.frames=some [e0]) (g:Gd X s) (ok:LaOk L) (hl:LexAt prog w s.heap X L st) (hq:st.q=[])
  (hn:n=2∨n=3) (hxa:x.cps.all (· < 128)=true) (hxl:x.length=n + 1) (he0:e0.frame=some L0) (ho0:s.heap.get? L0=some o0) (hf0:o0.isFreed=false) (hk0:e0.scope.kind≠.module) (hL0:L0∈X) (hLa:L0∉lexA L)
  (hw:Rd prog w s.heap X (.str x) vw) (hk:Rd prog w s.heap X (.int kind) vk) :
  WN prog w A (call (.ref 150) [.ref L.lx,vw,vk] []) (fun v s'=>v=.bool true∧Keep (L0::lexA L) s s'∧(∃ sl,s'.heap.get? L0=some { o0 with slots:=sl })∧LexAt prog w s'.heap X L { st with q:=(List.range (2 ^ n)).map (pushItem n x) }) s:=by
 revert ao hg hfr g ok hl hq hn hxa hxl he0 ho0 hf0 hk0 hL0 hLa hw hk
 revert k x kind e0 L0 o0 vw vk
 revert prog w A X s L st n;refine @(dr8 ?_);exists w8 _ _,prog,w,A,X,s,L,st,n
 intro k x kind e0 L0 o0 vw vk
 revert k x kind e0 L0 o0 vw vk;refine @(dr8 ?_);exists w8 _ _,k,x,kind,e0,L0,o0,vw,vk
 intro ao hg hfr g ok hl hq hn hxa hxl he0 ho0 hf0 hk0 hL0 hLa hw hk
 refine eE (bs:=[.v (.ref L.lx),.d (.str x),.d (.int kind)]) (names:=["lexer", "word", "kind"]) (g.top.fn (150,20) (by decide)) g ao.lim (.cons rfl (.cons hw (.cons hk .nil))) (fun env M s₁ hfm hsc hnew hcl hcl' S Z=>?_) (fun Z Z Z=>rfl) (by rfl) (by decide) (by decide +kernel) (by decide +kernel) (by decide +kernel) (by decide +kernel)
 have fe:Fe env 20:=⟨hsc,hcl,hcl'⟩
 have hce:env.cells=[]:=cq fun x=>by rw [hcl'];rfl
 have hn1:n < 1000:=by lia
 have h2n:(2:Nat) ^ n≤8:=by (refine bQ hn (fun Z1=>?_) fun Z1=>?_ <;> subst Z1) <;> decide
 have ao1:Ao (k + 5) (A.deeper env):=ao.deeper
 have hg1:(A.deeper env).guards=some []:=hg
 have hfr1:(A.deeper env).frames=some [env,e0]:=by show A.frames.map (env::·)=_;rw [hfr];rfl
 have S1:=Sx.adopt (ωa:=aD L st++[(L0,.sd o0)]) S hnew (fun p hp=>by
  refine mA hp (fun hp=>?_) fun hp=>?_
  ·exact hl p hp
  ·rw [mS hp];exact ⟨⟨o0.slots,ho0⟩,hL0⟩) (by rw [hce];intro c hc;exact nM hc)
 have hos:(bl x).size=n + 1:=by
  unfold bl;rw [byteArr_size,List.length_map,Array.length_toList];exact hxl
 have c₁:=S1.cx
 refine k6 (dT S1 (.d (.byt (bl x))) (fe.own rfl) (jc (l:=x.cps.toList.map fun c=>((c:Nat):Int)) c₁ ao1.h (aY _ c₁ (fe.gl rfl) rfl) ?_ (fun m hm=>?_) (by rw [List.length_map,Array.length_toList];show x.length≤_;lia)) fun s₂ S2=>ax ?_)
 ·refine (dc (τf:=[]) (ds:=cA x) (σ:=fun d=>[("sign",.d d)]) (pz:=fun Z=>true) (g:=rq) c₁ (qS c₁ ao1.h (aa (.str x) c₁ rfl) hxa)
   (fun s'' k=>⟨(aE fe (by decide +kernel)).1,(aE fe (by decide +kernel)).2,by decide +kernel,by decide +kernel,trivial,by rfl,by rw [cA,List.length_map,Array.length_toList];show x.length≤_;lia,fun d hd=>trivial,fun d hd cenv M ce=>au (ce.st rfl),fun d hd cenv X'' ω s'' hX'' ce c=>bH,fun d hd Z cenv X'' ω s'' hX'' ce c=>?_⟩) (by decide +kernel)).to ?_
  ·refine mM hd fun o ho Z1=>?_;subst Z1
   exact tR (aY _ c (ce.gl rfl) rfl) (aH (aa (.str ⟨#[o]⟩) c rfl) al)
  ·rw [List.filter_eq_self.mpr (fun Z Z=>rfl),lZ]
 ·refine mM hm fun c hc Z1=>?_;subst Z1
  have:=Array.all_eq_true_iff_forall_mem.mp hxa c (Array.mem_toList_iff.mp hc)
  have:c < 128:=by simpa using this
  lia
 have elenw:∀ {X':List Addr} {τ':List (Str×Bd)} {ω':List (Addr×OD)} {s':Shared} {p q r:Pos},Cx prog w env X' τ' ω' s'→τ'.lookup ("word":Str)=some (Bd.d (.str x))→EvD prog w (A.deeper env) env X' s' (.Call (.Name "len" p) [.Name "word" q] [] r) (.int ((n:Int) + 1)):=fun c h =>
  (fC c (aY _ c (fe.gl rfl) rfl) (aH (aa (.str x) c h) al) (by lia)).to (congrArg D.int (by rw [hxl];simp))
 let τw:List (Str×Bd):=[("octets",.d (.byt (bl x))),("lexer",.v (.ref L.lx)),("word",.d (.str x)),("kind",.d (.int kind))]
 let qi:Nat→List D:=fun i=>(List.range i).map (pushItem n x)
 refine qy S2 (ds:=aB 0 1 (2 ^ n)) (bA (n:=2 ^ n) S2.cx ao1.h (aY _ S2.cx (fe.gl rfl) rfl) (aH ((aF S2.cx (ag (i:=2)) (aF S2.cx (elenw S2.cx rfl) ag cO) (iW (by lia) (by lia) (by decide))).to (congrArg D.int (by rw [Int.add_sub_cancel];simp))) al) (by exact Nat.lt_of_le_of_lt h2n (by decide)))
  (fun Z=>τw) (fun i=>aD L { st with q:=qi i }++[(L0,.sd o0)]) (fun Z Z=>False) (fun i d=>[("cut",.d d)]) ⟨rfl,rfl,rfl,rfl,trivial⟩ (by rw [show qi 0=st.q by rw [hq];rfl])
  (fun i d Z=>au (fe.own rfl)) (fun i d X' s₃ hd hX S3=>?_) (fun s₃ S3=>?_) (fun Z Z Z h=>h.elim)
 ·refine ai (bG hd) fun hi Z1=>?_;subst Z1
  rw [show (0:Int) + (i:Int) * 1=(i:Int) by lia] at S3
  have F:=sI (by lia) (ry n (by (refine bQ hn (fun Z1=>?_) fun Z1=>?_ <;> subst Z1) <;> simp) i hi)
  have hpl:(partsL (i:Int) n).length≤n + 1:=cm
  refine k6 (aC S3 (am (partsL i n)) (fe.own rfl) (b5 (i:=15) S3.cx (ao1.less (by exact Nat.succ_pos _)) (kJ i n hn1) (by decide) (bj _ S3.cx (fe.gl rfl) rfl) (aH (aa (.int (i:Int)) S3.cx rfl) (aH (elenw S3.cx rfl) al))) fun s₄ S4=>ax ?_)
  refine k6 (aC S4 (.int ((kind + i).fmod 3)) (fe.own rfl) (aF S4.cx (aF S4.cx (aa (.int kind) S4.cx rfl) (aa (.int (i:Int)) S4.cx rfl) bR) ag (fv (by decide))) fun s₅ S5=>ax ?_)
  have hm:=sJ (kind + i)
  refine dS (F.row _ hm) fun r1 r2 r3 r4=>?_
  generalize hmn:(kind + (i:Int)).fmod 3=mn at S5 hm r1 r2 r3 r4
  refine k6 (aC S5 (am (rowD (partsL i n) mn)) (fe.own rfl) (b5 (i:=16) S5.cx (ao1.less (by exact Nat.succ_pos _)) (sf (partsL i n) mn (by lia)) (by decide) (bj _ S5.cx (fe.gl rfl) rfl) (aH (aa (am (partsL i n)) S5.cx rfl) (aH (aa (.int mn) S5.cx rfl) al))) fun s₆ S6=>ax ?_)
  refine k6 (dw S6 [("sizes",_),("endless",_)] (ds:=[am (partsL i n),.bool (mn == 2)]) ao1.h (fun y hy=>by
    refine mC hy (fun Z1=>?_) fun hy=>?_;subst Z1
    ·exact fe.own rfl
    ·rw [mS hy];exact fe.own rfl) rfl
   ((b5 (i:=17) S6.cx (ao1.less (by exact Nat.le_add_left ..)) (pi (rowD (partsL i n) mn) ((n:Int) + 1) _ _ (k7 _ _) r2 r3 r4) (by decide) (bj _ S6.cx (fe.gl rfl) rfl) (aH (aa (am (rowD (partsL i n) mn)) S6.cx rfl) (aH (elenw S6.cx rfl) al))).to (by rw [r1])) (fun s₇ S7=>ax ?_) rfl rfl)
  let row:=rowD (partsL i n) mn
  have hL0X:L0∈X':=hX _ (mR hL0)
  have hL0M:L0∈(aD L st++[(L0,OD.sd o0)]).map (·.1)++M:=mL (by rw [List.map_append];exact mR (.head _))
  have c₇:=S7.cx
  refine cN (tp (wpAny_isTrue_BoolOp (wpAny_allTrue_Or_cons (((aZ c₇ (aa (am (partsL i n)) c₇ rfl) (aa (am (partsL i n)) c₇ rfl) (sy ao1)).to (by simp:_=false)).go fun s₈ k₈=>?_))))
  refine mF (by decide) ?_
  have c₈:=c₇.keep k₈
  refine wpAny_allTrue_Or_cons (((aZ c₈ (aa (.bool (mn == 2)) c₈ rfl) (r8 c₈ (aa (.int mn) c₈ rfl) (ag (i:=2)) cZ) sA).to (by simp:_=false)).go fun s₉ k₉=>?_)
  refine mF (by decide) ?_
  have S9:=S7.keep (k₈.trans k₉)
  refine wpAny_allTrue_Or_cons (wpAny_isTrue_Not (wpAny_isTrue_value (wpAny_Call_NameR ((bj (.ref 140) S9.cx (fe.gl rfl) rfl).go fun u s10 k10 hAO=>?_)) (by rfl)))
  subst hAO
  have S10:=S9.keep k10
  refine cw (X:=X') (bs:=[.d (am (0::row))]) (first:=[]) (aH (aF S10.cx (gF S10.cx (ds:=[.int 0]) (aH ag al) (Nat.le_trans (by decide:1≤1000) (Nat.le_refl _))) (aa (am row) S10.cx rfl) (fG (by rw [List.length_map];show 1 + (rowD (partsL (i:Int) n) mn).length≤1000000;lia))) al) (fun s' k=>cG (i:=18) (S10.cx.keep k).top (by decide)) fun vs s11 k11 hAA=>?_
  refine aO hAA fun v Z1 hv=>?_;subst Z1
  have S11:=S10.keep k11
  have hLe:env.locals∈X':=S11.cx.ok.loc
  have hsd:OwnAt prog w s11.heap X' L0 (.sd o0):=(S11.cx.own (L0,.sd o0) (mR (.head _))).1
  refine lG (F:=[env.locals,L0]) (l:=[env,e0]) (ao1.less (by exact Nat.le_add_left ..)) hfr1 S11.cx.gd (fun a ha=>?_) (fun y hy=>?_) hv fun s12 k12=>?_
  ·refine mC ha (fun Z1=>?_) fun ha=>?_;subst Z1
   ·exact hLe
   ·rw [ay ha];exact hL0X
  ·refine mC hy (fun Z1=>?_) fun hy=>?_;subst Z1
   ·refine ex43 S11.cx.ns fun mm o es ep ho hd' Z=>?_
    exact ⟨_,o,hfm,.head _,ho,by obtain ⟨c,d,dt,sl⟩:=o;cases hd';rfl,by rw [hsc];decide +kernel⟩
   ·rw [mS hy]
    refine ex11 hsd fun sl e=>?_;clear hsd
    exact ⟨L0,_,he0,.tail _ (.head _),e,by rw [bX];exact hf0,hk0⟩
  have S12:=S11.sds k12 (fun a ha=>by
   refine mC ha (fun Z1=>?_) fun ha=>?_;subst Z1
   ·exact S11.mloc
   ·rw [ay ha];exact hL0M) (fun p hp=>by
   refine mA hp (fun hp=>?_) fun hp=>?_
   ·left
    intro hm
    refine mC hm (fun e=>?_) fun hm=>?_
    ·exact (S11.cx.own p (mL hp)).2.2.1 e
    ·refine hLa ?_
     rw [← ay hm,← aR L { st with q:=qi i }];exact List.mem_map_of_mem hp
   ·right;rw [mS hp];exact ⟨_,rfl⟩)
  refine wpAny_truthy_bool ?_
  refine mF (by decide) ?_
  refine wpAny_allTrue_Or_nil ?_
  refine mF (by decide) ?_
  refine aT (ax ?_)
  have c12:=S12.cx
  refine rx (by rw [hsc];decide +kernel) (j5 (x:=L.lx) (dx:=L.dx) (f:=77) (i:=103) c12 (az (.ref L.lx) c12 rfl) (mL (.head _)) (mL (.tail _ (.head _))) (by decide) rfl rfl
   (.cons (fun Z=>rfl) (pF (ds:=[.int (i:Int),.str (tx []),.tup ((pM (bl x) (partsL i n)).map .str)]) c12 (.cons (fun Z=>rfl) (bN (aa (.int (i:Int)) c12 rfl)) (.cons (fun Z=>rfl) (bN (aX.to (congrArg D.str (show Str.ofString ""=tx [] by decide)))) (.cons (fun Z=>rfl) ?_ .nil))) (Nat.le_trans (by decide:3≤1000) (Nat.le_refl _))) .nil) fun vs s13 kAC hAC=>?_)
  ·refine iA (u:=.ref 145) (bs:=[.d (.byt (bl x)),.d (am (partsL i n))]) (bj _ c12 (fe.gl rfl) rfl) (aH (aa (.byt (bl x)) c12 rfl) (aH (aa (am (partsL i n)) c12 rfl) al)) (fun s' k=>cG (i:=19) (c12.keep k).top (by decide)) (fun s₁ s₂ s₃ v k p=>p) fun vs s' k hv=>?_
   exact nD (bl x) (partsL i n) (mnL (partsL i n)) (mxL (partsL i n)) (F.siz _ hos) F.mn F.mn' F.mx F.mx' (F.eq _ hos) (A.deeper env) s' X' vs (ao1.less (by exact Nat.le_add_left ..)) hg1 (c12.keep k).gd (bW hv)
  ·refine aO hAC fun v Z1 hv=>?_;subst Z1
   have S13:=S12.keep kAC
   refine aT (wpAny_mono (nH (k:=k) (ao1.less (by lia)) S13.cx.gd ok S13.lexAt hv (by show ((List.range i).map _).length≤_;rw [List.length_map,List.length_range];lia)) (fun Z s14 z=>?_) fun Z Z z=>z)
   have S14:=S13.lexTurn z.1 z.2 (fun p hp=>by rw [mS hp];exact hLa)
   refine aT (ax ?_)
   have hqe:qi i++[pushItem n x i]=qi (i + 1):=by show (List.range i).map _++_=(List.range (i + 1)).map _;rw [List.range_succ,List.map_append];rfl
   have S15:Sx prog w s₃ env _ X' _ (aD L { st with q:=qi (i + 1) }++[(L0,OD.sd o0)]) s14:=hqe ▸ S14
   exact S15.cover ⟨rfl,rfl,rfl,rfl,trivial⟩
 ·rw [aq] at S3
  refine qz S3 (ft (X:=M++X)) fun s₄ v S4 hv=>?_
  have hvb:=hv.bool_inv
  refine ai (Sx.left (ωa:=aD L st++[(L0,.sd o0)]) S4 hnew) fun z1 z2=>?_
  refine ⟨hvb,z1.more fun b hb=>?_,z2 (L0,.sd o0) (mR (.head _)),fun p hp=>⟨z2 p (mL hp),hl.inX _ (by rw [← aR L { st with q:=qi (2 ^ n) }];exact List.mem_map_of_mem hp)⟩⟩
  rw [List.map_append,aR] at hb
  refine mA hb (fun hb=>?_) fun hb=>?_
  ·exact .tail _ hb
  ·rw [ay hb];exact .head _
end
section
variable {E:Value→Shared→Prop}
theorem l5 (k n:Nat) (hk:k≤n):Builtin.Slice.sliceAdjust none (some (k:Int)) 1 (n:Int)=(0,(k:Int)):=by
 unfold Builtin.Slice.sliceAdjust
 have h1:¬ ((1:Int) < 0):=by decide
 have h2:¬ ((k:Int) < 0):=by lia
 simp only [h1,h2,if_false]
 congr 1
 lia
theorem l6 (k:Nat):Builtin.Slice.slicePlaces 0 (k:Int) 1=k:=by
 unfold Builtin.Slice.slicePlaces
 have h1:(1:Int) > 0:=by exact Int.le_refl _
 simp only [h1,if_true,Int.ediv_one]
 split <;> lia
theorem e9 {sl:Addr} {k n:Nat} {u:Tok} {Q:Int×Int×Nat→Shared→Prop} (hs:s.heap.IsSliceOf sl .none (.int k u) .none) (hk:k≤n) (h:Q (0,1,k) s) :
  wpAny (model prog w) A (Builtin.Slice.sliceApplied (.ref sl) (pure (n:Int))) Q E s:=by
 refine ex13 (id hs) fun os hos hcs hds=>?_
 unfold Builtin.Slice.sliceApplied Builtin.Slice.sliceFields
 refine wpAny_bind (wpAny_bind (wpAny_field hos hds (x:=.none) rfl (wpAny_bind (wpAny_field hos hds (x:=.int k u) rfl (wpAny_bind (wpAny_field hos hds (x:=.none) rfl (wpAny_pure ?_)))))))
 refine wpAny_bind (slicePart_none ?_)
 show wpAny _ _ (if ((1:Int) == 0)=true then _ else _) _ _ s
 refine wF (by decide) ?_
 refine wpAny_bind (slicePart_none (wpAny_bind (slicePart_int (wpAny_bind (wpAny_pure ?_)))))
 show wpAny _ _ (match Builtin.Slice.sliceAdjust none (some (k:Int)) 1 (n:Int) with | (lo,hi)=>pure (lo,(1:Int),Builtin.Slice.slicePlaces lo hi 1)) _ _ s
 rw [l5 k n hk]
 show wpAny _ _ (pure ((0:Int),(1:Int),Builtin.Slice.slicePlaces 0 (k:Int) 1)) _ _ s
 rw [l6 k]
 exact wpAny_pure h
theorem pN (xs:Array Value) (k:Nat) (hk:k≤xs.size):((List.range k).filterMap fun (j:Nat)=>xs[((0:Int) + (j:Int) * 1).toNat]?).toArray=(xs.toList.take k).toArray:=by
 have e:(fun (j:Nat)=>xs[((0:Int) + (j:Int) * 1).toNat]?)=fun j=>xs[j]?:=by
  funext j
  have:((0:Int) + (j:Int) * 1).toNat=j:=by lia
  rw [this]
 rw [e]
 congr 1
 induction k with
 | zero=>rfl
 | succ k ih =>
  have hk':k < xs.size:=by exact hk
  rw [List.range_succ,List.filterMap_append,ih (by exact Nat.le_of_lt hk')]
  simp only [List.filterMap_cons,List.filterMap_nil,Array.getElem?_eq_getElem hk']
  rw [List.take_add_one,List.getElem?_eq_getElem (by simpa using hk')]
  simp
theorem eK {t sl:Addr} {items:Array Value} {k:Nat} {u:Tok} {Q:Value→Shared→Prop} (ht:IsTup s.heap t items) (hs:s.heap.IsSliceOf sl .none (.int k u) .none) (hk:k < items.size)
  (h:Q (.ref s.heap.objs.size) { s with heap:=s.heap.push { cls:=.type "tuple",data:=.seq (items.toList.take k).toArray } })
  (hsz:items.size≤sizeLine):wpAny (model prog w) A (getItem (.ref t) (.ref sl)) Q E s:=by
 revert ht hs hk h hsz
 revert prog w A s E t sl items k u Q;refine @(dr11 ?_);exists w11 _ _,prog,w,A,s,E,t,sl,items,k,u,Q
 intro ht hs hk h hsz
 have htake:sizeOk (.seq (items.toList.take k).toArray):=by
  show (items.toList.take k).toArray.size≤sizeLine
  rw [List.size_toArray,List.length_take]
  exact Nat.le_trans (Nat.min_le_right ..) hsz
 refine ex13 (id hs) fun os hos hcs hds=>?_
 have hTs:s.TypeIs (.ref sl) "slice":=⟨os,hos,hcs⟩
 unfold getItem
 try with_reducible refine wpAny_holding ?_
 first | refine wpAny_bind (wpAny_pure ?_) | skip
 refine wpAny_bind (wpAny_sequenceKey ht.typeIs (by decide) ?_)
 refine wpAny_bind (wpAny_callSpecial?_slot (name:=Str.ofString "__getitem__") ht.typeIs slot_tuple_getitem
  (wpAny_call_entry slot_tuple_getitem ht.typeIs entry_tuple_getitem ?_ (args_tuple_getitem _ _)))
 show wpAny _ _ (Builtin.Tuple.tupleItemsOf (.ref t) >>= _) _ _ s
 refine wpAny_bind (tupleItemsOf_ ht ?_)
 refine wpAny_bind (wpAny_typeOf hTs ?_)
 refine wT (by decide) ?_
 refine wpAny_bind (e9 hs (Nat.le_of_lt hk) ?_)
 have hno:¬ (((0:Int) == 0 && (1:Int) == 1 && k == items.size)=true):=by
  have:(k == items.size)=false:=by rw [beq_eq_false_iff_ne];exact Nat.ne_of_lt hk
  rw [this];simp
 show wpAny _ _ (if ((0:Int) == 0 && (1:Int) == 1 && k == items.size)=true then _ else _) _ _ s
 rw [if_neg hno,pN items k (Nat.le_of_lt hk)]
 first
  | exact wpAny_bind (m:=Builtin.Tuple.tupleExact _) (wpAny_newObj_type (wpAny_pure ⟨_,rfl,wpAny_pure h⟩) htake)
  | exact wpAny_bind (m:=Builtin.Tuple.tupleExact _) (wpAny_newObj_type (wpAny_bind (wpAny_pure (wpAny_pure ⟨_,rfl,wpAny_pure h⟩))) htake)
end
theorem l7 {k:Nat} {ds:List D} {x:Str} (ao:Ao k A):cv prog w A X (compareOp .NotEq) (.tup ds) (.str x) (.bool true):=fun s u v Z h1 h2=>by
 refine h1.tupE fun a vs n Z1 hx hg hr=>?_;subst Z1
 refine h2.strE fun t Z1=>?_;subst Z1
 refine SeqAt.RcNeAt.tuple_str x t ⟨_,hg,rfl,n,rfl⟩ (by have:=ao.room;lia) prog w _ _ ?_
 exact ⟨Keep.refl _ _,Rd.bool_⟩
theorem j6 {v hi:Expr} {q p:Pos} {ds:List D} {k:Nat} (c:Cx prog w env X τ ω s) (hv:EvD prog w A env X s v (.tup ds)) (hb:EvD prog w A env X s hi (.int (k:Int))) (hk:k < ds.length) (hl:ds.length≤16777216) :
  EvD prog w A env X s (.Subscript v (.Slice none (some hi) none q) p) (.tup (ds.take k)):=by
 revert c hv hb hk hl
 revert prog w A env X τ ω s v hi q p ds k;refine @(dr14 ?_);exists w14 _ _,prog,w,A,env,X,τ,ω,s,v,hi,q,p,ds,k
 intro c hv hb hk hl
 intro s' kk
 refine fV (T:="tuple") slot_tuple_getitem.lookup ((hv.keep kk).go fun u s₁ k₁ h₁=>wpAny_Slice (wpAny_evalPart_none (wpAny_evalPart_some ((hb.keep (kk.trans k₁)).go fun z s₃ k₃ h₃=>?_))))
 refine (h₁.keep k₃.any).tupE fun a vs n Z1 hx hg hr=>?_;subst Z1
 refine h₃.intE fun t Z1=>?_;subst Z1
 have hlen:=hr.length
 rw [evalPart_none]
 have kp:Keep [] s₃ { s₃ with heap:=s₃.heap.push { cls:=.type "slice",data:=.fields #[.none,.int (k:Int) t,.none] } }:=Keep.push (tk:=s₃.toks)
 have hg':=kp.heap a _ (fun h=>nomatch h) hg
 refine wpAny_pure ⟨⟨_,hg',rfl⟩,?_⟩
 have c₃:=c.keep ((kk.trans k₁).trans k₃)
 refine eK (cb hg') (Heap.IsSliceOf.new ..) (by simp [hlen];exact hk) ⟨((k₁.trans k₃).trans kp).trans (Keep.push (tk:=s₃.toks)),?_⟩ (by simp [hlen,aM];exact hl)
 exact Rd.tup_new (tk:=0) (c₃.keep kp).gd ((RdL.keep hr kp.any).take k)
theorem iJ {v lo:Expr} {q p:Pos} {ds:List D} {k:Nat} (c:Cx prog w env X τ ω s) (hv:EvD prog w A env X s v (.tup ds)) (hb:EvD prog w A env X s lo (.int (k:Int))) (h1:1≤k) (hk:k≤ds.length) (hl:ds.length≤16777216) :
  EvD prog w A env X s (.Subscript v (.Slice (some lo) none none q) p) (.tup (ds.drop k)):=by
 revert c hv hb h1 hk hl
 revert prog w A env X τ ω s v lo q p ds k;refine @(dr14 ?_);exists w14 _ _,prog,w,A,env,X,τ,ω,s,v,lo,q,p,ds,k
 intro c hv hb h1 hk hl
 intro s' kk
 refine fV (T:="tuple") slot_tuple_getitem.lookup ((hv.keep kk).go fun u s₁ k₁ h₁=>wpAny_Slice (wpAny_evalPart_some ((hb.keep (kk.trans k₁)).go fun z s₃ k₃ h₃=>wpAny_evalPart_none ?_)))
 refine (h₁.keep k₃.any).tupE fun a vs n Z1 hx hg hr=>?_;subst Z1
 refine h₃.intE fun t Z1=>?_;subst Z1
 have hlen:=hr.length
 rw [evalPart_none]
 have kp:Keep [] s₃ { s₃ with heap:=s₃.heap.push { cls:=.type "slice",data:=.fields #[.int (k:Int) t,.none,.none] } }:=Keep.push (tk:=s₃.toks)
 have hg':=kp.heap a _ (fun h=>nomatch h) hg
 refine wpAny_pure ⟨⟨_,hg',rfl⟩,?_⟩
 have c₃:=c.keep ((kk.trans k₁).trans k₃)
 refine getItem_tuple_from (cb hg') (Heap.IsSliceOf.new ..) h1 (by simp [hlen];exact hk) ⟨((k₁.trans k₃).trans kp).trans (Keep.push (tk:=s₃.toks)),?_⟩ (by simp [hlen,aM];exact hl)
 exact Rd.tup_new (tk:=0) (c₃.keep kp).gd ((RdL.keep hr kp.any).drop k)
theorem pO {test:Expr} {body rest:List Stmt} {p:Pos} {Q:Flow→Shared→Prop} (J:Nat→Shared→Prop) (n:Nat) (h0:J n s)
  (turn:∀ n s,J n s→∃ b,EvT prog w A env s test b∧(b=true→∀ s',Keep [] s s'→WP prog w A (execs body env) (fun f s''=>match f with
    | .next | .cont=>∃ m,m < n∧J m s''
    | .brk=>False
    | .ret v=>Q (.ret v) s'') s')∧(b=false→∀ s',Keep [] s s'→WP prog w A (execs rest env) Q s')) :
  WP prog w A (execs (.While test body [] p::rest) env) Q s:=by
 refine aK (wpAny_While ?_)
 refine codeAny_whileLoop J (fun k s' hJ=>?_) n h0
 refine ex13 (turn k s' hJ) fun b h1 h2 h3=>?_
 refine wpAny_mono (h1 s' (Keep.refl _ _)) (fun b' s₂ hb=>?_) fun Z Z z=>z.elim
 refine ai hb fun k₂ Z1=>?_;clear hb;subst Z1
 cases b' with
 | true =>
  refine r7 rfl ?_
  refine wpAny_mono (h2 rfl s₂ k₂) (fun f s₃ hf=>?_) fun Z Z z=>z.elim
  cases f <;> first | exact hf | exact hf.elim
 | false =>
  refine mF (by decide) ?_
  exact ax (prog:=prog) (w:=w) (A:=A) (env:=env) (Q:=fun f s=>c5 prog w A env rest Q f s) (h3 rfl s₂ k₂)
structure RI where
 cut:Int
 laid:List Nat
 ps:List (List Nat)
instance:Nonempty RI:=⟨⟨0,[],[]⟩⟩
noncomputable def RI.d (r:RI):D:=.tup [.int r.cut,.str (tx r.laid),.tup (r.ps.map fun p=>.str (tx p))]
noncomputable def cr (r:RI) (k:Nat):RI:=⟨r.cut,r.laid++(r.ps.getD k []).take 1,r.ps.take k++(if ((r.ps.getD k []).drop 1).length=0 then [] else [(r.ps.getD k []).drop 1])++r.ps.drop (k + 1)⟩
structure RS where
 cur:Option RI
 q:List RI
 ends:List (Int×List Nat)
instance:Nonempty RS:=⟨⟨none,[],[]⟩⟩
noncomputable def em (q:List RI) (e:List (Int×List Nat)):RS:=match q with
 | []=>⟨none,[],e⟩
 | h::t=>⟨some h,t,e⟩
noncomputable def et (r:RI) (t:RS):RS:=if r.ps.length=1 then em t.q (t.ends++[(r.cut,r.laid++r.ps.getD 0 [])]) else em (t.q++(List.range r.ps.length).map (cr r)) t.ends
noncomputable def rLoop:Nat→RS→RS
 | 0,t=>t
 | n + 1,t=>match t.cur with
  | none=>t
  | some r=>rLoop n (et r t)
noncomputable def endD (e:Int×List Nat):D:=.tup [.int e.1,.str (tx e.2)]
structure RI.ok (r:RI):Prop where
 ne:∀ p∈r.ps,p≠[]
 w:r.laid.length + (r.ps.map List.length).sum≤100
theorem nV:∀ {l:List (List Nat)},(∀ p∈l,p≠[])→l.length≤(l.map List.length).sum
 | [],_=>Nat.le_refl _
 | p::r,h=>by
  have h1:=nV (l:=r) fun q hq=>h q (.tail _ hq)
  have h2:1≤p.length:=List.length_pos_iff.mpr (h p (.head _))
  rw [List.map_cons,List.sum_cons,List.length_cons];lia
theorem RI.ok.len {r:RI} (h:r.ok):r.ps.length≤100:=Nat.le_trans (nV h.ne) (by have:=h.w;exact Nat.le_trans (Nat.le_add_left ..) this)
theorem RI.ok.piece {r:RI} (h:r.ok) {k:Nat} (hk:k < r.ps.length):∃ c p,r.ps.getD k []=c::p∧(c::p)∈r.ps:=by
 have hm:r.ps.getD k []∈r.ps:=by rw [List.getD_eq_getElem?_getD,List.getElem?_eq_getElem hk];exact List.getElem_mem hk
 cases e:r.ps.getD k [] with
 | nil=>exact absurd e (h.ne _ hm)
 | cons c p=>exact ⟨c,p,rfl,e ▸ hm⟩
theorem eL:∀ (l:List (List Nat)) (k:Nat),k < l.length→(l.map List.length).sum=((l.take k).map List.length).sum + (l.getD k []).length + ((l.drop (k + 1)).map List.length).sum
 | [],_,h=>absurd h (Nat.not_lt_zero _)
 | p::r,0,_=>by simp
 | p::r,k + 1,h=>by
  have:=eL r k (by simpa using h)
  simp only [List.map_cons,List.sum_cons,List.take_succ_cons,List.drop_succ_cons,List.getD_cons_succ]
  lia
theorem nW {r:RI} (h:r.ok) {k:Nat} (hk:k < r.ps.length):(cr r k).ok:=by
 refine ex22 (h.piece hk) fun c p e hm=>?_
 have hs:=eL r.ps k hk
 have hw:=h.w
 unfold cr
 rw [e] at hs ⊢
 simp only [List.take_succ_cons,List.take_zero,List.drop_succ_cons,List.drop_zero]
 refine ⟨fun q hq=>?_,?_⟩
 ·refine mA hq (fun hq=>?_) fun hq=>?_
  ·refine mA hq (fun hq=>?_) fun hq=>?_
   ·exact h.ne q (List.mem_of_mem_take hq)
   ·split at hq
    ·exact nM hq
    ·rename_i hn
     rw [mS hq]
     intro z;exact hn (by rw [z];rfl)
  ·exact h.ne q (List.mem_of_mem_drop hq)
 ·simp only [List.length_append,List.map_append,List.sum_append,List.length_cons,List.length_nil]
  simp only [List.length_cons] at hs
  split
  ·simp only [List.map_nil,List.sum_nil];lia
  ·simp only [List.map_cons,List.map_nil,List.sum_cons,List.sum_nil];lia
theorem k8 {c:Nat} {r:List Nat}:Txt.item (tx (c::r)) 0=tx [c]:=by
 unfold Txt.item tx;simp [Txt.charAt,seqIndex?,Str.length]
theorem nX:lexT [46]=([46],[]):=by decide +kernel
theorem nY:lexT []=([],[]):=by decide +kernel
noncomputable def tY (t:RS):D:=match t.cur with
 | some r=>r.d
 | none=>.str (tx [46])
noncomputable def tZ (t:RS):Str:=match t.cur with
 | some _=>tx [46]
 | none=>tx []
noncomputable def RSok (n:Nat) (t:RS):Prop:=(∀ r,t.cur=some r→r.ok)∧(∀ r∈t.q,r.ok)∧t.q.length + 100 * n≤500000∧t.ends.length + n≤100000∧(t.cur=none→t.q=[])
theorem k9 {n:Nat} {q:List RI} {e:List (Int×List Nat)} (h:∀ r∈q,r.ok) (h1:q.length + 100 * n≤500000) (h2:e.length + n≤100000):RSok n (em q e):=by
 cases q with
 | nil =>
  refine ⟨fun r hr=>?_,fun r hr=>?_,(by simpa using h1:[].length + 100 * n≤500000),h2,fun Z=>rfl⟩
  ·exact nO hr
  ·exact nM hr
 | cons a r =>
  refine ⟨fun b hb=>?_,fun b hb=>h b (.tail _ hb),?_,h2,fun hc=>?_⟩
  ·refine sE hb fun hb=>?_;subst hb;exact h _ (.head _)
  ·simp only [List.length_cons] at h1;show r.length + _≤_;lia
  ·exact nO hc.symm
section
variable {L:LA} {st:LS}
theorem l8 {k n0:Nat} {r0:RI} {q0:List RI} (ao:Ao (k + 6) A) (g:Gd X s) (ok:LaOk L) (hl:LexAt prog w s.heap X L st) (hq:st.q=(r0::q0).map RI.d) (hx:st.txt=tx [46])
  (hok:RSok n0 ⟨some r0,q0,[]⟩) (hfin:(rLoop n0 ⟨some r0,q0,[]⟩).cur=none) :
  WP prog w A (call (.ref 157) [.ref L.lx] []) (fun v s'=>Keep (lexA L) s s'∧(∃ lt',LexAt prog w s'.heap X L ⟨st.line,lt',[],tx []⟩)∧Rd prog w s'.heap X (.lst ((rLoop n0 ⟨some r0,q0,[]⟩).ends.map endD)) v) s:=by
 revert ao g ok hl hq hx hok hfin
 revert prog w A X s L st k n0 r0 q0;refine @(dr11 ?_);exists w11 _ _,prog,w,A,X,s,L,st,k,n0,r0,q0
 intro ao g ok hl hq hx hok hfin
 refine dY (bs:=[.v (.ref L.lx)]) (names:=["lexer"]) (g.top.fn (157,21) (by decide)) g ao.lim (.cons rfl .nil) (fun env M s₁ hsc hnew hcl hcl' S Z=>?_) (fun Z Z Z=>rfl) (by rfl) (by decide) (by decide +kernel) (by decide +kernel) (by decide +kernel) (by decide +kernel)
 have fe:Fe env 21:=⟨hsc,hcl,hcl'⟩
 have hce:env.cells=[]:=cq fun x=>by rw [hcl'];rfl
 have ao1:Ao (k + 5) (A.deeper env):=ao.deeper
 have S1:=S.lexOpen hnew hl hce
 refine cj (ds:=[]) S1 (fe.own rfl) al (by decide) fun a s₂ ha S2=>?_
 have haL:a∉lexA L:=fun hm=>by
  have:=S1.cx.xlt _ (S1.sub _ (mL hm))
  rw [ha] at this;exact nB this
 have hap:∀ {e:List D},∀ p∈[(a,OD.lst e)],p.1∉lexA L:=fun p hp=>by rw [mS hp];exact haL
 have S2':Sx prog w s env (a::(lexA L++M)) (a::(M++X)) [("ends",.v (.ref a)),("lexer",.v (.ref L.lx))] (aD L st++[(a,.lst [])]) s₂:=(S2.owns fun p hp=>by
  refine mA hp (fun hp=>?_) fun hp=>?_
  ·exact .tail _ (mL hp)
  ·rw [mS hp];exact .head _).cover ⟨rfl,rfl,trivial⟩
 let final:=rLoop n0 ⟨some r0,q0,[]⟩
 have take:∀ (q:List RI) (e:List (Int×List Nat)) (n:Nat) (lt:Tok) (X':List Addr) (τ':List (Str×Bd)) (M':List Addr) (s₃:Shared) {px p1 p2 p3 p4:Pos} {rest:List Stmt} {Q:Flow→Shared→Prop}
   {pl:Sem Bool} (he:eval (.Call (.Attribute (.Name "lexer" p1) "get_token" p2) [] [] p3) env=(do
    let ov ← eval (.Name "lexer" p1) env
    standAt p2.atName
    let (f,first) ← holding [ov] (getMethod ov "get_token" pl)
    callWith p3 f first (backTo p3 (starEach [] env)) [])) (hsw:swapsWith (.Call (.Attribute (.Name "lexer" p1) "get_token" p2) [] [] p3) (some (.Name "state" px)) p4.line env=pure false),q.length≤500000 →
   Sx prog w s env M' X' τ' (aD L ⟨st.line,lt,q.map RI.d,tx [46]⟩++[(a,.lst (e.map endD))]) s₃→τ'.lookup ("lexer":Str)=some (.v (.ref L.lx)) →
   (∀ s₄ lt',Sx prog w s env M' X' (("state",.d (tY (em q e)))::τ') (aD L ⟨st.line,lt',(em q e).q.map RI.d,tZ (em q e)⟩++[(a,.lst ((em q e).ends.map endD))]) s₄→WP prog w (A.deeper env) (execs rest env) Q s₄) →
   WP prog w (A.deeper env) (execs (.Assign [.Name "state" px] (.Call (.Attribute (.Name "lexer" p1) "get_token" p2) [] [] p3) p4::rest) env) Q s₃:=by
  intro q e n lt X' τ' M' s₃ px p1 p2 p3 p4 rest Q pl he hsw hql S3 hτ hcont
  refine aK (wpAny_Assign_Name (eH (pl:=pl) (he:=he) (x:=L.lx) (dx:=L.dx) (f:=70) (i:=102) S3.cx (az (.ref L.lx) S3.cx hτ) (mL (.head _)) (mL (.tail _ (.head _))) (by decide) rfl rfl al fun vs s₄ k₄ h₄=>?_) hsw)
  cases h₄
  have S4:=S3.keep k₄
  cases q with
  | nil =>
   refine wpAny_mono (iI (k:=k) (l:=[46]) (ao1.less (by lia)) S4.cx.gd ok S4.lexAt rfl rfl (by decide)) (fun v s₅ z=>?_) fun Z Z z=>z
   refine br z fun z1 Z1 z3=>?_;clear z;refine ex11 Z1 fun lt' z2=>?_;clear Z1
   rw [nX] at z2 z3
   have S5:=S4.lexTurn z1 z2 hap
   have e1:st.line + (nls [46] - nls [])=st.line:=by
    rw [show nls [46] - nls []=0 by decide];lia
   refine S5.store (fe.own rfl) (b:=.d (.str (tx [46]))) z3 fun s₆ Z S6=>?_
   exact hcont s₆ lt' (by rw [← e1];exact S6)
  | cons r1 q1 =>
   refine wpAny_mono (sF (k:=k) (d:=r1.d) (r:=q1.map RI.d) (ao1.less (by lia)) S4.cx.gd ok S4.lexAt rfl (by rw [List.length_map];simp only [List.length_cons] at hql;lia)) (fun v s₅ z=>?_) fun Z Z z=>z
   refine br z fun z1 z2 z3=>?_;clear z
   have S5:=S4.lexTurn z1 z2 hap
   exact S5.store (fe.own rfl) (b:=.d r1.d) z3 fun s₆ Z S6=>hcont s₆ lt S6
 have hql0:(r0::q0).length≤500000∨n0=0:=by
  refine mI hok fun Z Z h3 Z Z=>?_;clear hok
  simp only [List.length_cons];dsimp only at h3
  lia
 have hn0:n0≠0:=fun e=>by rw [e] at hfin;exact nO hfin.symm
 refine take (r0::q0) [] n0 st.lt _ _ _ s₂ rfl rfl (hql0.resolve_right hn0) (by rw [← hq,← hx];exact S2') rfl fun s₃ lt3 S3=>?_
 refine pO (fun n s'=>∃ t lt,RSok n t∧rLoop n t=final∧Sx prog w s env (a::(lexA L++M)) (a::(M++X)) [("state",.d (tY t)),("ends",.v (.ref a)),("lexer",.v (.ref L.lx))] (aD L ⟨st.line,lt,t.q.map RI.d,tZ t⟩++[(a,OD.lst (t.ends.map endD))]) s')
  n0 ⟨⟨some r0,q0,[]⟩,lt3,hok,rfl,S3⟩ fun n s₄ hJ=>?_
 refine ex23 hJ fun Z1 lt4 Z2 hfl S4=>?_;clear hJ;rcases Z1 with ⟨cur,q,ends⟩;refine mI Z2 fun o1 o2 o3 o4 o5=>?_;clear Z2
 dsimp only at o2 o3 o4
 cases cur with
 | none =>
  refine ⟨false,(aZ S4.cx (aa (.str (tx [46])) S4.cx rfl) aX qA).to (by decide),fun h=>(by exact nB h),fun Z s₅ k₅=>?_⟩
  have hf:final=⟨none,q,ends⟩:=by rw [← hfl];cases n <;> rfl
  have S5:=S4.keep k₅
  refine ca S5 (az (.ref a) S5.cx rfl) fun s₆ v S6 hv=>?_
  subst hv
  have hqn:q=[]:=o5 rfl
  subst hqn
  have o:=S6.cx.own (a,.lst (ends.map endD)) (mR (.head _))
  refine ex22 o.1 fun vs m hg hr=>?_
  have ha0:s.heap.get? a=none:=S1.base.none_back ha
  refine ⟨S6.base.dropTo fun b hb=>?_,⟨lt4,fun p hp=>⟨(S6.cx.own p (mL hp)).1.less fun b hb=>.tail _ (mR hb),hl.inX _ (by rw [← aR L ⟨st.line,lt4,[],tx []⟩];exact List.mem_map_of_mem hp)⟩⟩,?_⟩
  ·refine mC hb (fun Z1=>?_) fun hb=>?_;subst Z1
   ·exact .inr ha0
   ·refine mA hb (fun hb=>?_) fun hb=>?_
    ·exact .inl hb
    ·exact .inr (hnew b hb)
  ·show Rd prog w s₆.heap X (.lst (final.ends.map endD)) (.ref a)
   rw [hf]
   refine Rd.lst_ (fun hm=>?_) hg (hr.less fun b hb=>.tail _ (mR hb))
   have:=g.liv a hm
   rw [ha0] at this;exact nB this
 | some r =>
  have hr:=o1 r rfl
  have hn:n≠0:=fun e=>by
   subst e
   have:final.cur=some r:=by rw [← hfl];rfl
   rw [show final.cur=none from hfin] at this;exact nO this
  obtain ⟨n',rfl⟩:∃ j,n=j + 1:=⟨n - 1,by lia⟩
  have hfl':rLoop n' (et r ⟨some r,q,ends⟩)=final:=hfl
  refine ⟨true,aZ S4.cx (aa r.d S4.cx rfl) aX (l7 ao1),fun Z s₅ k₅=>?_,fun h=>(by exact nB h.symm)⟩
  have S5:=S4.keep k₅
  have hpl:=hr.len
  refine dw S5 [("cut",_),("laid",_),("pieces",_)] (ds:=[.int r.cut,.str (tx r.laid),.tup (r.ps.map fun p=>.str (tx p))]) ao1.h (fun y hy=>by
    simp only [List.mem_cons,List.not_mem_nil,or_false] at hy
    (refine ly hy (fun Z1=>?_) (fun Z1=>?_) fun Z1=>?_ <;> subst Z1) <;> exact fe.own rfl) rfl (aa r.d S5.cx rfl) (fun s₆ S6=>?_) rfl rfl
  let dps:D:=.tup (r.ps.map fun p=>.str (tx p))
  let τb:List (Str×Bd):=[("cut",.d (.int r.cut)),("laid",.d (.str (tx r.laid))),("pieces",.d dps),("ends",.v (.ref a)),("lexer",.v (.ref L.lx))]
  let O:List RI→List (Int×List Nat)→List (Addr×OD):=fun q e=>aD L ⟨st.line,lt4,q.map RI.d,tx [46]⟩++[(a,OD.lst (e.map endD))]
  have S6':Sx prog w s env (a::(lexA L++M)) (a::(M++X)) τb (O q ends) s₆:=S6.cover ⟨rfl,rfl,rfl,rfl,rfl,trivial⟩
  have hlaid:r.laid.length≤100:=Nat.le_trans (Nat.le_add_right _ _) hr.w
  have hpk:∀ {i:Nat},i < r.ps.length→(r.ps.getD i []).length≤100:=fun {i} hi=>by
   have:=eL r.ps i hi
   have:=hr.w
   lia
  have hget:∀ {i:Nat},i < r.ps.length→(r.ps.map fun p=>D.str (tx p))[((i:Nat):Int).toNat]?=some (.str (tx (r.ps.getD i []))):=fun {i} hi=>by
   rw [Int.toNat_natCast,List.getElem?_map,List.getElem?_eq_getElem hi,List.getD_eq_getElem?_getD,List.getElem?_eq_getElem hi];rfl
  have hll:(r.ps.map fun p=>D.str (tx p)).length≤16777216:=by rw [List.length_map];lia
  have fin:∀ (q':List RI) (e':List (Int×List Nat)) (s₇:Shared) {px p1 p2 p3 p4:Pos} {Q:Flow→Shared→Prop} {pl:Sem Bool},et r ⟨some r,q,ends⟩=em q' e'→RSok n' (em q' e')→q'.length≤500000 →
    Sx prog w s env (a::(lexA L++M)) (a::(M++X)) τb (O q' e') s₇→(∀ s'',(∃ m,m < n' + 1∧∃ t lt,RSok m t∧rLoop m t=final∧Sx prog w s env (a::(lexA L++M)) (a::(M++X)) [("state",.d (tY t)),("ends",.v (.ref a)),("lexer",.v (.ref L.lx))] (aD L ⟨st.line,lt,t.q.map RI.d,tZ t⟩++[(a,OD.lst (t.ends.map endD))]) s'')→Q .next s'') →
    eval (.Call (.Attribute (.Name "lexer" p1) "get_token" p2) [] [] p3) env=(do
     let ov ← eval (.Name "lexer" p1) env
     standAt p2.atName
     let (f,first) ← holding [ov] (getMethod ov "get_token" pl)
     callWith p3 f first (backTo p3 (starEach [] env)) [])→swapsWith (.Call (.Attribute (.Name "lexer" p1) "get_token" p2) [] [] p3) (some (.Name "state" px)) p4.line env=pure false →
    WP prog w (A.deeper env) (execs [.Assign [.Name "state" px] (.Call (.Attribute (.Name "lexer" p1) "get_token" p2) [] [] p3) p4] env) Q s₇:=fun q' e' s₇ px p1 p2 p3 p4 Q pl hn' hok' hq' S7 hQ he hsw=>by
   refine take q' e' n' lt4 _ _ _ s₇ he hsw hq' S7 rfl fun s₈ lt8 S8=>ax (hQ _ ?_)
   exact ⟨n',Nat.lt_succ_self _,em q' e',lt8,hok',by rw [← hn'];exact hfl',S8.cover ⟨rfl,rfl,rfl,trivial⟩⟩
  refine ik S6' (decide (r.ps.length=1)) ((aZ S6'.cx (iT S6'.cx (aY _ S6'.cx (fe.gl rfl) rfl) (aH (aa dps S6'.cx rfl) al) hll) (ag (i:=1)) cZ).to (by
   rw [List.length_map];rcases Nat.decEq r.ps.length 1 with h | h
   ·rw [decide_eq_false h];simp;lia
   ·rw [decide_eq_true h];simp;lia)) (fun h1 s₇ S7=>?_) (fun h1 s₇ S7=>?_)
  ·have h1':r.ps.length=1:=of_decide_eq_true h1
   have hNext:et r ⟨some r,q,ends⟩=em q (ends++[(r.cut,r.laid++r.ps.getD 0 [])]):=if_pos h1'
   refine d0 (ω1:=aD L ⟨st.line,lt4,q.map RI.d,tx [46]⟩) (ω2:=[]) S7 rfl rfl (fun p hp=>?_) (d:=endD (r.cut,r.laid++r.ps.getD 0 [])) (bp S7.cx (ds:=[.int r.cut,.str (tx (r.laid++r.ps.getD 0 []))]) (aH (aa (.int r.cut) S7.cx rfl) (aH ((aF S7.cx (aa (.str (tx r.laid)) S7.cx rfl) (cH S7.cx (aa dps S7.cx rfl) (ag (i:=0)) (dq (by decide) (hget (i:=0) (by lia)) hll)) (cM (by rw [aP,aP];have:=hpk (i:=0) (by lia);lia))).to (by rw [b7])) al)) (Nat.le_trans (by decide:2≤1000) (Nat.le_refl _))) (by rw [List.length_map];lia) fun s₈ S8=>ax ?_
   ·rw [List.append_nil] at hp
    intro e
    refine haL ?_
    rw [← e,← aR L ⟨st.line,lt4,q.map RI.d,tx [46]⟩];exact List.mem_map_of_mem hp
   ·have S8':Sx prog w s env (a::(lexA L++M)) (a::(M++X)) τb (O q (ends++[(r.cut,r.laid++r.ps.getD 0 [])])) s₈:=by
     show Sx prog w s env _ _ τb (_++[(a,OD.lst ((ends++_).map endD))]) s₈
     rw [List.map_append];exact S8
    exact fin q _ s₈ hNext (k9 o2 (by lia) (by rw [List.length_append];show ends.length + 1 + n'≤_;lia)) (by lia) S8' (fun s'' z=>z) rfl rfl
  ·have h1':¬ r.ps.length=1:=of_decide_eq_false h1
   have hNext:et r ⟨some r,q,ends⟩=em (q++(List.range r.ps.length).map (cr r)) ends:=if_neg h1'
   refine fE S7 (ds:=aB 0 1 r.ps.length) (bA (n:=r.ps.length) S7.cx ao1.h (aY _ S7.cx (fe.gl rfl) rfl) (aH ((iT S7.cx (aY _ S7.cx (fe.gl rfl) rfl) (aH (aa dps S7.cx rfl) al) hll).to (by rw [List.length_map])) al) (by lia))
    (fun Z=>τb) (fun i=>O (q++(List.range i).map (cr r)) ends) (fun Z Z=>False) (fun i d=>[("k",.d d)]) ⟨rfl,rfl,rfl,rfl,rfl,trivial⟩ (by rw [List.range_zero,List.map_nil,List.append_nil])
    (fun i d Z=>au (fe.own rfl)) (fun i d X' s₈ hd hX S8=>?_) (fun s₈ S8=>?_) (fun Z Z Z h=>h.elim)
   ·refine ai (bG hd) fun hi Z1=>?_;subst Z1
    rw [show (0:Int) + (i:Int) * 1=(i:Int) by lia] at S8
    refine ex22 (hr.piece hi) fun c p hcp Z=>?_
    have hp100:=hpk hi
    have ek:∀ {τ':List (Str×Bd)} {ω':List (Addr×OD)} {s':Shared} {p1 p2 p3:Pos},Cx prog w env X' τ' ω' s'→τ'.lookup ("pieces":Str)=some (Bd.d dps)→τ'.lookup ("k":Str)=some (Bd.d (.int i)) →
      EvD prog w (A.deeper env) env X' s' (.Subscript (.Name "pieces" p1) (.Name "k" p2) p3) (.str (tx (r.ps.getD i []))):=fun c h h' =>
     cH c (aa dps c h) (aa (.int (i:Int)) c h') (dq (by lia) (hget hi) hll)
    refine aC S8 (.str (tx ((r.ps.getD i []).drop 1))) (fe.own rfl) (by
     refine (fW (a:=some 1) (b:=none) S8.cx (ek S8.cx rfl rfl) ?_ ?_ (by rw [aP];lia)).to (by rw [qE])
     ·exact ag
     ·exact trivial) fun s₉ S9=>?_
    let kp:List (List Nat):=if ((r.ps.getD i []).drop 1).length=0 then [] else [(r.ps.getD i []).drop 1]
    have hkl:kp.length≤1:=by show (if _ then _ else _:List (List Nat)).length≤1;split <;> simp
    refine aC S9 (.tup (kp.map fun p=>.str (tx p))) (fe.own rfl) (ux (tH (aa (.str (tx ((r.ps.getD i []).drop 1))) S9.cx rfl) (by rw [aP,List.length_drop];lia)) (fun hc=>?_) (fun hc=>?_)) fun s10 S10=>?_
    ·rw [aP] at hc
     have:kp=[(r.ps.getD i []).drop 1]:=if_neg (fun z=>by rw [z] at hc;exact nB hc)
     rw [this]
     exact bp S9.cx (ds:=[.str (tx ((r.ps.getD i []).drop 1))]) (aH (aa (.str (tx ((r.ps.getD i []).drop 1))) S9.cx rfl) al) (Nat.le_trans (by decide:1≤1000) (Nat.le_refl _))
    ·rw [aP] at hc
     have:kp=[]:=if_pos (by simpa using hc)
     rw [this]
     exact bp S9.cx (ds:=[]) al
    ·have c10:=S10.cx
     refine kE S10 (eH (x:=L.lx) (dx:=L.dx) (f:=77) (i:=103) c10 (az (.ref L.lx) c10 rfl) (mL (.head _)) (mL (.tail _ (.head _))) (by decide) rfl rfl (aH (d:=(cr r i).d) ((bp c10 (ds:=[.int r.cut,.str (tx (r.laid++(r.ps.getD i []).take 1)),.tup (((r.ps.map fun p=>D.str (tx p)).take i++(kp.map fun p=>.str (tx p)))++(r.ps.map fun p=>D.str (tx p)).drop (i + 1))])
      (aH (aa (.int r.cut) c10 rfl) (aH ((aF c10 (aa (.str (tx r.laid)) c10 rfl) (cH c10 (ek c10 rfl rfl) (ag (i:=0)) (ff (by decide) (by rw [aP,hcp];simp only [List.length_cons];lia) (by rw [aP];lia))) (cM (by rw [hcp,k8,aP,aP];simp only [List.length_cons,List.length_nil];lia))).to (by rw [hcp,k8,b7];rfl))
       (aH (aF c10 (aF c10 (j6 c10 (aa dps c10 rfl) (aa (.int (i:Int)) c10 rfl) (by rw [List.length_map];lia) hll) (aa (.tup (kp.map fun p=>.str (tx p))) c10 rfl) (nE (by rw [List.length_take,List.length_map,List.length_map];lia)))
        (iJ c10 (k:=i + 1) (aa dps c10 rfl) ((aF c10 (aa (.int (i:Int)) c10 rfl) (ag (i:=1)) bR).to (by simp)) (by lia) (by rw [List.length_map];lia) hll) (nE (by simp only [List.length_append,List.length_take,List.length_map,List.length_drop];lia))) al))) (Nat.le_trans (by decide:3≤1000) (Nat.le_refl _))).to (by
       show _=D.tup [_,_,.tup ((r.ps.take i++kp++r.ps.drop (i + 1)).map fun p=>.str (tx p))]
       rw [List.map_append,List.map_append,List.map_take,List.map_drop];rfl)) al) fun vs s11 k11 hAA=>?_)
     refine aO hAA fun v Z1 hv=>?_;subst Z1
     have S11:=S10.keep k11
     refine wpAny_mono (nH (k:=k) (ao1.less (by lia)) S11.cx.gd ok S11.lexAt hv (by simp only [List.length_map,List.length_append,List.length_range];lia)) (fun Z s12 z=>?_) fun Z Z z=>z
     have S12:=S11.lexTurn z.1 z.2 hap
     refine ax ?_
     have hqe:(q++(List.range i).map (cr r)).map RI.d++[(cr r i).d]=(q++(List.range (i + 1)).map (cr r)).map RI.d:=by
      rw [List.range_succ];simp
     have S13:Sx prog w s₈ env (a::(lexA L++M)) X' (("kept",Bd.d (.tup (kp.map fun p=>.str (tx p))))::("rest",Bd.d (.str (tx ((r.ps.getD i []).drop 1))))::("k",Bd.d (.int (i:Int)))::τb) (O (q++(List.range (i + 1)).map (cr r)) ends) s12:=by
      show Sx prog w s₈ env (a::(lexA L++M)) X' (("kept",Bd.d (.tup (kp.map fun p=>.str (tx p))))::("rest",Bd.d (.str (tx ((r.ps.getD i []).drop 1))))::("k",Bd.d (.int (i:Int)))::τb) (aD L ⟨st.line,lt4,(q++(List.range (i + 1)).map (cr r)).map RI.d,tx [46]⟩++_) s12
      rw [← hqe];exact S12
     exact S13.cover ⟨rfl,rfl,rfl,rfl,rfl,trivial⟩
   ·rw [aq] at S8
    have hl':(q++(List.range r.ps.length).map (cr r)).length=q.length + r.ps.length:=by simp
    refine ax (fin _ ends s₈ hNext (k9 (fun x hx=>?_) (by rw [hl'];lia) (by lia)) (by rw [hl'];lia) S8 (fun s'' z=>z) rfl rfl)
    refine mA hx (fun hx=>?_) fun hx=>?_
    ·exact o2 x hx
    ·refine mM hx fun i hi Z1=>?_;subst Z1
     exact nW hr (List.mem_range.mp hi)
end
noncomputable def bi (N:Nat) (o:Nat→Nat→Bool) (x y:Nat):Option Bool:=if x < N∧y < N∧x≠y then some (o x y) else none
noncomputable def rY (N:Nat) (o:Nat→Nat→Bool) (p:Array Nat) (lo k:Nat):Nat→Nat→Nat→Option Nat
 | 0,l,_=>some l
 | f + 1,l,r=>if l ≥ r then some l else match bi N o (p.getD (lo + k) 0) (p.getD (lo + (l + r) / 2) 0) with
  | none=>none
  | some true=>rY N o p lo k f l ((l + r) / 2)
  | some false=>rY N o p lo k f ((l + r) / 2 + 1) r
noncomputable def gA (N:Nat) (o:Nat→Nat→Bool) (lo:Nat):Nat→Array Nat→Nat→Option (Array Nat)
 | 0,p,_=>some p
 | f + 1,p,k=>match rY N o p lo k k 0 k with
  | none=>none
  | some l=>gA N o lo f (bubble p (lo + k) (lo + k - (lo + l))) (k + 1)
noncomputable def c4 (κ:SortKind) (it:Array Keyed) (p:Array Nat) (pd:Array (Nat×Nat×Nat)) (g:Nat):SortSt:=SortSt.mk' κ (p.map (kas_item it)) pd g none
section
variable {E:Value→Shared→Prop} {κ:SortKind} {it:Array Keyed} {p:Array Nat} {pd:Array (Nat×Nat×Nat)} {g:Nat} {N:Nat} {o:Nat→Nat→Bool} {I:Shared→Prop}
noncomputable def le (prog:Program) (w:World) (A:Around) (κ:SortKind) (it:Array Keyed) (N:Nat) (o:Nat→Nat→Bool) (I:Shared→Prop):Prop :=
 ∀ i j,i < N→j < N→i≠j→∀ s,I s→wpAny (model prog w) A (keyLt' κ (kas_item it i).1 (kas_item it j).1) (fun b s'=>b=o i j∧I s') (fun Z Z=>False) s
theorem rz {x y:Nat} {b:Bool} (h:bi N o x y=some b):x < N∧y < N∧x≠y∧b=o x y:=by
 unfold bi at h;split at h
 ·rename_i c;exact ⟨c.1,c.2.1,c.2.2,(Option.some.inj h).symm⟩
 ·exact nO h
theorem eW (O:le prog w A κ it N o I) {x y:Nat} {b:Bool} {st:SortSt} {Q:Option Bool→SortSt→Shared→Prop} (hk:kindOf st=κ) (hb:bi N o x y=some b) (hI:I s) (h:∀ s',I s'→Q (some b) st s') :
  kasC (model prog w) A E (lt' (kas_item it x) (kas_item it y)) Q st s:=by
 refine dS (rz hb) fun h1 h2 h3 Z1=>?_;subst Z1
 rw [lt'_eq]
 refine kasC_bind (kasC_get ?_)
 rw [hk]
 refine kasC_bind (kasC_lift (wpAny_attempt (wpAny_mono (O x y h1 h2 h3 s hI) (fun c s' hc=>?_) fun Z Z hF=>hF.elim)))
 refine ai hc fun Z1 hI'=>?_;clear hc;subst Z1
 exact kasC_pure (h s' hI')
theorem aQ {arr:Array Nat} {i:Nat} {st:SortSt} {Q:Keyed→SortSt→Shared→Prop} (hi:i < arr.size) (h:Q (kas_item it (arr.getD i 0)) st s):kasC (model prog w) A E (elem' (arr.map (kas_item it)) i) Q st s:=by
 have e:arr.getD i 0=arr[i]:=by simp [Array.getD,hi]
 rw [elem'_eq]
 rw [show (arr.map (kas_item it))[i]?=some (kas_item it (arr.getD i 0)) by rw [e];simp [hi]]
 exact kasC_pure h
theorem fi (O:le prog w A κ it N o I) {i j:Nat} {b:Bool} {Q:Option Bool→SortSt→Shared→Prop} (hi:i < p.size) (hj:j < p.size) (hb:bi N o (p.getD i 0) (p.getD j 0)=some b) (hI:I s) (h:∀ s',I s'→Q (some b) (c4 κ it p pd g) s') :
  kasC (model prog w) A E (ltAt' i j) Q (c4 κ it p pd g) s:=by
 rw [ltAt'_eq]
 refine kasC_bind (kasC_get ?_)
 show kasC _ _ _ (do let x ← elem' (p.map (kas_item it)) i;let y ← elem' (p.map (kas_item it)) j;lt' x y) Q _ _
 exact kasC_bind (aQ hi (kasC_bind (aQ hj (eW O rfl hb hI h))))
theorem pP {k l:Nat} {Q:Unit→SortSt→Shared→Prop} (h:Q () (c4 κ it (bubble p k (k - l)) pd g) s):kasC (model prog w) A E (moveDown' k l) Q (c4 κ it p pd g) s:=by
 rw [moveDown'_eq]
 refine kasC_modify ?_
 have e1:bubble (p.map (kas_item it)) k (k - l)=(bubble p k (k - l)).map (kas_item it):=kas_swaps_map (kas_item it) (fun i=>k - i) (fun i=>k - i - 1) _ p
 show Q () (SortSt.mk' κ (bubble (p.map (kas_item it)) k (k - l)) pd g none) s
 rw [e1];exact h
theorem j7 (O:le prog w A κ it N o I) {lo n ok:Nat} {q:Array Nat} {Q:Bool→SortSt→Shared→Prop} (hz:lo + n≤p.size) (hq:gA N o lo (n - max ok 1) p (max ok 1)=some q) (hI:I s)
  (h:∀ s',I s'→Q true (c4 κ it q pd g) s'):kasC (model prog w) A E (binarySort' lo n ok) Q (c4 κ it p pd g) s:=by
 revert O hz hq hI h
 revert g N o I lo n ok q Q
 revert prog w A s E κ it p pd;refine @(dr9 ?_);exists w9 _ _,prog,w,A,s,E,κ,it,p,pd
 intro g N o I lo n ok q Q
 revert g N o I lo n ok q Q;refine @(dr9 ?_);exists w9 _ _,g,N,o,I,lo,n,ok,q,Q
 intro O hz hq hI h
 rw [binarySort'_eq]
 refine kasC_bind (kasC_range ?_)
 have len:∀ (f k:Nat) (p':Array Nat) (s':Shared),max ok 1≤k→k + f=max n (max ok 1)→p'.size=p.size→gA N o lo f p' k=some q→I s' →
   ∀ {R:Option Bool×Unit→SortSt→Shared→Prop} {body:Nat→Option Bool×Unit→StateT SortSt Sem (ForInStep (Option Bool×Unit))},(∀ s'',I s''→R (none,()) (c4 κ it q pd g) s'') →
   (∀ (k:Nat) (p':Array Nat) (s':Shared) (l:Nat) (R':ForInStep (Option Bool×Unit)→SortSt→Shared→Prop),k < n→p'.size=p.size→rY N o p' lo k k 0 k=some l→I s' →
    (∀ s'',I s''→R' (.yield (none,())) (c4 κ it (bubble p' (lo + k) (lo + k - (lo + l))) pd g) s'')→kasC (model prog w) A E (body k (none,())) R' (c4 κ it p' pd g) s') →
   kasC (model prog w) A E (forIn (List.range' k f) (none,()) body) R (c4 κ it p' pd g) s':=by
  intro f
  induction f with
  | zero=>intro k p' s' hk0 hk hp h hI R body hR hb;refine sE h fun h=>?_;subst h;exact kasC_nil (hR s' hI)
  | succ f ih =>
   intro k p' s' hk0 hk hp h hI R body hR hb
   rw [List.range'_succ]
   unfold gA at h
   split at h
   ·exact nO h
   ·rename_i l hl
    exact kasC_cons (hb k p' s' l _ (by lia) hp hl hI fun s'' hI''=>ih (k + 1) _ s'' (by exact Nat.le_succ_of_le hk0) (by lia) ((bubble_size _ _ _).trans hp) h hI'' hR hb)
 refine len (n - max ok 1) (max ok 1) p s (Nat.le_refl _) (by lia) rfl hq hI (fun s' hI'=>?_) fun k p' s' l R' hk hp hpl hI' hR'=>?_
 ·exact kasC_pure (h s' hI')
 ·refine kasC_bind (kasC_range ?_)
  have place:∀ (f l r:Nat) (s':Shared) (ls:List Nat) (c:Nat),ls.length=f→r≤k→l≤r→I s'→∀ {R:Option Bool×Nat×Nat→SortSt→Shared→Prop} {body:Nat→Option Bool×Nat×Nat→StateT SortSt Sem (ForInStep (Option Bool×Nat×Nat))},rY N o p' lo k f l r=some c →
    (∀ r s'',I s''→R (none,c,r) (c4 κ it p' pd g) s'') →
    (∀ x l r (s':Shared) (R':ForInStep (Option Bool×Nat×Nat)→SortSt→Shared→Prop),l ≥ r→R' (.done (none,l,r)) (c4 κ it p' pd g) s'→kasC (model prog w) A E (body x (none,l,r)) R' (c4 κ it p' pd g) s') →
    (∀ x l r b (s':Shared) (R':ForInStep (Option Bool×Nat×Nat)→SortSt→Shared→Prop),l < r→r≤k→bi N o (p'.getD (lo + k) 0) (p'.getD (lo + (l + r) / 2) 0)=some b→I s' →
     (∀ s'',I s''→R' (.yield (if b=true then (none,l,(l + r) / 2) else (none,(l + r) / 2 + 1,r))) (c4 κ it p' pd g) s'')→kasC (model prog w) A E (body x (none,l,r)) R' (c4 κ it p' pd g) s') →
    kasC (model prog w) A E (forIn ls (none,l,r) body) R (c4 κ it p' pd g) s':=by
   intro f
   induction f with
   | zero =>
    intro l r s' ls c hls hr hl hI R body h hR hb1 hb2
    cases ls with
    | nil=>(refine sE h fun h=>?_;subst h);exact kasC_nil (hR r s' hI)
    | cons _ _=>simp at hls
   | succ f ih =>
    intro l r s' ls c hls hr hl hI R body h hR hb1 hb2
    cases ls with
    | nil=>simp at hls
    | cons x ls =>
     have hls':ls.length=f:=by simpa using hls
     unfold rY at h
     split at h
     ·rename_i hlr;refine sE h fun h=>?_;subst h
      exact kasC_cons (hb1 x l r s' _ hlr (hR r s' hI))
     ·rename_i hlr
      split at h
      ·exact nO h
      ·rename_i hask
       exact kasC_cons (hb2 x l r true s' _ (by exact Nat.not_le.mp hlr) hr hask hI fun s'' hI''=>ih l _ s'' ls c hls' (by lia) (by lia) hI'' h hR hb1 hb2)
      ·rename_i hask
       exact kasC_cons (hb2 x l r false s' _ (by exact Nat.not_le.mp hlr) hr hask hI fun s'' hI''=>ih _ r s'' ls c hls' hr (by lia) hI'' h hR hb1 hb2)
  refine place k 0 k s' _ l (by rw [List.length_range'];rfl) (Nat.le_refl _) (Nat.zero_le _) hI' hpl (fun r s'' hI''=>?_) (fun x l r s'' R'' hge hR''=>?_) fun x l r b s'' R'' hlt hr hask hI'' hc=>?_
  ·show kasC _ _ _ (do moveDown' (lo + k) (lo + l);pure (ForInStep.yield (none,()))) _ _ _
   exact kasC_bind (pP (kasC_pure (hR' s'' hI'')))
  ·dsimp only
   rw [if_pos hge]
   exact kasC_pure hR''
  ·dsimp only
   rw [if_neg (by lia)]
   refine kasC_bind (fi O (by lia) (by lia) hask hI'' fun s3 hI3=>?_)
   have:=hc s3 hI3
   cases b with
   | true=>simp only [if_true] at this ⊢;exact kasC_pure this
   | false=>simp only [Bool.false_eq_true,if_false] at this ⊢;exact kasC_pure this
end
noncomputable def fj:Bool→Keyed→Array Keyed→Nat→Nat→Nat→StateT SortSt Sem (Option Nat):=sortPriv% PySem.Builtin.gallop
noncomputable def fY:Array Keyed→Array Keyed→StateT SortSt Sem (Array Keyed):=sortPriv% PySem.Builtin.mergeLo
section
variable {E:Value→Shared→Prop} {κ:SortKind} {it:Array Keyed} {p:Array Nat} {pd:Array (Nat×Nat×Nat)} {g:Nat} {N:Nat} {o:Nat→Nat→Bool} {I:Shared→Prop}
theorem eM (O:le prog w A κ it N o I) {lo nrem:Nat} {Q:Option Nat→SortSt→Shared→Prop} (h3:3≤nrem) (hz:lo + nrem≤p.size) (a1:bi N o (p.getD (lo + 1) 0) (p.getD lo 0)=some false) (a2:bi N o (p.getD (lo + 2) 0) (p.getD (lo + 1) 0)=some true)
  (a3:bi N o (p.getD lo 0) (p.getD (lo + 1) 0)=some true) (hI:I s) (h:∀ s',I s'→Q (some 2) (c4 κ it p pd g) s'):kasC (model prog w) A E (countRun' lo nrem) Q (c4 κ it p pd g) s:=by
 revert O h3 hz a1 a2 a3 hI h
 revert pd g N o I lo nrem Q
 revert prog w A s E κ it p;refine @(dr8 ?_);exists w8 _ _,prog,w,A,s,E,κ,it,p
 intro pd g N o I lo nrem Q
 revert pd g N o I lo nrem Q;refine @(dr8 ?_);exists w8 _ _,pd,g,N,o,I,lo,nrem,Q
 intro O h3 hz a1 a2 a3 hI h
 obtain ⟨r,rfl⟩:∃ r,nrem=r + 3:=⟨nrem - 3,by lia⟩
 rw [countRun'_eq]
 dsimp only
 refine kasC_bind (kasC_range ?_)
 show kasC _ _ _ (forIn (1::2::List.range' 3 r) _ _) _ _ _
 refine kasC_cons ?_
 dsimp only
 refine kasC_bind (fi O (by lia) (by lia) a1 hI fun s₁ I1=>?_)
 dsimp only
 rw [if_neg (by simp)]
 refine kasC_pure ?_
 dsimp only
 refine kasC_cons ?_
 dsimp only
 refine kasC_bind (fi O (by lia) (by lia) a2 I1 fun s₂ I2=>?_)
 dsimp only
 rw [if_pos rfl]
 refine kasC_pure ?_
 dsimp only
 rw [if_neg (by rw [beq_iff_eq];exact Nat.ne_of_lt h3),if_pos (by decide)]
 refine kasC_bind (fi O (by lia) (by lia) a3 I2 fun s₃ I3=>?_)
 dsimp only
 rw [if_pos rfl]
 exact kasC_pure (h s₃ I3)
theorem aL {σ α:Type} {M:Model} {c:Prop} [Decidable c] {x y:StateT σ Sem α} {Q:α→σ→Shared→Prop} {st:σ} (hc:c) (h:kasC M A E x Q st s):kasC M A E (if c then x else y) Q st s:=by rw [if_pos hc];exact h
theorem aG {σ α:Type} {M:Model} {c:Prop} [Decidable c] {x y:StateT σ Sem α} {Q:α→σ→Shared→Prop} {st:σ} (hc:¬ c) (h:kasC M A E y Q st s):kasC M A E (if c then x else y) Q st s:=by rw [if_neg hc];exact h
theorem l9 (O:le prog w A κ it N o I) {x:Nat} {arr:Array Nat} {base n:Nat} {st:SortSt} {Q:Option Nat→SortSt→Shared→Prop} (hk:kindOf st=κ) (hn:2≤n) (hz:base + n≤arr.size)
  (a1:bi N o x (arr.getD base 0)=some false) (a2:bi N o x (arr.getD (base + 1) 0)=some true) (hI:I s) (h:∀ s',I s'→Q (some 1) st s') :
  kasC (model prog w) A E (fj false (kas_item it x) (arr.map (kas_item it)) base n 0) Q st s:=by
 revert O hk hn hz a1 a2 hI h
 revert o I x arr base n st Q
 revert prog w A s E κ it N;refine @(dr8 ?_);exists w8 _ _,prog,w,A,s,E,κ,it,N
 intro o I x arr base n st Q
 revert o I x arr base n st Q;refine @(dr8 ?_);exists w8 _ _,o,I,x,arr,base,n,st,Q
 intro O hk hn hz a1 a2 hI h
 obtain ⟨r,rfl⟩:∃ r,n=r + 2:=⟨n - 2,by lia⟩
 refine kasC_bind ?_
 dsimp only
 refine kasC_bind (aQ (by lia) (aG (by simp) (kasC_bind (eW O hk a1 hI fun s₁ I1=>kasC_pure ?_))))
 dsimp only [Option.map]
 refine aL (by rfl) (kasC_bind (kasC_range ?_))
 show kasC _ _ _ (forIn (0::1::List.range' 2 r) _ _) _ _ _
 refine kasC_cons ?_
 dsimp only
 refine aG (by lia) (kasC_bind (kasC_bind (aQ (by lia) (aG (by simp) (kasC_bind (eW O hk (by rw [Nat.zero_add];exact a2) I1 fun s₂ I2=>kasC_pure ?_))))))
 dsimp only [Option.map]
 refine aL (by rfl) (kasC_pure ?_)
 dsimp only
 refine kasC_bind (kasC_range ?_)
 show kasC _ _ _ (forIn (0::1::List.range' 2 r) _ _) _ _ _
 refine kasC_cons ?_
 dsimp only
 refine aL (by exact Nat.succ_pos _) (kasC_pure ?_)
 dsimp only
 rw [show 0 + min 1 (r + 2 - 0)=1 by exact Nat.zero_add _]
 exact kasC_pure (h _ I2)
theorem ma (O:le prog w A κ it N o I) {x:Nat} {arr:Array Nat} {base n:Nat} {st:SortSt} {Q:Option Nat→SortSt→Shared→Prop} (hk:kindOf st=κ) (hn:1≤n) (hz:base + n≤arr.size)
  (a1:bi N o x (arr.getD base 0)=some true) (hI:I s) (h:∀ s',I s'→Q (some 0) st s') :
  kasC (model prog w) A E (fj false (kas_item it x) (arr.map (kas_item it)) base n 0) Q st s:=by
 revert O hk hn hz a1 hI h
 revert o I x arr base n st Q
 revert prog w A s E κ it N;refine @(dr8 ?_);exists w8 _ _,prog,w,A,s,E,κ,it,N
 intro o I x arr base n st Q
 revert o I x arr base n st Q;refine @(dr8 ?_);exists w8 _ _,o,I,x,arr,base,n,st,Q
 intro O hk hn hz a1 hI h
 obtain ⟨r,rfl⟩:∃ r,n=r + 1:=⟨n - 1,by lia⟩
 refine kasC_bind ?_
 dsimp only
 refine kasC_bind (aQ (by lia) (aG (by simp) (kasC_bind (eW O hk a1 hI fun s₁ I1=>kasC_pure ?_))))
 dsimp only [Option.map]
 refine aG (by simp) (kasC_bind (kasC_range ?_))
 show kasC _ _ _ (forIn (0::List.range' 1 r) _ _) _ _ _
 refine kasC_cons ?_
 dsimp only
 refine aL (by exact Nat.succ_pos _) (kasC_pure ?_)
 dsimp only
 refine kasC_bind (kasC_range ?_)
 show kasC _ _ _ (forIn (0::List.range' 1 r) _ _) _ _ _
 refine kasC_cons ?_
 dsimp only
 refine aL (by exact Nat.zero_le _) (kasC_pure ?_)
 dsimp only
 exact kasC_pure (h _ I1)
theorem md (O:le prog w A κ it N o I) {x:Nat} {arr:Array Nat} {base n:Nat} {st:SortSt} {Q:Option Nat→SortSt→Shared→Prop} (hk:kindOf st=κ) (hn:1≤n) (hz:base + n≤arr.size)
  (a1:bi N o (arr.getD base 0) x=some false) (hI:I s) (h:∀ s',I s'→Q (some 0) st s') :
  kasC (model prog w) A E (fj true (kas_item it x) (arr.map (kas_item it)) base n 0) Q st s:=by
 revert O hk hn hz a1 hI h
 revert o I x arr base n st Q
 revert prog w A s E κ it N;refine @(dr8 ?_);exists w8 _ _,prog,w,A,s,E,κ,it,N
 intro o I x arr base n st Q
 revert o I x arr base n st Q;refine @(dr8 ?_);exists w8 _ _,o,I,x,arr,base,n,st,Q
 intro O hk hn hz a1 hI h
 obtain ⟨r,rfl⟩:∃ r,n=r + 1:=⟨n - 1,by lia⟩
 refine kasC_bind ?_
 dsimp only
 refine kasC_bind (aQ (by lia) (aL (by rfl) (eW O hk a1 hI fun s₁ I1=>?_)))
 dsimp only [Option.map]
 refine aG (by simp) (kasC_bind (kasC_range ?_))
 show kasC _ _ _ (forIn (0::List.range' 1 r) _ _) _ _ _
 refine kasC_cons ?_
 dsimp only
 refine aL (by exact Nat.succ_pos _) (kasC_pure ?_)
 dsimp only
 refine kasC_bind (kasC_range ?_)
 show kasC _ _ _ (forIn (0::List.range' 1 r) _ _) _ _ _
 refine kasC_cons ?_
 dsimp only
 refine aL (by exact Nat.zero_le _) (kasC_pure ?_)
 dsimp only
 exact kasC_pure (h _ I1)
theorem me (O:le prog w A κ it N o I) {x:Nat} {arr:Array Nat} {base n:Nat} {st:SortSt} {Q:Option Nat→SortSt→Shared→Prop} (hk:kindOf st=κ) (hn:1≤n) (hz:base + n≤arr.size)
  (a1:bi N o (arr.getD (base + (n - 1)) 0) x=some true) (hI:I s) (h:∀ s',I s'→Q (some n) st s') :
  kasC (model prog w) A E (fj true (kas_item it x) (arr.map (kas_item it)) base n (n - 1)) Q st s:=by
 revert O hk hn hz a1 hI h
 revert o I x arr base n st Q
 revert prog w A s E κ it N;refine @(dr8 ?_);exists w8 _ _,prog,w,A,s,E,κ,it,N
 intro o I x arr base n st Q
 revert o I x arr base n st Q;refine @(dr8 ?_);exists w8 _ _,o,I,x,arr,base,n,st,Q
 intro O hk hn hz a1 hI h
 obtain ⟨r,rfl⟩:∃ r,n=r + 1:=⟨n - 1,by lia⟩
 refine kasC_bind ?_
 dsimp only
 refine kasC_bind (aQ (by exact hz) (aL (by rfl) (eW O hk a1 hI fun s₁ I1=>?_)))
 dsimp only
 refine aL (by rfl) (kasC_bind (kasC_range ?_))
 show kasC _ _ _ (forIn (0::List.range' 1 r) _ _) _ _ _
 refine kasC_cons ?_
 dsimp only
 refine aL (by lia) (kasC_pure ?_)
 dsimp only
 refine kasC_bind (kasC_range ?_)
 show kasC _ _ _ (forIn (0::List.range' 1 r) _ _) _ _ _
 refine kasC_cons ?_
 dsimp only
 refine aL (by lia) (kasC_pure ?_)
 dsimp only
 rw [show r + 1 - 1 + min 1 (r + 1 - (r + 1 - 1))=r + 1 by lia]
 exact kasC_pure (h _ I1)
end
noncomputable def mH (N:Nat) (o:Nat→Nat→Bool) (a b:Array Nat) (mg:Nat):Nat→Array Nat→Nat→Nat→Nat→Nat→Option (Option (Array Nat)×Array Nat×Nat×Nat×Nat×Nat)
 | 0,out,ia,ib,ac,bc=>some (none,out,ia,ib,ac,bc)
 | f + 1,out,ia,ib,ac,bc=>if ¬ (ib < b.size∧ia < a.size) then none else match bi N o (b.getD ib 0) (a.getD ia 0) with
  | none=>none
  | some true=>if (ib + 1 == b.size)=true then some (some (out.push (b.getD ib 0)++a.extract ia++b.extract (ib + 1)),out.push (b.getD ib 0),ia,ib + 1,0,bc + 1)
   else if bc + 1 ≥ mg then some (none,out.push (b.getD ib 0),ia,ib + 1,0,bc + 1) else mH N o a b mg f (out.push (b.getD ib 0)) ia (ib + 1) 0 (bc + 1)
  | some false=>if (ia + 1 + 1 == a.size)=true then some (some (out.push (a.getD ia 0)++b.extract ib++a.extract (ia + 1)),out.push (a.getD ia 0),ia + 1,ib,ac + 1,0)
   else if ac + 1 ≥ mg then some (none,out.push (a.getD ia 0),ia + 1,ib,ac + 1,0) else mH N o a b mg f (out.push (a.getD ia 0)) (ia + 1) ib (ac + 1) 0
section
variable {E:Value→Shared→Prop} {κ:SortKind} {it:Array Keyed} {p:Array Nat} {pd:Array (Nat×Nat×Nat)} {g:Nat} {N:Nat} {o:Nat→Nat→Bool} {I:Shared→Prop}
noncomputable abbrev sK:Type:=Option (Array Keyed)×Array Keyed×Nat×Nat×Nat×Nat
noncomputable def mf (it:Array Keyed) (t:Option (Array Nat)×Array Nat×Nat×Nat×Nat×Nat):sK:=(t.1.map (·.map (kas_item it)),t.2.1.map (kas_item it),t.2.2)
theorem jh {a b:Array Nat} {mg:Nat} {st:SortSt} {body:Nat→sK→StateT SortSt Sem (ForInStep sK)}
  (hb:∀ x out ia ib ac bc c s (R:ForInStep sK→SortSt→Shared→Prop),ib < b.size→ia < a.size→bi N o (b.getD ib 0) (a.getD ia 0)=some c→I s →
   (c=true→∀ s',I s'→R (if (ib + 1 == b.size)=true then .done (mf it (some (out.push (b.getD ib 0)++a.extract ia++b.extract (ib + 1)),out.push (b.getD ib 0),ia,ib + 1,0,bc + 1))
    else if bc + 1 ≥ mg then .done (mf it (none,out.push (b.getD ib 0),ia,ib + 1,0,bc + 1)) else .yield (mf it (none,out.push (b.getD ib 0),ia,ib + 1,0,bc + 1))) st s') →
   (c=false→∀ s',I s'→R (if (ia + 1 + 1 == a.size)=true then .done (mf it (some (out.push (a.getD ia 0)++b.extract ib++a.extract (ia + 1)),out.push (a.getD ia 0),ia + 1,ib,ac + 1,0))
    else if ac + 1 ≥ mg then .done (mf it (none,out.push (a.getD ia 0),ia + 1,ib,ac + 1,0)) else .yield (mf it (none,out.push (a.getD ia 0),ia + 1,ib,ac + 1,0))) st s') →
   kasC (model prog w) A E (body x (mf it (none,out,ia,ib,ac,bc))) R st s) :
  ∀ (f:Nat) (ls:List Nat) (out:Array Nat) (ia ib ac bc:Nat) (s:Shared) (t:Option (Array Nat)×Array Nat×Nat×Nat×Nat×Nat) (R:sK→SortSt→Shared→Prop),ls.length=f→mH N o a b mg f out ia ib ac bc=some t→I s →
   (∀ s',I s'→R (mf it t) st s')→kasC (model prog w) A E (forIn ls (mf it (none,out,ia,ib,ac,bc)) body) R st s:=by
 revert hb
 revert prog w A E it N o I a b mg st body;refine @(dr13 ?_);exists w13 _ _,prog,w,A,E,it,N,o,I,a,b,mg,st,body
 intro hb
 intro f
 induction f with
 | zero =>
  intro ls out ia ib ac bc s t R hls ht hI hR
  cases ls with
  | nil=>(refine sE ht fun ht=>?_;subst ht);exact kasC_nil (hR s hI)
  | cons _ _=>simp at hls
 | succ f ih =>
  intro ls out ia ib ac bc s t R hls ht hI hR
  cases ls with
  | nil=>simp at hls
  | cons x ls =>
   have hls':ls.length=f:=by simpa using hls
   unfold mH at ht
   split at ht
   ·exact nO ht
   ·rename_i hc
    have hc':ib < b.size∧ia < a.size:=Decidable.not_not.mp hc
    split at ht
    ·exact nO ht
    ·rename_i hask
     refine kasC_cons (hb x out ia ib ac bc true s _ hc'.1 hc'.2 hask hI (fun Z s' hI'=>?_) (fun z=>by exact nB z.symm))
     split at ht
     ·rename_i e;rw [if_pos e];refine sE ht fun ht=>?_;subst ht;exact hR s' hI'
     ·rename_i e;rw [if_neg e]
      split at ht
      ·rename_i e';rw [if_pos e'];refine sE ht fun ht=>?_;subst ht;exact hR s' hI'
      ·rename_i e';rw [if_neg e'];exact ih ls _ _ _ _ _ s' t R hls' ht hI' hR
    ·rename_i hask
     refine kasC_cons (hb x out ia ib ac bc false s _ hc'.1 hc'.2 hask hI (fun z=>by exact nB z) (fun Z s' hI'=>?_))
     split at ht
     ·rename_i e;rw [if_pos e];refine sE ht fun ht=>?_;subst ht;exact hR s' hI'
     ·rename_i e;rw [if_neg e]
      split at ht
      ·rename_i e';rw [if_pos e'];refine sE ht fun ht=>?_;subst ht;exact hR s' hI'
      ·rename_i e';rw [if_neg e'];exact ih ls _ _ _ _ _ s' t R hls' ht hI' hR
theorem cS {M:Model} {A:Around} {E:Value→Shared→Prop} {α:Type} {x:StateT SortSt Sem α} {Q:α→SortSt→Shared→Prop} {st:SortSt} {s:Shared}
  (h:∀ K:α→SortSt→Shared→Prop,(∀ a st s,Q a st s→K a st s)→kasC M A E x K st s):kasC M A E x Q st s:=h Q fun Z Z Z z=>z
theorem j8 (O:le prog w A κ it N o I) {a b out1 r:Array Nat} {ia ib ac bc:Nat} {rest:Array Nat×Nat×Nat×Nat×Nat} {Q:Array Keyed→SortSt→Shared→Prop} (hg:1≤g) (h1:mH N o a b g (a.size + b.size) #[b.getD 0 0] 0 1 0 0=some (none,out1,ia,ib,ac,bc))
  (ha:ia + 2 < a.size) (hb:ib + 1 < b.size) (g1:bi N o (b.getD ib 0) (a.getD ia 0)=some true) (g2:bi N o (b.getD (ib + 1) 0) (a.getD ia 0)=some false)
  (h2:mH N o a b (g + 1) (a.size + b.size) ((out1.push (b.getD ib 0)).push (a.getD ia 0)) (ia + 1) (ib + 1) 0 0=some (some r,rest)) (hI:I s)
  (h:∀ s',I s'→Q (r.map (kas_item it)) (c4 κ it p pd (g + 1)) s'):kasC (model prog w) A E (fY (a.map (kas_item it)) (b.map (kas_item it))) Q (c4 κ it p pd g) s:=by
 revert O hg h1 ha hb g1 g2 h2 hI h
 revert I a b out1 r ia ib ac bc rest Q
 revert prog w A s E κ it p pd g N o;refine @(dr12 ?_);exists w12 _ _,prog,w,A,s,E,κ,it,p,pd,g,N,o
 intro I a b out1 r ia ib ac bc rest Q
 revert I a b out1 r ia ib ac bc rest Q;refine @(dr11 ?_);exists w11 _ _,I,a,b,out1,r,ia,ib,ac,bc,rest,Q
 intro O hg h1 ha hb g1 g2 h2 hI h
 obtain ⟨t,ht⟩:∃ t,a.size + b.size=t + 2:=⟨a.size + b.size - 2,by lia⟩
 unfold fY
 refine kasC_bind (kasC_lift (wpAny_rule ?_))
 dsimp only
 refine kasC_bind (aQ (by exact Nat.lt_of_le_of_lt (Nat.zero_le _) hb) ?_)
 rw [Array.size_map,Array.size_map]
 refine aG (by rw [beq_iff_eq];lia) (aG (by rw [beq_iff_eq];lia) (kasC_bind (kasC_get ?_)))
 rw [ht]
 refine kasC_bind (kasC_range ?_)
 show kasC _ _ _ (forIn (0::1::List.range' 2 t) _ _) _ _ _
 refine kasC_cons ?_
 refine cS fun K hK=>?_
 dsimp only
 refine kasC_bind (kasC_range ?_)
 rw [show (#[kas_item it (b.getD 0 0)]:Array Keyed)=#[b.getD 0 0].map (kas_item it) by simp]
 refine cS fun K2 hK2=>?_
 refine jh (it:=it) (mg:=g) (I:=I) (N:=N) (o:=o) (a:=a) (b:=b) ?_ (t + 2) (List.range' 0 (t + 2 - 0)) #[b.getD 0 0] 0 1 0 0 s _ _ (by simp) (by rw [← ht];exact h1) hI fun s₁ I1=>hK2 _ _ _ ?_
 ·intro x out ia ib ac bc c s R hb ha hask hI ht hf
  dsimp only [mf]
  refine kasC_bind (aQ hb (kasC_bind (aQ ha (kasC_bind (eW O rfl hask hI fun s' I'=>?_)))))
  dsimp only
  cases c with
  | true =>
   have hq:=ht rfl s' I'
   refine aL rfl (kasC_bind (aQ hb ?_))
   by_cases e1:(ib + 1 == b.size)=true
   ·rw [if_pos e1] at hq;exact aL e1 (kasC_pure (by simp only [← Array.map_push,← Array.map_append,← Array.map_extract];exact hq))
   ·rw [if_neg e1] at hq
    by_cases e2:bc + 1 ≥ g
    ·rw [if_pos e2] at hq;exact aG e1 (aL e2 (kasC_pure (by simp only [← Array.map_push,← Array.map_append,← Array.map_extract];exact hq)))
    ·rw [if_neg e2] at hq;exact aG e1 (aG e2 (kasC_pure (by simp only [← Array.map_push,← Array.map_append,← Array.map_extract];exact hq)))
  | false =>
   have hq:=hf rfl s' I'
   refine aG (by simp) (kasC_bind (aQ ha ?_))
   by_cases e1:(ia + 1 + 1 == a.size)=true
   ·rw [if_pos e1] at hq;exact aL e1 (kasC_pure (by simp only [← Array.map_push,← Array.map_append,← Array.map_extract];exact hq))
   ·rw [if_neg e1] at hq
    by_cases e2:ac + 1 ≥ g
    ·rw [if_pos e2] at hq;exact aG e1 (aL e2 (kasC_pure (by simp only [← Array.map_push,← Array.map_append,← Array.map_extract];exact hq)))
    ·rw [if_neg e2] at hq;exact aG e1 (aG e2 (kasC_pure (by simp only [← Array.map_push,← Array.map_append,← Array.map_extract];exact hq)))
 ·dsimp only [mf,Option.map]
  refine kasC_bind (kasC_lift (wpAny_rule ?_))
  refine kasC_bind (kasC_range ?_)
  show kasC _ _ _ (forIn (0::1::List.range' 2 t) _ _) _ _ _
  refine kasC_cons ?_
  refine cS fun K3 hK3=>?_
  dsimp only
  refine aL (show g + 1 > 1 by exact Nat.lt_succ_of_le hg) ?_
  refine kasC_bind (kasC_modify ?_)
  refine kasC_bind (aQ (by exact Nat.lt_of_succ_lt hb) ?_)
  refine kasC_bind (ma O rfl (by lia) (by lia) g1 I1 fun s₂ I2=>?_)
  dsimp only
  refine aG (by decide) (kasC_bind (aQ (by exact Nat.lt_of_succ_lt hb) (aG (by rw [beq_iff_eq];exact Nat.ne_of_lt hb) (kasC_bind (aQ (by lia) ?_)))))
  refine kasC_bind (md O rfl (by exact Nat.sub_pos_of_lt hb) (by lia) g2 I2 fun s₃ I3=>?_)
  dsimp only
  refine aG (by decide) (kasC_bind (aQ (by lia) (aG (by rw [beq_iff_eq];exact Nat.ne_of_lt ha) (aL (by decide) (kasC_pure (hK3 _ _ _ ?_))))))
  dsimp only
  refine kasC_bind (kasC_modify (kasC_pure (hK _ _ _ ?_)))
  dsimp only
  refine kasC_cons ?_
  refine cS fun K4 hK4=>?_
  dsimp only
  refine kasC_bind (kasC_range ?_)
  simp only [← Array.map_push]
  refine cS fun K5 hK5=>?_
  refine jh (it:=it) (mg:=g + 1) (st:=c4 κ it p pd (g + 1)) (I:=I) (N:=N) (o:=o) (a:=a) (b:=b) ?_ (t + 2) (List.range' 0 (t + 2 - 0)) ((out1.push (b.getD ib 0)).push (a.getD ia 0)) (ia + 1) (ib + 1) 0 0 s₃ _ _ (by simp) (by rw [← ht];exact h2) I3 fun s₄ I4=>hK5 _ _ _ ?_
  ·intro x out ia ib ac bc c s R hb ha hask hI ht hf
   dsimp only [mf]
   refine kasC_bind (aQ hb (kasC_bind (aQ ha (kasC_bind (eW O rfl hask hI fun s' I'=>?_)))))
   dsimp only
   cases c with
   | true =>
    have hq:=ht rfl s' I'
    refine aL rfl (kasC_bind (aQ hb ?_))
    by_cases e1:(ib + 1 == b.size)=true
    ·rw [if_pos e1] at hq;exact aL e1 (kasC_pure (by simp only [← Array.map_push,← Array.map_append,← Array.map_extract];exact hq))
    ·rw [if_neg e1] at hq
     by_cases e2:bc + 1 ≥ g + 1
     ·rw [if_pos e2] at hq;exact aG e1 (aL e2 (kasC_pure (by simp only [← Array.map_push,← Array.map_append,← Array.map_extract];exact hq)))
     ·rw [if_neg e2] at hq;exact aG e1 (aG e2 (kasC_pure (by simp only [← Array.map_push,← Array.map_append,← Array.map_extract];exact hq)))
   | false =>
    have hq:=hf rfl s' I'
    refine aG (by simp) (kasC_bind (aQ ha ?_))
    by_cases e1:(ia + 1 + 1 == a.size)=true
    ·rw [if_pos e1] at hq;exact aL e1 (kasC_pure (by simp only [← Array.map_push,← Array.map_append,← Array.map_extract];exact hq))
    ·rw [if_neg e1] at hq
     by_cases e2:ac + 1 ≥ g + 1
     ·rw [if_pos e2] at hq;exact aG e1 (aL e2 (kasC_pure (by simp only [← Array.map_push,← Array.map_append,← Array.map_extract];exact hq)))
     ·rw [if_neg e2] at hq;exact aG e1 (aG e2 (kasC_pure (by simp only [← Array.map_push,← Array.map_append,← Array.map_extract];exact hq)))
  ·dsimp only [mf,Option.map]
   refine kasC_pure (hK4 _ _ _ ?_)
   dsimp only
   exact kasC_pure (h s₄ I4)
end
noncomputable def j9 (p r:Array Nat) (sa:Nat):Array Nat:=r.toList.zipIdx.foldl (fun a x=>a.setIfInBounds (sa + x.2) x.1) p
theorem fZ (f:Nat→Keyed) (sa:Nat):∀ (l:List Nat) (i:Nat) (p:Array Nat),((l.map f).zipIdx i).foldl (fun a (x:Keyed×Nat)=>a.setIfInBounds (sa + x.2) x.1) (p.map f)=((l.zipIdx i).foldl (fun a (x:Nat×Nat)=>a.setIfInBounds (sa + x.2) x.1) p).map f
 | [],_,_=>rfl
 | x::l,i,p=>by
  rw [List.map_cons,List.zipIdx_cons,List.zipIdx_cons,List.foldl_cons,List.foldl_cons]
  have e:(p.map f).setIfInBounds (sa + i) (f x)=(p.setIfInBounds (sa + i) x).map f:=by simp
  dsimp only
  rw [e]
  exact fZ f sa l (i + 1) _
section
variable {E:Value→Shared→Prop} {κ:SortKind} {it:Array Keyed} {p:Array Nat} {pd:Array (Nat×Nat×Nat)} {g:Nat} {N:Nat} {o:Nat→Nat→Bool} {I:Shared→Prop}
theorem nZ {σ:Type} {M:Model} {x:σ} {Q:PUnit→σ→Shared→Prop} {st:σ} (h:Q ⟨⟩ x s):kasC M A E (set x:StateT σ Sem PUnit) Q st s:=by
 unfold kasC;rw [StateT.run_set];exact wpAny_pure h
theorem sL {pw:Nat}:((#[(0,38,pw),(38,37,0)]:Array (Nat×Nat×Nat)).setIfInBounds 0 (0,38 + 37,pw)).eraseIdxIfInBounds (0 + 1)=#[(0,75,pw)]:=by
 apply Array.toList_inj.mp;simp [Array.eraseIdxIfInBounds]
theorem kf (O:le prog w A κ it N o I) {pw ia ib ac bc:Nat} {out1 r:Array Nat} {rest:Array Nat×Nat×Nat×Nat×Nat} {Q:Bool→SortSt→Shared→Prop} (hp:p.size=75) (hg:1≤g)
  (a1:bi N o (p.getD 38 0) (p.getD 0 0)=some false) (a2:bi N o (p.getD 38 0) (p.getD 1 0)=some true) (a3:bi N o (p.getD 74 0) (p.getD 37 0)=some true)
  (h1:mH N o (p.extract 1 38) (p.extract 38 75) g 74 #[(p.extract 38 75).getD 0 0] 0 1 0 0=some (none,out1,ia,ib,ac,bc)) (ha:ia + 2 < 37) (hb:ib + 1 < 37)
  (g1:bi N o ((p.extract 38 75).getD ib 0) ((p.extract 1 38).getD ia 0)=some true) (g2:bi N o ((p.extract 38 75).getD (ib + 1) 0) ((p.extract 1 38).getD ia 0)=some false)
  (h2:mH N o (p.extract 1 38) (p.extract 38 75) (g + 1) 74 ((out1.push ((p.extract 38 75).getD ib 0)).push ((p.extract 1 38).getD ia 0)) (ia + 1) (ib + 1) 0 0=some (some r,rest)) (hI:I s)
  (h:∀ s',I s'→Q true (c4 κ it (j9 p r 1) #[(0,75,pw)] (g + 1)) s'):kasC (model prog w) A E (mergeAt' 0) Q (c4 κ it p #[(0,38,pw),(38,37,0)] g) s:=by
 revert O hp hg a1 a2 a3 h1 ha hb g1 g2 h2 hI h
 revert I pw ia ib ac bc out1 r rest Q
 revert prog w A s E κ it p g N o;refine @(dr11 ?_);exists w11 _ _,prog,w,A,s,E,κ,it,p,g,N,o
 intro I pw ia ib ac bc out1 r rest Q
 revert I pw ia ib ac bc out1 r rest Q;refine @(dr10 ?_);exists w10 _ _,I,pw,ia,ib,ac,bc,out1,r,rest,Q
 intro O hp hg a1 a2 a3 h1 ha hb g1 g2 h2 hI h
 have z1:(p.extract 1 38).size=37:=by rw [Array.size_extract,hp];rfl
 have z2:(p.extract 38 75).size=37:=by rw [Array.size_extract,hp];rfl
 unfold mergeAt'
 refine kasC_bind (kasC_get ?_)
 dsimp only
 refine kasC_bind (nZ ?_)
 show kasC _ _ _ _ _ (SortSt.mk' κ (p.map (kas_item it)) ((#[(0,38,pw),(38,37,0)].setIfInBounds 0 (0,38 + 37,pw)).eraseIdxIfInBounds (0 + 1)) g none) s
 rw [sL]
 refine kasC_bind (aQ (by (rw [hp];decide)) ?_)
 refine kasC_bind (l9 (n:=38) (base:=0) O rfl (by exact Nat.le_add_left ..) (by (rw [hp];decide)) a1 a2 hI fun s₁ I1=>?_)
 dsimp only
 refine aG (by decide) (kasC_bind (aQ (by (rw [hp];decide)) ?_))
 refine kasC_bind (me (n:=37) (base:=38) O rfl (by exact Nat.succ_pos _) (by exact Nat.le_of_eq hp.symm) a3 I1 fun s₂ I2=>?_)
 dsimp only
 refine aG (by decide) (aL (by decide) ?_)
 refine kasC_bind ?_
 show kasC _ _ _ (fY ((p.map (kas_item it)).extract 1 38) ((p.map (kas_item it)).extract 38 75)) _ (c4 κ it p #[(0,75,pw)] g) s₂
 rw [← Array.map_extract,← Array.map_extract]
 refine j8 (a:=p.extract 1 38) (b:=p.extract 38 75) O hg (by rw [z1,z2];exact h1) (by exact Nat.lt_of_lt_of_eq ha (z1).symm) (by exact Nat.lt_of_lt_of_eq hb (z2).symm) g1 g2 (by rw [z1,z2];exact h2) I2 fun s₃ I3=>?_
 refine kasC_bind (kasC_modify ?_)
 show kasC _ _ _ _ _ (SortSt.mk' κ ((r.map (kas_item it)).toList.zipIdx.foldl (fun a x=>a.setIfInBounds (1 + x.2) x.1) (p.map (kas_item it))) #[(0,75,pw)] (g + 1) none) s₃
 rw [Array.toList_map,fZ]
 exact kasC_bind (kasC_get (kasC_pure (h s₃ I3)))
end
section
variable {E:Value→Shared→Prop} {κ:SortKind} {it:Array Keyed} {N:Nat} {o:Nat→Nat→Bool} {I:Shared→Prop}
theorem mh (O:le prog w A κ it N o I) {p q:Array Nat} {Q:Unit→SortSt→Shared→Prop} (hp:p.size=13)
  (a1:bi N o (p.getD 1 0) (p.getD 0 0)=some false) (a2:bi N o (p.getD 2 0) (p.getD 1 0)=some true) (a3:bi N o (p.getD 0 0) (p.getD 1 0)=some true) (hb:gA N o 0 11 p 2=some q) (hI:I s)
  (h:∀ st' s',I s'→arrOf st'=q.map (kas_item it)→failedOf st'=none→Q () st' s'):kasC (model prog w) A E sortRuns' Q (c4 κ it p #[] 7) s:=by
 revert O hp a1 a2 a3 hb hI h
 revert prog w A s E κ it N o I p q Q;refine @(dr13 ?_);exists w13 _ _,prog,w,A,s,E,κ,it,N,o,I,p,q,Q
 intro O hp a1 a2 a3 hb hI h
 rw [sortRuns'_eq]
 refine kasC_bind (kasC_get ?_)
 dsimp only
 have hsz:(arrOf (c4 κ it p #[] 7)).size=13:=by
  show (p.map (kas_item it)).size=13
  rw [Array.size_map,hp]
 have hmr:minRun' 13 13 0=13:=by decide +kernel
 rw [hsz,hmr]
 refine kasC_bind (kasC_range ?_)
 show kasC _ _ _ (forIn (0::1::List.range' 2 11) _ _) _ _ _
 refine kasC_cons ?_
 dsimp only
 refine aG (by decide) (kasC_bind (eM O (by decide) (by exact Nat.le_of_eq hp.symm) a1 a2 a3 hI fun s₁ I1=>?_))
 dsimp only
 refine aL (by decide) (kasC_bind (kasC_lift (wpAny_rule ?_)))
 refine kasC_bind (j7 O (by simp only [Nat.sub_zero];exact Nat.le_of_eq hp.symm) hb I1 fun s₂ I2=>?_)
 refine aG (by decide) (kasC_bind (kasC_get ?_))
 rw [show (pendingOf (c4 κ it q #[] 7)).back?=none from rfl]
 dsimp only
 refine kasC_bind (kasC_modify (kasC_pure ?_))
 dsimp only
 refine kasC_cons ?_
 dsimp only
 refine aL (by decide) (kasC_pure ?_)
 dsimp only
 refine kasC_bind (kasC_range ?_)
 show kasC _ _ _ (forIn (0::List.range' 1 12) _ _) _ _ _
 refine kasC_cons (kasC_bind (kasC_get (aL (Nat.le_refl 1) (kasC_pure ?_))))
 dsimp only
 exact kasC_pure (h _ _ I2 rfl rfl)
theorem sM {f:Nat×Nat×Nat→Nat×Nat×Nat} {x:Nat×Nat×Nat}:((#[(0,38,0)]:Array (Nat×Nat×Nat)).modify 0 f).push x=#[f (0,38,0),x]:=by
 apply Array.toList_inj.mp;simp
theorem mi (O:le prog w A κ it N o I) {p0 p1 p2 out1 r:Array Nat} {ia ib ac bc:Nat} {rest:Array Nat×Nat×Nat×Nat×Nat} {Q:Unit→SortSt→Shared→Prop} (hp:p0.size=75) (hp1:p1.size=75) (hp2:p2.size=75)
  (a1:bi N o (p0.getD 1 0) (p0.getD 0 0)=some false) (a2:bi N o (p0.getD 2 0) (p0.getD 1 0)=some true) (a3:bi N o (p0.getD 0 0) (p0.getD 1 0)=some true) (hb1:gA N o 0 36 p0 2=some p1)
  (c1:bi N o (p1.getD 39 0) (p1.getD 38 0)=some false) (c2:bi N o (p1.getD 40 0) (p1.getD 39 0)=some true) (c3:bi N o (p1.getD 38 0) (p1.getD 39 0)=some true) (hb2:gA N o 38 35 p1 2=some p2)
  (e1:bi N o (p2.getD 38 0) (p2.getD 0 0)=some false) (e2:bi N o (p2.getD 38 0) (p2.getD 1 0)=some true) (e3:bi N o (p2.getD 74 0) (p2.getD 37 0)=some true)
  (h1:mH N o (p2.extract 1 38) (p2.extract 38 75) 7 74 #[(p2.extract 38 75).getD 0 0] 0 1 0 0=some (none,out1,ia,ib,ac,bc)) (ha:ia + 2 < 37) (hb:ib + 1 < 37)
  (g1:bi N o ((p2.extract 38 75).getD ib 0) ((p2.extract 1 38).getD ia 0)=some true) (g2:bi N o ((p2.extract 38 75).getD (ib + 1) 0) ((p2.extract 1 38).getD ia 0)=some false)
  (h2:mH N o (p2.extract 1 38) (p2.extract 38 75) 8 74 ((out1.push ((p2.extract 38 75).getD ib 0)).push ((p2.extract 1 38).getD ia 0)) (ia + 1) (ib + 1) 0 0=some (some r,rest)) (hI:I s)
  (h:∀ st' s',I s'→arrOf st'=(j9 p2 r 1).map (kas_item it)→failedOf st'=none→Q () st' s'):kasC (model prog w) A E sortRuns' Q (c4 κ it p0 #[] 7) s:=by
 revert O hp hp1 hp2 a1 a2 a3 hb1 c1 c2 c3 hb2 e1 e2 e3 h1 ha hb g1 g2 h2 hI h
 revert p1 p2 out1 r ia ib ac bc rest Q
 revert prog w A s E κ it N o I p0;refine @(dr11 ?_);exists w11 _ _,prog,w,A,s,E,κ,it,N,o,I,p0
 intro p1 p2 out1 r ia ib ac bc rest Q
 revert p1 p2 out1 r ia ib ac bc rest Q;refine @(dr10 ?_);exists w10 _ _,p1,p2,out1,r,ia,ib,ac,bc,rest,Q
 intro O hp hp1 hp2 a1 a2 a3 hb1 c1 c2 c3 hb2 e1 e2 e3 h1 ha hb g1 g2 h2 hI h
 rw [sortRuns'_eq]
 refine kasC_bind (kasC_get ?_)
 dsimp only
 have hsz:(arrOf (c4 κ it p0 #[] 7)).size=75:=by
  show (p0.map (kas_item it)).size=75
  rw [Array.size_map,hp]
 have hmr:minRun' 75 75 0=38:=by decide +kernel
 rw [hsz,hmr]
 refine kasC_bind (kasC_range ?_)
 show kasC _ _ _ (forIn (0::1::2::List.range' 3 72) _ _) _ _ _
 refine kasC_cons ?_
 dsimp only
 refine aG (by decide) (kasC_bind (eM O (by decide) (by exact Nat.le_of_eq hp.symm) a1 a2 a3 hI fun s₁ I1=>?_))
 dsimp only
 refine aL (by decide) (kasC_bind (kasC_lift (wpAny_rule ?_)))
 refine kasC_bind (j7 O (by rw [hp];decide) hb1 I1 fun s₂ I2=>?_)
 refine aG (by decide) (kasC_bind (kasC_get ?_))
 rw [show (pendingOf (c4 κ it p1 #[] 7)).back?=none from rfl]
 dsimp only
 refine kasC_bind (kasC_modify (kasC_pure ?_))
 show kasC _ _ _ _ _ (c4 κ it p1 #[(0,38,0)] 7) s₂
 refine kasC_cons ?_
 dsimp only
 refine aG (by decide) (kasC_bind (eM O (by decide) (by rw [hp1];decide) c1 c2 c3 I2 fun s₃ I3=>?_))
 dsimp only
 refine aL (by decide) (kasC_bind (kasC_lift (wpAny_rule ?_)))
 refine kasC_bind (j7 O (by rw [hp1];decide) hb2 I3 fun s₄ I4=>?_)
 refine aG (by decide) (kasC_bind (kasC_get ?_))
 rw [show (pendingOf (c4 κ it p2 #[(0,38,0)] 7)).back?=some (0,38,0) from rfl]
 dsimp only
 refine kasC_bind (kasC_range ?_)
 show kasC _ _ _ (forIn (0::List.range' 1 74) _ _) _ _ _
 refine kasC_cons (kasC_bind (kasC_get ?_))
 rw [if_neg (show ¬ (pendingOf (c4 κ it p2 #[(0,38,0)] 7)).size > 1 from (by decide:¬ (1:Nat) > 1))]
 refine kasC_pure ?_
 dsimp only
 refine kasC_bind (kasC_modify (kasC_bind (kasC_modify (kasC_pure ?_))))
 show kasC _ _ _ _ _ (SortSt.mk' κ (p2.map (kas_item it)) (((#[(0,38,0)]:Array (Nat×Nat×Nat)).modify 0 fun x=>(x.1,x.2.1,power' 75 (2 * 0 + 38) (2 * 0 + 38 + 38 + min (75 - (0 + min (75 - 0) 38)) 38) 75)).push (38,37,0)) 7 none) s₄
 rw [sM]
 generalize power' 75 (2 * 0 + 38) (2 * 0 + 38 + 38 + min (75 - (0 + min (75 - 0) 38)) 38) 75=pw
 refine kasC_cons ?_
 dsimp only
 refine aL (by decide) (kasC_pure ?_)
 dsimp only
 refine kasC_bind (kasC_range ?_)
 show kasC _ _ _ (forIn (0::1::List.range' 2 73) _ _) _ (c4 κ it p2 #[(0,38,pw),(38,37,0)] 7) _
 refine kasC_cons (kasC_bind (kasC_get (aG (show ¬ (pendingOf (c4 κ it p2 #[(0,38,pw),(38,37,0)] 7)).size≤1 from (by decide:¬ (2:Nat)≤1)) ?_)))
 refine kasC_bind ?_
 show kasC _ _ _ (mergeAt' 0) _ _ _
 refine kf O hp2 (by decide) e1 e2 e3 h1 ha hb g1 g2 h2 I4 fun s₅ I5=>?_
 refine aG (by decide) (kasC_pure ?_)
 dsimp only
 refine kasC_cons (kasC_bind (kasC_get (aL (Nat.le_refl 1) (kasC_pure ?_))))
 dsimp only
 exact kasC_pure (h _ _ I5 rfl rfl)
end
theorem sN {i:Expr} {ap pos p1 p2 p3 p4:Pos} {k1 k2 k3:Nat} {kvs:List (Str×D)} {k:Str} {Q:Value→Shared→Prop} (c:Cx prog w env X τ ω s) {x:Str} {px:Pos} {a:Addr} (hx:τ.lookup x=some (.v (.ref a))) (hm:(a,OD.dcs kvs)∈ω) (hsys:(a == sysModules)=false)
  (hi:EvD prog w A env X s i (.str k))
  (h:∀ b v s',s.heap.get? b=none→178≤b→Keep [] s s'→OwnAt prog w s'.heap (b::X) b (.dci [])→Rd prog w s'.heap (b::X) ((cK kvs k).getD (.tup [.int 0,.int 0,.val (.ref b)])) v→Q v s')
  (hst:autoParam (∀ rest,starEach (i::rest) env=(false,eval i env)::starEach rest env) e8._auto_1) (hd:autoParam ((x == ("__debug__":Str))=false) fb._auto_1)
  (hbase:autoParam (attributeBase (.Name x px) "get" env (eval (.Name x px) env)=eval (.Name x px) env) cT._auto_1) (hline:autoParam ((ap.endLine == pos.line)=true) cT._auto_1) :
  WP prog w A (eval (.Call (.Attribute (.Name x px) "get" ap) [i,.Tuple [.Constant (.int 0) k1 p1,.Constant (.int 0) k2 p2,.Dict [] [] p3] k3 p4] [] pos) env) Q s:=by
 revert c hx hm hsys hi h hst hd hbase hline
 revert p2 p3 p4 k1 k2 k3 kvs k Q x px a
 revert prog w A env X τ ω s i ap pos p1;refine @(dr12 ?_);exists w12 _ _,prog,w,A,env,X,τ,ω,s,i,ap,pos,p1
 intro p2 p3 p4 k1 k2 k3 kvs k Q x px a
 revert p2 p3 p4 k1 k2 k3 kvs k Q x px a;refine @(dr12 ?_);exists w12 _ _,p2,p3,p4,k1,k2,k3,kvs,k,Q,x,px,a
 intro c hx hm hsys hi h hst hd hbase hline
 refine wpAny_Call_method hbase ?_ hline PySem.F.plainAttrs_dict PySem.F.slot_dict_get PySem.F.type_dict_get ((az (.ref a) c hx hd).go fun v s₁ kk1 h₁=>?_)
 ·rw [hst];rfl
 ·subst h₁
  refine br ((c.keep kk1).own _ hm) fun Z1 hX Z=>?_;refine ex12 Z1 fun ps hg hr=>?_;clear Z1
  refine ⟨hg.typeIs,hg.mapOf.noDict,?_⟩
  refine callWith_of (P:=Kp prog w (.builtin "dict.get")) (by rw [hst];rfl) (fun h x=>x) ?_
  rw [hst]
  refine Calls.evalArgs_plain (Calls.spliced_cons ((hi.keep kk1).go fun vi s₂ k₂ h₂=>?_))
  have kA:=kk1.trans k₂
  refine Calls.spliced_cons (PyProof.Rows.Tuple_ (k:=k3) (Calls.spliced_cons (wpAny_Constant_int (pos:=p1) (k:=k1) ?_)))
  refine Calls.spliced_cons (wpAny_Constant_int (pos:=p2) (k:=k2) ?_)
  refine Calls.spliced_cons (wpAny_Dict_empty ?_)
  refine Calls.spliced_nil ?_
  refine wpAny_newTuple ?_ (by show 3≤_;decide)
  refine Calls.spliced_nil ⟨aJ,?_⟩
  have g₂:=(c.keep kA).gd
  have hb0:s₂.heap.get? s₂.heap.objs.size=none:=af _
  have hb178:178≤s₂.heap.objs.size:=g₂.top.size
  have hD:(s₂.heap.push { cls:=.type "dict",data:=.dict #[] }).DictOf (intKind prog w) s₂.heap.objs.size []:=Heap.DictOf.new _
  generalize hbd:s₂.heap.objs.size=b at hb0 hb178 hD ⊢
  generalize hs3:({ s₂ with heap:=s₂.heap.push { cls:=.type "dict",data:=.dict #[] },toks:=s₂.toks + 1 + 1 }:Shared)=s₃
  have k₃:Keep [] s₂ s₃:=hs3 ▸ Keep.push
  have hD3:s₃.heap.DictOf (intKind prog w) b []:=by rw [← hs3];exact hD
  refine cY hD3 fun ob hob=>?_
  have c₃:=c.keep (kA.trans k₃)
  have g₃:=c₃.gd
  have hsb:s.heap.get? b=none:=kA.none_back hb0
  generalize hs4:({ s₃ with heap:=s₃.heap.push { cls:=.type "tuple",data:=.seq #[Value.int 0 s₂.toks,Value.int 0 (s₂.toks + 1),Value.ref b] } }:Shared)=s₄
  have k₄:Keep [] s₃ s₄:=hs4 ▸ Keep.push (tk:=s₃.toks)
  have ht4:s₄.heap.get? s₃.heap.objs.size=some (ii [Value.int 0 s₂.toks,Value.int 0 (s₂.toks + 1),Value.ref b] 0):=by rw [← hs4];exact Heap.get?_push_size _ rfl
  have kk:=(kA.trans k₃).trans k₄
  have htX:s₃.heap.objs.size∉b::X:=fun hm=>by
   refine mC hm (fun e=>?_) fun hm=>?_
   ·rw [← e,af] at hob;exact nO hob
   ·exact g₃.fresh hm
  have ht:Rd prog w s₄.heap (b::X) (.tup [.int 0,.int 0,.val (.ref b)]) (.ref s₃.heap.objs.size):=Rd.tup_ htX ht4 (RdL.cons Rd.int_ (RdL.cons Rd.int_ (RdL.cons Rd.val_ RdL.nil)))
  refine br (c.own _ hm) fun Z1 hX' Z=>?_;refine ex12 Z1 fun ps' hg0 hr'=>?_;clear Z1
  have hg':s₄.heap.DictOf (PySem.strKind prog w) a ps':=bt hg0 fun o e=>kk.heap _ _ (fun z=>nomatch z) e
  have hB':Rd prog w s₄.heap X (.str k) vi:=h₂.keep (k₃.trans k₄).any
  refine call_meetsIn PySem.F.slot_dict_get hg'.typeIs PySem.F.entry_dict_get (PySem.F.args_dict_get_3 _ _ _) (meets_dict_get_default (PySem.strKind prog w) a (d6 hB') hsys (.ref s₃.heap.objs.size)) ⟨_,hg'.mapOf,?_⟩
  refine h b _ _ hsb hb178 (kk.trans Keep.toks) ⟨[],bt hD3 (fun o e=>k₄.heap _ _ (fun z=>nomatch z) e),by unfold RdI;rfl⟩ ?_
  have hgt:=hr'.get k
  cases eq:cK kvs k with
  | none=>rw [eq] at hgt;rw [hgt];exact ht
  | some d=>rw [eq] at hgt;refine ex12 hgt fun v' hv hrd=>?_;clear hgt;rw [hv];exact (hrd.beyond (Y:=b::X) fun z hz=>(List.mem_cons.mp hz).elim (fun e=>.inr (e ▸ hsb)) .inl).keep (kk.trans Keep.toks).any
noncomputable def rA (sc0 sc:Scope):Bool:=sc.names.all fun p=>!(p.2 == .free) || (sc0.names.lookup p.1 == some .cell || sc0.names.lookup p.1 == some .free)
theorem fk {sc0 sc:Scope} (ce:Ce env sc0) (h:rA sc0 sc=true):(∀ p∈sc.names,p.2=.free→(env.cells.lookup p.1).isSome=true)∧(∀ p∈sc.names,p.2=.free→env.kindOf p.1=some .cell∨env.kindOf p.1=some .free):=by
 have key:∀ p∈sc.names,p.2=.free→(sc0.names.lookup p.1=some .cell∨sc0.names.lookup p.1=some .free):=fun p hp hf=>by
  have:=List.all_eq_true.mp h p hp
  rw [hf] at this
  simp only [beq_self_eq_true,Bool.not_true,Bool.false_or,Bool.or_eq_true,beq_iff_eq] at this
  exact this
 refine ⟨fun p hp hf=>ce.cells _ (key p hp hf),fun p hp hf=>?_⟩
 refine bQ (key p hp hf) (fun h=>?_) fun h=>?_
 ·exact .inl (ce.kinds _ _ h (by decide))
 ·exact ce.free _ h
theorem n4 {o e:Expr} {ap p:Pos} {l:List Int} {k:Int} (c:Cx prog w env X τ ω s) (ho:EvD prog w A env X s o (am l)) (he:EvD prog w A env X s e (.int k)) (hk:k∈l) (hlay:PyData.layable0 (.list (l.map .int))=true)
  (hse:autoParam (∀ rest,starEach (e::rest) env=(false,eval e env)::starEach rest env) e8._auto_1)
  (hbase:autoParam (attributeBase o ("index":Str) env (eval o env)=eval o env) cT._auto_1) (hline:autoParam ((ap.endLine == p.line)=true) cT._auto_1) :
  EvD prog w A env X s (.Call (.Attribute o ("index":Str) ap) [e] [] p) (.int (l.idxOf k:Nat)):=by
 revert c ho he hk hlay hse hbase hline
 revert prog w A env X τ ω s o e ap p l k;refine @(dr14 ?_);exists w14 _ _,prog,w,A,env,X,τ,ω,s,o,e,ap,p,l,k
 intro c ho he hk hlay hse hbase hline
 intro s' kk
 refine dD (T:="list") (b:=.d (am l)) (bs:=[.d (.int k)]) PySem.F.plainAttrs_list PySem.F.slot_list_index PySem.F.type_list_index (ho.keep kk) (aH (he.keep kk) al hse) (fun v s₁ k₁ h₁=>?_) (fun v vs s₁ k₁ h₁ h₂=>?_) (by show 1 < 29;decide) hbase hline
 ·refine Rd.lstE (ds:=l.map .int) h₁ fun a vs n Z1 hx' hg hr=>?_;subst Z1
  exact jH (h:=s₁.heap) hg
 ·refine Rd.lstE (ds:=l.map .int) h₁ fun a us n Z1 hx' hg hr=>?_;subst Z1
  refine aO h₂ fun v Z1 h3=>?_;subst Z1
  refine h3.intE fun t Z1=>?_;subst Z1
  exact index_list_ints (ah hg) (bb hr) hlay hk ⟨k₁.trans Keep.toks,Rd.int_⟩
theorem n5 {e:Expr} {n:Nat} (c:Cx prog w env X τ ω s) (hh:A.handled=none) (he:EvD prog w A env X s e (.rng n)) (hn:n < 2 ^ 62):EvI prog w A env X s e (aB 0 1 n):=fun s' k=>by
 refine (he.keep k).go fun v s₁ k₁ h₁=>?_
 refine ex43 h₁.rng_inv fun r t u v' Z1 hx hr=>?_;subst Z1
 exact ⟨k₁,dN (n:=n) hh (c.keep (k.trans k₁)).gd hr (small_one (by decide) (by decide) (by lia) (by exact Int.ofNat_lt.mpr hn)) (by rw [rangeSize_one];split <;> lia) fun I wr St s₂ k₂ it=>⟨k₂,I,wr,St,rfl,it⟩⟩
theorem rB {f:Str} {q p:Pos} {e:Expr} {n:Nat} (c:Cx prog w env X τ ω s) (hf:EvV prog w A env s (.Name f q) (.type "range")) (he:EvBs prog w A env X s [e] [.d (.int n)]) :
  EvD prog w A env X s (.Call (.Name f q) [e] [] p) (.rng n):=bz hf he (fun s' Z=>cz) fun vs s' k h=>by
 refine aO h fun v Z1 h1=>?_;subst Z1
 refine h1.intE fun t Z1=>?_;subst Z1
 exact call_range_1 ⟨Keep.push,Rd.rng_ (c.keep k).gd.fresh (IsRange.new ..)⟩
noncomputable def eu (n:Nat) (cut:Int):List Int:=(List.range (n + 1)).map fun (p:Nat)=>((List.range p).map fun (j:Nat)=>iX cut j).sum
noncomputable def needL (n:Nat) (o:List Int):List Int:=((List.range n).filter fun (j:Nat)=>decide (((o.idxOf (j:Int):Nat):Int) < ((o.idxOf ((j:Int) + 1):Nat):Int))).map fun (j:Nat)=>(2:Int) ^ j
noncomputable def bE (x:List Nat) (o:List Int):List Nat:=o.map fun j=>x.getD j.toNat 0
noncomputable def eX (n:Nat) (o:List Int) (cut:Nat):List Int:=o.map fun j=>(eu n cut).getD j.toNat 0
noncomputable def f0 (p:List Int) (l:Nat):Bool:=decide (0 < l) && (p.getD (l - 1) 0 == p.getD (p.length - 1) 0)
noncomputable def f7 (p:List Int) (count:Nat):Nat:=b9 (f0 p) (fun l=>l - 1) count count
structure Row where
 laid:Nat
 cut:Nat
 path:List Int
 text:List Nat
deriving DecidableEq
instance:Nonempty Row:=⟨⟨0,0,[],[]⟩⟩
noncomputable def Row.d (r:Row):D:=.tup [.int r.laid,.int r.cut,am r.path,.str (tx r.text)]
structure DE where
 calls:Int
 price:Int
 cs:List (Int×Int)
instance:Nonempty DE:=⟨⟨0,0,[]⟩⟩
noncomputable def dH (n:Nat) (x:List Nat) (o:List Int) (c:Nat):Row:=⟨f7 (eX n o c) (n + 1),c,(eX n o c).take (f7 (eX n o c) (n + 1)),bE x o⟩
noncomputable def iK (n:Nat) (o:List Int) (c:Nat):Bool:=Builtin.bitAnd (c:Int) (needL n o).sum == (needL n o).sum
noncomputable def aS (n:Nat) (x:List Nat) (o:List Int) (st:List (Int×Int)×List Row) (c:Nat):List (Int×Int)×List Row :=
 if iK n o c then (putN st.1 (c:Int) ((getN st.1 (c:Int)).getD 0 + 1),st.2++[dH n x o c]) else st
noncomputable def eY (n:Nat) (o:List Int):Nat:=n - (needL n o).length
noncomputable def n6 (n:Nat) (o:List Int) (e:DE) (cs:List (Int×Int)):DE:=⟨e.calls + 2 ^ eY n o,e.price + 2 ^ eY n o * ((n:Int) + 1 - eY n o) + ((eY n o:Int) * 2 ^ eY n o).fdiv 2,cs⟩
noncomputable def aN (n:Nat) (x:List Nat) (st:List (Str×DE)×List Row) (o:List Int):List (Str×DE)×List Row :=
 let e:=(getV st.1 (tx (bE x o))).getD ⟨0,0,[]⟩
 let r:=(List.range (2 ^ n)).foldl (aS n x o) (e.cs,st.2)
 (putN st.1 (tx (bE x o)) (n6 n o e r.1),r.2)
noncomputable def dueAll (n:Nat) (x:List Nat) (i:Nat):List (Str×DE)×List Row:=((ordersL (n + 1)).take i).foldl (aN n x) ([],[])
theorem ji {n:Nat} {x:List Nat} {i:Nat} {o:List Int} (h:(ordersL (n + 1))[i]?=some o):dueAll n x (i + 1)=aN n x (dueAll n x i) o:=by
 unfold dueAll;exact bv h
theorem lg:∀ (l a:List Nat),List.foldl (fun acc (p:Str)=>acc++(Str.ofString "").cps++p.cps) a.toArray (l.map fun c=>tx [c])=(a++l).toArray
 | [],a=>by simp
 | c::r,a=>by
  rw [List.map_cons,List.foldl_cons]
  have e:a.toArray++(Str.ofString "").cps++(tx [c]).cps=(a++[c]).toArray:=by
   rw [show (Str.ofString "").cps=#[] by decide];simp [tx]
  rw [e,lg r (a++[c])];simp
theorem pQ (l:List Nat):Txt.join (Str.ofString "") (l.map fun c=>tx [c])=tx l:=by
 cases l with
 | nil=>decide
 | cons c r =>
  show Str.mk (List.foldl _ (tx [c]).cps ((r.map fun c=>tx [c])))=_
  have:=lg r [c]
  rw [show (tx [c]).cps=[c].toArray from rfl,this];rfl
noncomputable def n7 (n:Nat) (o:List Int):Bool :=
 o.length == n + 1 && (o.all fun j=>decide (0≤j) && decide (j < (n:Int) + 1)) && ((List.range (n + 1)).all fun (j:Nat)=>o.contains (j:Int)) && PyData.layable0 (.list (o.map .int)) && decide ((needL n o).length≤n)
theorem kh:∀ n∈[2,3],∀ o∈ordersL (n + 1),n7 n o=true:=by decide +kernel
structure OrdF (n:Nat) (o:List Int):Prop where
 len:o.length=n + 1
 rng:∀ j∈o,0≤j∧j < (n:Int) + 1
 all:∀ j:Nat,j≤n→(j:Int)∈o
 lay:PyData.layable0 (.list (o.map .int))=true
 need:(needL n o).length≤n
theorem n8 {n:Nat} {o:List Int} (h:n7 n o=true):OrdF n o:=by
 unfold n7 at h
 simp only [Bool.and_eq_true,beq_iff_eq,decide_eq_true_eq,List.all_eq_true,List.mem_range] at h
 refine ai h fun Z1 h5=>?_;clear h;refine ai Z1 fun Z2 h4=>?_;refine ai Z2 fun Z3 h3=>?_;refine ai Z3 fun h1 h2=>?_;clear Z3;clear Z2;clear Z1
 exact ⟨h1,fun j hj=>h2 j hj,fun j hj=>by simpa using h3 j (by exact Nat.lt_succ_of_le hj),h4,h5⟩
noncomputable def sO (c:Int):D→D
 | .int j=>.int (iX c j)
 | _=>.none
noncomputable def sP (c:Int):D→D
 | .int p=>.int (((List.range p.toNat).map fun (j:Nat)=>iX c j).sum)
 | _=>.none
noncomputable def f8 (n:Nat):D→D
 | .int c=>am (eu n c)
 | _=>.none
theorem pR (c:Int) (p:Nat):(aB 0 1 p).map (sO c)=((List.range p).map fun (j:Nat)=>iX c j).map .int:=by
 unfold aB;rw [List.map_map,List.map_map]
 refine List.map_congr_left fun j Z=>?_
 show D.int (iX c (0 + (j:Int) * 1))=_
 rw [show (0 + (j:Int) * 1)=(j:Int) by lia];rfl
theorem pS (c:Int) (n:Nat):(aB 0 1 (n + 1)).map (sP c)=(eu n c).map .int:=by
 unfold aB eu;rw [List.map_map,List.map_map]
 refine List.map_congr_left fun j Z=>?_
 show D.int _=D.int _
 rw [show (0 + (j:Int) * 1).toNat=j by lia]
noncomputable def eN (b:List (Str×Addr×DE)):List (Str×D):=b.map fun p=>(p.1,.tup [.int p.2.2.calls,.int p.2.2.price,.val (.ref p.2.1)])
noncomputable def mj (b:List (Str×Addr×DE)):List (Addr×OD):=b.map fun p=>(p.2.1,.dci (dI p.2.2.cs))
noncomputable def b8 (b:List (Str×Addr×DE)):List (Str×DE):=b.map fun p=>(p.1,p.2.2)
theorem Sx.vals (S:Sx prog w s₀ env M X τ ω s) {x:Str} {u:Value} (h:τ.lookup x=some (.d (.val u))):Sx prog w s₀ env M X ((x,.v u)::τ) ω s:=by
 refine ⟨{ S.cx with vars:=fun y b hb=>?_ },S.base,S.sub,S.mloc,S.mcel,S.mown⟩
 rw [List.lookup_cons] at hb
 split at hb
 ·rename_i e
  refine sE hb fun hb=>?_;subst hb
  refine ex12 (S.cx.vars x _ h) fun v hv ho=>?_
  have e':y=x:=by simpa using e
  rw [e'];exact ⟨v,hv,(show v=u from (Rd.val_inv (prog:=prog) (w:=w) (h:=s.heap) (X:=X) ho))⟩
 ·exact S.cx.vars y b hb
noncomputable def qG:D→D
 | .int j=>.int (2 ^ j.toNat)
 | _=>.none
noncomputable def n9 (o:List Int):D→Bool
 | .int j=>decide (((o.idxOf j:Nat):Int) < ((o.idxOf (j + 1):Nat):Int))
 | _=>false
theorem pT (n:Nat) (o:List Int):(((aB 0 1 n).filter (n9 o)).map qG)=(needL n o).map .int:=by
 unfold aB needL
 rw [List.filter_map,List.map_map,List.map_map]
 have e:(n9 o ∘ fun (i:Nat)=>D.int (0 + (i:Int) * 1))=fun (j:Nat)=>decide (((o.idxOf (j:Int):Nat):Int) < ((o.idxOf ((j:Int) + 1):Nat):Int)):=by
  funext j
  show decide _=decide _
  rw [show (0 + (j:Int) * 1)=(j:Int) by lia]
 rw [e]
 refine List.map_congr_left fun j Z=>?_
 show D.int _=D.int _
 rw [show (0 + (j:Int) * 1).toNat=j by lia]
noncomputable def sQ (x:List Nat):D→D
 | .int j=>.str (tx [x.getD j.toNat 0])
 | _=>.none
noncomputable def qH (n:Nat) (c:Nat):D→D
 | .int j=>.int ((eu n c).getD j.toNat 0)
 | _=>.none
noncomputable def rC:Stmt:=(fnBody 24).getD 5 (.Pass ⟨0,0,0,0⟩)
noncomputable def lh:List Stmt:=match rC with | .For _ _ b _ _=>b | _=>[]
noncomputable def rD:Stmt:=lh.getD 5 (.Pass ⟨0,0,0,0⟩)
noncomputable def pU:List Stmt:=match rD with | .For _ _ b _ _=>b | _=>[]
theorem g8 (n:Nat) (c:Int):(eu n c).length=n + 1:=by unfold eu;simp
theorem ml {n:Nat} {o:List Int} {c:Nat}:(eX n o c).length=o.length:=by unfold eX;simp
theorem g9 (p:List Int):∀ (f l:Nat),l≤f→f0 p (b9 (f0 p) (fun l=>l - 1) f l)=false
 | 0,l,h=>by
  unfold b9;unfold f0
  rw [show l=0 by exact Nat.sub_eq_zero_of_le h];rfl
 | f + 1,l,h=>by
  unfold b9;split
  ·exact g9 p f (l - 1) (by exact Nat.sub_le_sub_right h _)
  ·rename_i e;simpa using e
noncomputable abbrev og (n:Nat) (x:List Nat) (o:List Int) (a ar ad:Addr) (share:Int) (e:DE):List (Str×Bd):=[("calls",.d (.int e.calls)),("price",.d (.int e.price)),("m",.d (.int (eY n o))),("due",.v (.ref ad)),("cuts",.d (.rng (2 ^ n))),("word",.d (.str (tx x))),("share",.d (.int share)),("need",.d (.int (needL n o).sum)),("callers",.v (.ref a)),("rows",.v (.ref ar)),("homes",.d (.lst ((aB 0 1 (2 ^ n)).map (f8 n)))),("count",.d (.int ((n:Int) + 1))),("order",.d (am o)),("text",.d (.str (tx (bE x o))))]
theorem oh {n c:Nat} {x:List Nat} {o:List Int} {a ar ad:Addr} {share:Int} {e0:DE} {cs:List (Int×Int)} {rw_:List Row} {ω2:List (Addr×OD)} (hn:n=2∨n=3) (hc:c < 2 ^ n) (F:OrdF n o) (ao:Ao 1 A) (fe:Fe env 24)
  (hne:∀ p∈(ar,OD.lst (rw_.map Row.d))::ω2,p.1≠a) (hne':∀ p∈(a,OD.dci [])::ω2,p.1≠ar) (hcs:cs.length≤1000) (hrw:rw_.length≤1000) (S:Sx prog w s₀ env M X (("cut",.d (.int (c:Int)))::og n x o a ar ad share e0) ((a,.dci (dI cs))::(ar,.lst (rw_.map Row.d))::ω2) s) :
  WP prog w A (execs pU env) (fun f s'=>match f with
   | .next | .cont=>Sx prog w s₀ env M X (og n x o a ar ad share e0) ((a,.dci (dI (aS n x o (cs,rw_) c).1))::(ar,.lst ((aS n x o (cs,rw_) c).2.map Row.d))::ω2) s'
   | _=>False) s:=by
 revert hn hc F ao fe hne hne' hcs hrw S
 revert x o a ar ad share e0 cs rw_ ω2
 revert prog w A env M X s s₀ n c;refine @(dr10 ?_);exists w10 _ _,prog,w,A,env,M,X,s,s₀,n,c
 intro x o a ar ad share e0 cs rw_ ω2
 revert x o a ar ad share e0 cs rw_ ω2;refine @(dr10 ?_);exists w10 _ _,x,o,a,ar,ad,share,e0,cs,rw_,ω2
 intro hn hc F ao fe hne hne' hcs hrw S
 have h2n:(2:Nat) ^ n≤8:=by (refine bQ hn (fun Z1=>?_) fun Z1=>?_ <;> subst Z1) <;> decide
 refine ik S (iK n o c) (aZ S.cx (aF S.cx (aa (.int (c:Int)) S.cx rfl) (aa (.int (needL n o).sum) S.cx rfl) mT) (aa (.int (needL n o).sum) S.cx rfl) cZ) (fun hf s₂ S2=>?_) (fun hf s₂ S2=>?_)
 ·have e:aS n x o (cs,rw_) c=(putN cs (c:Int) ((getN cs (c:Int)).getD 0 + 1),rw_++[dH n x o c]):=if_pos hf
  rw [e]
  refine mV (ω1:=[]) (k:=(c:Int)) (d:=.int ((getN cs (c:Int)).getD 0 + 1)) S2 (aF S2.cx ((si (o:=.Constant .none 0 ⟨0,0,0,0⟩) (kvs:=dI cs) (k:=(c:Int)) (df:=.int 0) S2.cx rfl (.head _) (S2.sysI (.head _)) (aH (aa (.int (c:Int)) S2.cx rfl) (aH ag al))).to (by rw [d8];cases getN cs (c:Int) <;> rfl)) (ag (i:=1)) bR) (az (.ref a) S2.cx rfl) (aa (.int (c:Int)) S2.cx rfl) rfl hne (by rw [List.length_map];exact Nat.le_add_left_of_le hcs) fun s₃ S3=>?_
  rw [fg] at S3
  have hho:∀ {cenv:Env} {X':List Addr} {τ':List (Str×Bd)} {ω':List (Addr×OD)} {s':Shared} {p q r:Pos},Cx prog w cenv X' τ' ω' s'→τ'.lookup ("homes":Str)=some (Bd.d (.lst ((aB 0 1 (2 ^ n)).map (f8 n))))→τ'.lookup ("cut":Str)=some (Bd.d (.int (c:Int)))→EvD prog w A cenv X' s' (.Subscript (.Name "homes" p) (.Name "cut" q) r) (am (eu n c)):=fun cc h1 h2=>by
   refine cH cc (aa _ cc h1) (aa _ cc h2) (dM (by exact Int.natCast_nonneg _) ?_ (by rw [List.length_map,aq];exact Nat.le_add_left_of_le h2n))
   rw [Int.toNat_natCast,List.getElem?_map]
   simp only [aB,List.getElem?_map,List.getElem?_range hc,Option.map_some]
   rw [show (0 + (c:Int) * 1)=(c:Int) by lia];rfl
  refine kG (τf:=[("homes",.d (.lst ((aB 0 1 (2 ^ n)).map (f8 n)))),("cut",.d (.int (c:Int)))]) (ds:=o.map .int) (σ:=fun d=>[("j",.d d)]) (pz:=fun Z=>true) (g:=qH n c) S3 (fe.own rfl) (cQ fe (by decide +kernel) rfl rfl rfl) (bu S3.cx ao.h (aa (am o) S3.cx rfl)) ?_ (by decide +kernel) fun s₄ S4=>?_
  ·refine ⟨(aE fe (by decide +kernel)).1,(aE fe (by decide +kernel)).2,by decide +kernel,by decide +kernel,⟨rfl,rfl,trivial⟩,by rfl,by rw [List.length_map,F.len];lia,fun d hd=>⟨rfl,rfl,trivial⟩,fun d hd cenv M ce=>au (ce.st rfl),fun d hd cenv X'' ω s'' hX'' ce c=>bH,fun d hd Z cenv X'' ω s'' hX'' ce cc=>?_⟩
   refine mM hd fun j hj Z1=>?_;subst Z1
   refine ai (F.rng j hj) fun j0 j1=>?_
   refine cH cc (hho cc rfl rfl) (aa (.int j) cc rfl) (dM j0 ?_ (by rw [List.length_map,g8];lia))
   have hl:j.toNat < (eu n c).length:=by rw [g8];lia
   rw [List.getElem?_map,List.getElem?_eq_getElem hl]
   show some (D.int _)=some (D.int _)
   rw [List.getD_eq_getElem?_getD,List.getElem?_eq_getElem hl];rfl
  have hpe:((o.map D.int).filter fun Z=>true).map (qH n c)=(eX n o c).map .int:=by
   rw [List.filter_eq_self.mpr (fun Z Z=>rfl),List.map_map,eX,List.map_map];rfl
  rw [hpe] at S4
  refine aC S4 (.int ((n:Int) + 1)) (fe.own rfl) (aa (.int ((n:Int) + 1)) S4.cx rfl) fun s₅ S5=>?_
  let pl:=eX n o c
  have hpl:pl.length=n + 1:=by rw [ml,F.len]
  let τl:Nat→List (Str×Bd):=fun l=>("laid",.d (.int (l:Int)))::("path",.d (am pl))::("cut",.d (.int (c:Int)))::og n x o a ar ad share e0
  have hgp:∀ {i:Nat},i < n + 1→(pl.map D.int)[i]?=some (.int (pl.getD i 0)):=fun {i} hi=>by
   have hl:i < pl.length:=by exact Nat.lt_of_lt_of_eq hi (hpl).symm
   rw [List.getElem?_map,List.getElem?_eq_getElem hl,List.getD_eq_getElem?_getD,List.getElem?_eq_getElem hl];rfl
  refine kK (n + 1) (f0 pl) (fun l=>l - 1) (fun l=>l≤n + 1) (n + 1) (g9 pl _ _ (Nat.le_refl _)) (Nat.le_refl _) (fun l h Z=>by exact Nat.le_trans (Nat.sub_le ..) h) S5 τl (fun Z=>_) (fun Z Z=>False) (by
   refine ⟨?_,rfl,rfl,rfl,rfl,rfl,rfl,rfl,rfl,rfl,rfl,rfl,rfl,rfl,rfl,rfl,rfl,trivial⟩
   show some (Bd.d (.int ((n:Int) + 1)))=some (Bd.d (.int ((n + 1:Nat):Int)));simp) rfl (fun l s' hl S'=>?_) (fun l s' hl hcl S'=>?_) (fun s' hl S'=>?_) (fun Z Z Z h=>h.elim)
  ·refine (kL (y:=pl.getD (l - 1) 0 == pl.getD (pl.length - 1) 0) (aZ S'.cx (aa (.int (l:Int)) S'.cx rfl) (ag (i:=0)) r9) fun h0=>?_).to (by unfold f0;simp)
   have h0':0 < l:=by simpa using h0
   refine aZ S'.cx (cH S'.cx (aa (am pl) S'.cx rfl) (aF S'.cx (aa (.int (l:Int)) S'.cx rfl) (ag (i:=1)) cO) (dM (by lia) (d:=.int (pl.getD (l - 1) 0)) ?_ (by rw [List.length_map];lia))) (cH S'.cx (aa (am pl) S'.cx rfl) (o7 (ag (i:=1))) (jC (by decide) (d:=.int (pl.getD (pl.length - 1) 0)) ?_ (by rw [List.length_map];lia) (by rw [List.length_map];lia))) cZ
   ·rw [show ((l:Int) - 1).toNat=l - 1 by lia];exact hgp (by lia)
   ·rw [List.length_map,show (-1 + (pl.length:Int)).toNat=pl.length - 1 by lia];exact hgp (by lia)
  ·have h0:0 < l:=by unfold f0 at hcl;simp only [Bool.and_eq_true,decide_eq_true_eq] at hcl;exact hcl.1
   refine jB S' (a:=.int (l:Int)) (b:=.int 1) (d:=.int ((l:Int) - 1)) (fe.own rfl) rfl (ag (i:=1)) qU fun s'' S''=>ax (S''.cover ⟨?_,rfl,rfl,rfl,rfl,rfl,rfl,rfl,rfl,rfl,rfl,rfl,rfl,rfl,rfl,rfl,rfl,trivial⟩)
   show some (Bd.d (.int ((l:Int) - 1)))=some (Bd.d (.int ((l - 1:Nat):Int)))
   rw [show ((l:Int) - 1)=((l - 1:Nat):Int) by lia]
  ·have hll:f7 pl (n + 1)≤n + 1:=hl
   refine d0 (ω1:=[(a,.dci (dI _))]) (d:=(dH n x o c).d) S' rfl rfl ?_ (bp S'.cx (ds:=[.int (f7 pl (n + 1):Nat),.int (c:Int),am (pl.take (f7 pl (n + 1))),.str (tx (bE x o))]) (aH (aa _ S'.cx rfl) (aH (aa (.int (c:Int)) S'.cx rfl) (aH ?_ (aH (aa (.str (tx (bE x o))) S'.cx rfl) al)))) (Nat.le_trans (by decide:4≤1000) (Nat.le_refl _))) (by rw [List.length_map];exact Nat.le_add_left_of_le hrw) fun s'' S''=>ax (ax ?_)
   ·intro p hp
    refine mA hp (fun hp=>?_) fun hp=>?_
    ·rw [mS hp];exact hne' (a,.dci []) (.head _)
    ·exact hne' p (.tail _ hp)
   ·refine (fD (ds:=pl.map .int) (a:=none) (b:=some ((f7 pl (n + 1):Nat):Int)) (lo:=none) (hi:=some _) S'.cx (aa (am pl) S'.cx rfl) trivial (aa (.int ((f7 pl (n + 1):Nat):Int)) S'.cx rfl) (fun Z h=>nomatch h) (fun x h=>by (refine sE h fun h=>?_;subst h);exact Int.natCast_nonneg _) (.inl rfl) (by rw [List.length_map];lia)).to ?_
    show D.lst ((pl.map D.int).take _)=_
    rw [Int.toNat_natCast,← List.map_take]
   ·have e2:rw_.map Row.d++[(dH n x o c).d]=(rw_++[dH n x o c]).map Row.d:=by rw [List.map_append];rfl
    rw [e2] at S''
    exact S''.cover ⟨rfl,rfl,rfl,rfl,rfl,rfl,rfl,rfl,rfl,rfl,rfl,rfl,rfl,rfl,trivial⟩
 ·have e:aS n x o (cs,rw_) c=(cs,rw_):=if_neg (by rw [hf];simp)
  rw [e]
  exact ax (ax (S2.cover ⟨rfl,rfl,rfl,rfl,rfl,rfl,rfl,rfl,rfl,rfl,rfl,rfl,rfl,rfl,trivial⟩))
theorem f9 {K V W:Type} [DecidableEq K] (f:V→W) (l:List (K×V)) (k:K) (v:V):(putN l k v).map (fun p=>(p.1,f p.2))=putN (l.map fun p=>(p.1,f p.2)) k (f v):=by
 unfold putN
 have e:(l.map fun p=>(p.1,f p.2)).any (fun kv=>kv.1=k)=l.any (fun kv=>kv.1=k):=by rw [List.any_map];rfl
 rw [e]
 split
 ·rw [List.map_map,List.map_map]
  refine List.map_congr_left fun p Z=>?_
  show (_,_)=if p.1=k then (p.1,f v) else (p.1,f p.2)
  split <;> rename_i h <;> simp [h]
 ·rw [List.map_append];rfl
theorem gc {K V W:Type} [DecidableEq K] (f:V→W) (l:List (K×V)) (k:K):getV (l.map fun p=>(p.1,f p.2)) k=(getV l k).map f:=by
 unfold getV
 rw [List.find?_map]
 cases h:l.find? (fun kv=>kv.1=k) with
 | none =>
  have:l.find? ((fun (kv:K×W)=>decide (kv.1=k)) ∘ fun (p:K×V)=>(p.1,f p.2))=none:=h
  rw [this];rfl
 | some p =>
  have:l.find? ((fun (kv:K×W)=>decide (kv.1=k)) ∘ fun (p:K×V)=>(p.1,f p.2))=some p:=h
  rw [this];rfl
theorem hH {K V:Type} [DecidableEq K] {l:List (K×V)} {k:K} (h:getV l k=none):∀ p∈l,p.1≠k:=fun p hp e=>by
 unfold getV at h
 rw [Option.map_eq_none_iff,List.find?_eq_none] at h
 exact h p hp (by simpa using e)
theorem ev {α β:Type} {f:α→β}:∀ {l:List α},(l.map f).Nodup→∀ {p q:α},p∈l→q∈l→f p=f q→p=q
 | [],_,_,_,h,_,_=>nomatch h
 | a::r,h,p,q,hp,hq,e=>by
  rw [List.map_cons,List.nodup_cons] at h
  refine mC hp (fun h1=>?_) fun h1=>?_ <;> refine mC hq (fun h2=>?_) fun h2=>?_
  ·rw [h1,h2]
  ·exact absurd (by rw [← h1,e];exact List.mem_map_of_mem h2) h.1
  ·exact absurd (by rw [← h2,← e];exact List.mem_map_of_mem h1) h.1
  ·exact ev h.2 h1 h2 e
structure PutF (b b':List (Str×Addr×DE)) (t:Str) (bn a:Addr) (v:DE):Prop where
 keys:(b'.map (·.1)).Nodup
 adr:∀ p∈b',p.2.1=bn∨∃ q∈b,p.2.1=q.2.1
 nod:(b'.map (·.2.1)).Nodup
 mem:∀ p∈b',p=(t,a,v)∨(p∈b∧p.1≠t)
 ne:∀ p∈b,p.1≠t→p.2.1≠a
theorem pV {b:List (Str×Addr×DE)} {t:Str} {bn:Addr} {v:DE} (hk:(b.map (·.1)).Nodup) (hn:(b.map (·.2.1)).Nodup) (hf:∀ p∈b,p.2.1≠bn) :
  PutF b (putN b t (((getV b t).getD (bn,⟨0,0,[]⟩)).1,v)) t bn ((getV b t).getD (bn,⟨0,0,[]⟩)).1 v:=by
 revert hk hn hf
 revert b t bn v;refine @(dr4 ?_);exists w4 _ _,b,t,bn,v
 intro hk hn hf
 cases h:getV b t with
 | none =>
  have hno:=hH h
  have e:b.any (fun kv=>kv.1=t)=false:=by
   rw [List.any_eq_false];intro p hp;simpa using hno p hp
  have e':putN b t (bn,v)=b++[(t,bn,v)]:=by unfold putN;rw [e];rfl
  show PutF b (putN b t (bn,v)) t bn bn v
  rw [e']
  refine ⟨?_,fun p hp=>?_,?_,fun p hp=>?_,fun p hp Z=>hf p hp⟩
  ·rw [List.map_append,List.nodup_append]
   refine ⟨hk,by simp,fun x hx y hy=>?_⟩
   refine mM hx fun p hp Z1=>?_;subst Z1
   simp only [List.map_cons,List.map_nil,List.mem_singleton] at hy
   rw [hy];exact hno p hp
  ·refine mA hp (fun hp=>?_) fun hp=>?_
   ·exact .inr ⟨p,hp,rfl⟩
   ·rw [mS hp];exact .inl rfl
  ·rw [List.map_append,List.nodup_append]
   refine ⟨hn,by simp,fun x hx y hy=>?_⟩
   refine mM hx fun p hp Z1=>?_;subst Z1
   simp only [List.map_cons,List.map_nil,List.mem_singleton] at hy
   rw [hy];exact hf p hp
  ·refine mA hp (fun hp=>?_) fun hp=>?_
   ·exact .inr ⟨hp,hno p hp⟩
   ·exact .inl (mS hp)
 | some ae =>
  have hm:(t,ae)∈b:=bZ h
  have e:b.any (fun kv=>kv.1=t)=true:=List.any_eq_true.mpr ⟨_,hm,by simp⟩
  have e':putN b t (ae.1,v)=b.map (fun kv=>if kv.1=t then (kv.1,(ae.1,v)) else kv):=by unfold putN;rw [e];rfl
  show PutF b (putN b t (ae.1,v)) t bn ae.1 v
  have hu:∀ p∈b,p.1=t→p=(t,ae):=fun p hp e=>ev hk hp hm e
  rw [e']
  have hka:(b.map (fun kv=>if kv.1=t then (kv.1,(ae.1,v)) else kv)).map (·.1)=b.map (·.1):=by
   rw [List.map_map];refine List.map_congr_left fun p Z=>?_
   show (if p.1=t then (p.1,(ae.1,v)) else p).1=p.1
   split <;> rfl
  have hna:(b.map (fun kv=>if kv.1=t then (kv.1,(ae.1,v)) else kv)).map (·.2.1)=b.map (·.2.1):=by
   rw [List.map_map];refine List.map_congr_left fun p hp=>?_
   show (if p.1=t then (p.1,(ae.1,v)) else p).2.1=p.2.1
   split
   ·rename_i e;rw [hu p hp e]
   ·rfl
  refine ⟨by rw [hka];exact hk,fun p hp=>?_,by rw [hna];exact hn,fun p hp=>?_,fun p hp hne e=>?_⟩
  ·have:p.2.1∈b.map (·.2.1):=by rw [← hna];exact List.mem_map_of_mem hp
   refine mM this fun q hq e=>?_
   exact .inr ⟨q,hq,e.symm⟩
  ·refine mM hp fun q hq Z1=>?_;subst Z1
   split
   ·rename_i e;rw [e];exact .inl rfl
   ·rename_i e;exact .inr ⟨hq,e⟩
  ·exact hne (by rw [ev hn hp hm e])
noncomputable abbrev ki (n:Nat) (x:List Nat) (share:Int) (ar ad:Addr):List (Str×Bd):=[("due",.v (.ref ad)),("rows",.v (.ref ar)),("homes",.d (.lst ((aB 0 1 (2 ^ n)).map (f8 n)))),("cuts",.d (.rng (2 ^ n))),("count",.d (.int ((n:Int) + 1))),("word",.d (.str (tx x))),("share",.d (.int share))]
noncomputable def dJ (ar ad:Addr) (b:List (Str×Addr×DE)) (rows:List Row):List (Addr×OD):=(ad,.dcs (eN b))::(ar,.lst (rows.map Row.d))::mj b
theorem ew {n:Nat} {x:List Nat} {o:List Int}:∀ (l:List Nat) (st:List (Int×Int)×List Row),(l.foldl (aS n x o) st).1.length≤st.1.length + l.length∧(l.foldl (aS n x o) st).2.length≤st.2.length + l.length
 | [],st=>⟨Nat.le_refl _,Nat.le_refl _⟩
 | c::l,st=>by
  have h:=ew (n:=n) (x:=x) (o:=o) l (aS n x o st c)
  have h1:(aS n x o st c).1.length≤st.1.length + 1:=by
   unfold aS;split
   ·exact bY _ _ _
   ·exact Nat.le_succ _
  have h2:(aS n x o st c).2.length≤st.2.length + 1:=by
   unfold aS;split
   ·rw [List.length_append];exact Nat.le_refl _
   ·exact Nat.le_succ _
  rw [List.foldl_cons,List.length_cons]
  exact ⟨by lia,by lia⟩
theorem pW {x:List Nat} {j:Int} (h0:0≤j) (h1:j < x.length):Txt.item (tx x) j=tx [x.getD j.toNat 0]:=by
 have hl:j.toNat < x.length:=by lia
 unfold Txt.item tx
 simp [Txt.charAt,seqIndex?,Str.length,h0,h1,hl,Int.not_lt.mpr h0,List.getD_eq_getElem?_getD]
theorem jj:∀ l:List Nat,((l.map fun c=>tx [c]).map (·.length)).sum=l.length
 | []=>rfl
 | c::r=>by
  have:=jj r
  rw [List.map_cons,List.map_cons,List.sum_cons,List.length_cons,this,aP];simp;exact Nat.add_comm ..
structure DueJ (ar ad:Addr) (b:List (Str×Addr×DE)) (rows:List Row) (i:Nat):Prop where
 keys:(b.map (·.1)).Nodup
 nod:(b.map (·.2.1)).Nodup
 ner:∀ p∈b,p.2.1≠ar
 ned:∀ p∈b,p.2.1≠ad
 len:b.length≤i
 rows:rows.length≤8 * i
 cs:∀ p∈b,p.2.2.cs.length≤8 * i
theorem oi {n i:Nat} {x:List Nat} {share:Int} {o:List Int} {ar ad:Addr} {b:List (Str×Addr×DE)} {rows:List Row} (hn:n=2∨n=3) (hx:x.length=n + 1) (F:OrdF n o) (ao:Ao 1 A) (fe:Fe env 24) (J:DueJ ar ad b rows i) (hi:i≤30) (hra:ad≠ar)
  (S:Sx prog w s env M X (("order",.d (am o))::ki n x share ar ad) (dJ ar ad b rows) s) :
  WP prog w A (execs lh env) (fun f s'=>match f with
   | .next | .cont=>∃ b' bn,s.heap.get? bn=none∧DueJ ar ad b' (aN n x (b8 b,rows) o).2 (i + 1)∧b8 b'=(aN n x (b8 b,rows) o).1∧(∀ p∈b',p.2.1=bn∨∃ q∈b,p.2.1=q.2.1)∧Sx prog w s env (bn::M) (bn::X) (ki n x share ar ad) (dJ ar ad b' (aN n x (b8 b,rows) o).2) s'
   | _=>False) s:=by
 revert hn hx F ao fe J hi hra S
 revert i x share o ar ad b rows
 revert prog w A env M X s n;refine @(dr8 ?_);exists w8 _ _,prog,w,A,env,M,X,s,n
 intro i x share o ar ad b rows
 revert i x share o ar ad b rows;refine @(dr8 ?_);exists w8 _ _,i,x,share,o,ar,ad,b,rows
 intro hn hx F ao fe J hi hra S
 have h2n:(2:Nat) ^ n≤8:=by (refine bQ hn (fun Z1=>?_) fun Z1=>?_ <;> subst Z1) <;> decide
 have hol:(o.map D.int).length≤16777216:=by rw [List.length_map,F.len];lia
 refine kG (τf:=[("order",.d (am o))]) (ds:=aB 0 1 n) (σ:=fun d=>[("j",.d d)]) (pz:=n9 o) (g:=qG) S (fe.own rfl) (cQ fe (by decide +kernel) rfl rfl rfl)
  (bA (n:=n) S.cx ao.h (aY _ S.cx (fe.gl rfl) rfl) (aH ((aF S.cx (aa (.int ((n:Int) + 1)) S.cx rfl) (ag (i:=1)) cO).to (congrArg D.int (by lia))) al) (by lia)) ?_ (by decide +kernel) fun s₂ S2=>?_
 ·refine ⟨(aE fe (by decide +kernel)).1,(aE fe (by decide +kernel)).2,by decide +kernel,by decide +kernel,⟨rfl,trivial⟩,by rfl,by rw [aq];lia,fun d hd=>⟨rfl,trivial⟩,fun d hd cenv M ce=>au (ce.st rfl),fun d hd cenv X'' ω s'' hX'' ce c=>?_,fun d hd Z cenv X'' ω s'' hX'' ce c=>?_⟩
  ·refine mM hd fun j hj Z1=>?_;subst Z1
   have hj':j < n:=List.mem_range.mp hj
   rw [show (0 + (j:Int) * 1)=(j:Int) by lia] at c ⊢
   refine qT (aZ c (n4 c (aa (am o) c rfl) (aa (.int (j:Int)) c rfl) (F.all j (by exact Nat.le_of_lt hj')) F.lay) (n4 (k:=(j:Int) + 1) c (aa (am o) c rfl) (aF c (aa (.int (j:Int)) c rfl) (ag (i:=1)) bR) (by exact_mod_cast F.all (j + 1) (by exact hj')) F.lay) tA)
  ·refine mM hd fun j hj Z1=>?_;subst Z1
   have hj':j < n:=List.mem_range.mp hj
   exact aF c (ag (i:=2)) (aa (.int (0 + (j:Int) * 1)) c rfl) (iW (by exact Int.natCast_nonneg _) (by lia) (by decide))
 rw [pT] at S2
 refine aC S2 (.int (needL n o).sum) (fe.own rfl) (sn S2.cx ao.h (aY _ S2.cx (fe.gl rfl) rfl) (aa (am (needL n o)) S2.cx rfl)) fun s₃ S3=>?_
 have hnl:=F.need
 refine aC S3 (.int (eY n o)) (fe.own rfl) ((aF S3.cx (aF S3.cx (aa (.int ((n:Int) + 1)) S3.cx rfl) (ag (i:=1)) cO) (gG S3.cx (aY _ S3.cx (fe.gl rfl) rfl) (aH (aa (am (needL n o)) S3.cx rfl) al) (by rw [List.length_map];lia)) cO).to (congrArg D.int (by rw [List.length_map];unfold eY;lia))) fun s₄ S4=>?_
 refine aC S4 (.str (tx (bE x o))) (fe.own rfl) ((kT (ys:=(bE x o).map fun c=>tx [c]) S4.cx (aX (x:=Str.ofString "")) ((dc (τf:=[("word",.d (.str (tx x)))]) (ds:=o.map .int) (σ:=fun d=>[("j",.d d)]) (pz:=fun Z=>true) (g:=sQ x) S4.cx (bu S4.cx ao.h (aa (am o) S4.cx rfl)) (fun s' k=>?_) (by decide +kernel)).to ?_) (by decide) ?_).to (by rw [pQ])) fun s₅ S5=>?_
 ·refine ⟨(aE fe (by decide +kernel)).1,(aE fe (by decide +kernel)).2,by decide +kernel,by decide +kernel,⟨rfl,trivial⟩,by rfl,by exact hol,fun d hd=>⟨rfl,trivial⟩,fun d hd cenv M ce=>au (ce.st rfl),fun d hd cenv X'' ω s'' hX'' ce c=>bH,fun d hd Z cenv X'' ω s'' hX'' ce c=>?_⟩
  refine mM hd fun j hj Z1=>?_;subst Z1
  refine ai (F.rng j hj) fun j0 j1=>?_
  refine (cH c (aa (.str (tx x)) c rfl) (aa (.int j) c rfl) (ff j0 (by rw [aP];lia) (by rw [aP];lia))).to ?_
  rw [pW j0 (by lia)];rfl
 ·rw [List.filter_eq_self.mpr (fun Z Z=>rfl),List.map_map,bE,List.map_map,List.map_map];rfl
 ·rw [jj,List.length_map,bE,List.length_map,F.len];lia
 let t:=tx (bE x o)
 let τ5:List (Str×Bd):=[("text",.d (.str t)),("m",.d (.int (eY n o))),("need",.d (.int (needL n o).sum)),("order",.d (am o)),("due",.v (.ref ad)),("rows",.v (.ref ar)),("homes",.d (.lst ((aB 0 1 (2 ^ n)).map (f8 n)))),("cuts",.d (.rng (2 ^ n))),("count",.d (.int ((n:Int) + 1))),("word",.d (.str (tx x))),("share",.d (.int share))]
 have S5':Sx prog w s env M X τ5 (dJ ar ad b rows) s₅:=S5.cover ⟨rfl,rfl,rfl,rfl,rfl,rfl,rfl,rfl,rfl,rfl,rfl,trivial⟩
 have hadlive:∀ p∈dJ ar ad b rows,(s₅.heap.get? p.1).isSome=true:=fun p hp=>(S5'.cx.own p hp).1.live
 refine aK (wpAny_Assign_stores (sN (kvs:=eN b) (k:=t) S5'.cx rfl (.head _) (S5'.sysS (.head _)) (aa (.str t) S5'.cx rfl) fun bn v s₆ hbn hbi k₆ hown hrd=>?_) rfl rfl)
 rw [uz,uA]
 have S6:=S5'.own (a:=bn) (.dci []) hbn k₆ hown hbi
 have hfr:∀ p∈dJ ar ad b rows,p.1≠bn:=fun p hp e=>by
  have:=hadlive p hp
  rw [e,hbn] at this;exact nB this
 have hbf:∀ p∈b,p.2.1≠bn:=fun p hp=>hfr (p.2.1,.dci (dI p.2.2.cs)) (.tail _ (.tail _ (List.mem_map_of_mem (f:=fun p=>(p.2.1,OD.dci (dI p.2.2.cs))) hp)))
 have hgk:(cK (eN b) t).getD (.tup [.int 0,.int 0,.val (.ref bn)])=.tup [.int ((getV b t).getD (bn,⟨0,0,[]⟩)).2.calls,.int ((getV b t).getD (bn,⟨0,0,[]⟩)).2.price,.val (.ref ((getV b t).getD (bn,⟨0,0,[]⟩)).1)]:=by
  rw [eN,dj (fun (p:Addr×DE)=>D.tup [.int p.2.calls,.int p.2.price,.val (.ref p.1)])];cases getV b t <;> rfl
 rw [hgk] at hrd
 have hlk:(bn,OD.dci (dI ((getV b t).getD (bn,⟨0,0,[]⟩)).2.cs))∈((bn,.dci [])::mj b)∨True:=.inr trivial
 have hmem:((((getV b t).getD (bn,⟨0,0,[]⟩)).1,OD.dci (dI ((getV b t).getD (bn,⟨0,0,[]⟩)).2.cs)):Addr×OD)∈(bn,OD.dci [])::mj b:=by
  cases e:getV b t with
  | none=>exact .head _
  | some ae=>exact .tail _ (List.mem_map_of_mem (f:=fun (p:Str×Addr×DE)=>(p.2.1,OD.dci (dI p.2.2.cs))) (bZ e))
 have hcsl:((getV b t).getD (bn,⟨0,0,[]⟩)).2.cs.length≤8 * i:=by
  cases e:getV b t with
  | none=>exact Nat.zero_le _
  | some ae=>exact J.cs _ (bZ e)
 have hnr:((getV b t).getD (bn,⟨0,0,[]⟩)).1≠ar:=by
  cases e:getV b t with
  | none=>exact (hfr (ar,_) (.tail _ (.head _))).symm
  | some ae=>exact J.ner _ (bZ e)
 have hnd:((getV b t).getD (bn,⟨0,0,[]⟩)).1≠ad:=by
  cases e:getV b t with
  | none=>exact (hfr (ad,_) (.head _)).symm
  | some ae=>exact J.ned _ (bZ e)
 have hpe:(getV (b8 b) t).getD ⟨0,0,[]⟩=((getV b t).getD (bn,⟨0,0,[]⟩)).2:=by
  rw [b8,gc (fun (p:Addr×DE)=>p.2)];cases getV b t <;> rfl
 have hput:=fun v=>pV (t:=t) (bn:=bn) (v:=v) J.keys J.nod hbf
 have hds:aN n x (b8 b,rows) o=(putN (b8 b) t (n6 n o ((getV b t).getD (bn,⟨0,0,[]⟩)).2 ((List.range (2 ^ n)).foldl (aS n x o) (((getV b t).getD (bn,⟨0,0,[]⟩)).2.cs,rows)).1),((List.range (2 ^ n)).foldl (aS n x o) (((getV b t).getD (bn,⟨0,0,[]⟩)).2.cs,rows)).2):=by
  unfold aN;rw [← hpe]
 rw [hds]
 generalize hae:(getV b t).getD (bn,⟨0,0,[]⟩)=ae at hrd hmem hcsl hnr hnd hput
 obtain ⟨a',e0⟩:=ae
 dsimp only at hrd hmem hcsl hnr hnd hput ⊢
 refine d7 [("calls",_),("price",_),("callers",_)] (ds:=[.int e0.calls,.int e0.price,.val (.ref a')]) ao.h (fun y hy=>?_) rfl (bn::X) s τ5 _ s₆ v (fun Z s'=>c5 prog w A env _ _ .next s') S6 hrd fun s₇ k₇ S7=>?_
 ·simp only [List.mem_cons,List.not_mem_nil,or_false] at hy
  (refine ly hy (fun Z1=>?_) (fun Z1=>?_) fun Z1=>?_ <;> subst Z1) <;> exact fe.own rfl
 have S7':=S7.vals (x:="callers") (u:=.ref a') rfl
 let ω2:List (Addr×OD):=(ad,.dcs (eN b))::mj (b.filter fun p=>decide (p.1≠t))
 have hfil:∀ p∈mj (b.filter fun p=>decide (p.1≠t)),∃ q∈b,q.1≠t∧p=(q.2.1,.dci (dI q.2.2.cs)):=fun p hp=>by
  refine mM hp fun q hq Z1=>?_;subst Z1
  refine ai (List.mem_filter.mp hq) fun h1 h2=>?_
  exact ⟨q,h1,by simpa using h2,rfl⟩
 have S8:Sx prog w s env (bn::M) (bn::X) (og n x o a' ar ad share e0) ((a',.dci (dI e0.cs))::(ar,.lst (rows.map Row.d))::ω2) s₇:=(S7'.owns fun p hp=>by
  refine mC hp (fun Z1=>?_) fun hp=>?_;subst Z1
  ·refine mC hmem (fun h=>?_) fun h=>?_
   ·exact List.mem_cons.mpr (.inl h)
   ·exact List.mem_cons.mpr (.inr (List.mem_cons.mpr (.inr (List.mem_cons.mpr (.inr h)))))
  ·refine mC hp (fun Z1=>?_) fun hp=>?_;subst Z1
   ·exact .tail _ (.tail _ (.head _))
   ·refine mC hp (fun Z1=>?_) fun hp=>?_;subst Z1
    ·exact .tail _ (.head _)
    ·refine ex13 (hfil p hp) fun q hq Z Z1=>?_;subst Z1
     exact .tail _ (.tail _ (.tail _ (List.mem_map_of_mem (f:=fun (p:Str×Addr×DE)=>(p.2.1,OD.dci (dI p.2.2.cs))) hq)))).cover ⟨rfl,rfl,rfl,rfl,rfl,rfl,rfl,rfl,rfl,rfl,rfl,rfl,rfl,rfl,trivial⟩
 let st:Nat→List (Int×Int)×List Row:=fun j=>(List.range j).foldl (aS n x o) (e0.cs,rows)
 have hstl:∀ j,j≤2 ^ n→(st j).1.length≤8 * i + 8∧(st j).2.length≤8 * i + 8:=fun j hj=>by
  have h:=ew (n:=n) (x:=x) (o:=o) (List.range j) (e0.cs,rows)
  rw [List.length_range] at h
  have:=J.rows
  exact ⟨Nat.le_trans h.1 (by dsimp only;lia),Nat.le_trans h.2 (by dsimp only;lia)⟩
 have hneA:∀ l,∀ p∈(ar,OD.lst l)::ω2,p.1≠a':=fun l p hp=>by
  refine mC hp (fun Z1=>?_) fun hp=>?_;subst Z1
  ·exact hnr.symm
  ·refine mC hp (fun Z1=>?_) fun hp=>?_;subst Z1
   ·exact hnd.symm
   ·refine ex13 (hfil p hp) fun q hq hqt Z1=>?_;subst Z1
    exact (hput ⟨0,0,[]⟩).ne q hq hqt
 have hneR:∀ l,∀ p∈(a',OD.dci l)::ω2,p.1≠ar:=fun l p hp=>by
  refine mC hp (fun Z1=>?_) fun hp=>?_;subst Z1
  ·exact hnr
  ·refine mC hp (fun Z1=>?_) fun hp=>?_;subst Z1
   ·exact hra
   ·refine ex13 (hfil p hp) fun q hq hqt Z1=>?_;subst Z1
    exact J.ner q hq
 refine fE S8 (ds:=aB 0 1 (2 ^ n)) (n5 S8.cx ao.h (aa (.rng (2 ^ n)) S8.cx rfl) (by exact Nat.lt_of_le_of_lt h2n (by decide))) (fun Z=>og n x o a' ar ad share e0) (fun j=>(a',.dci (dI (st j).1))::(ar,.lst ((st j).2.map Row.d))::ω2) (fun Z Z=>False) (fun j d=>[("cut",.d d)]) ⟨rfl,rfl,rfl,rfl,rfl,rfl,rfl,rfl,rfl,rfl,rfl,rfl,rfl,rfl,trivial⟩ rfl
  (fun j d Z=>au (fe.ownC rfl rfl)) (fun j d X' s₉ hd hX S9=>?_) (fun s₉ S9=>?_) (fun Z Z Z h=>h.elim)
 ·refine ai (bG hd) fun hj Z1=>?_;subst Z1
  rw [show (0:Int) + (j:Int) * 1=(j:Int) by lia] at S9
  refine ai (hstl j (by exact Nat.le_of_lt hj)) fun l1 l2=>?_
  have hst1:st (j + 1)=aS n x o (st j) j:=by
   show (List.range (j + 1)).foldl _ _=_
   rw [List.range_succ,List.foldl_append];rfl
  refine wpAny_mono (oh hn hj F ao fe (hneA _) (hneR _) (by lia) (by lia) S9) (fun f s' hf=>?_) fun Z Z z=>z
  cases f with
  | next=>show Sx _ _ _ _ _ _ _ _ _;rw [hst1];exact hf
  | cont=>show Sx _ _ _ _ _ _ _ _ _;rw [hst1];exact hf
  | brk=>exact hf.elim
  | ret v=>exact hf.elim
 ·rw [aq] at S9
  have hm3:eY n o≤3:=by unfold eY;lia
  let r:=st (2 ^ n)
  let v':=n6 n o e0 r.1
  have P:=hput v'
  refine ai (hstl (2 ^ n) (Nat.le_refl _)) fun l1 l2=>?_
  have hkv:dz (eN b) t (.tup [.int v'.calls,.int v'.price,.val (.ref a')])=eN (putN b t (a',v')):=by
   rw [eN,fN (fun (p:Addr×DE)=>D.tup [.int p.2.calls,.int p.2.price,.val (.ref p.1)]) b t (a',v')];rfl
  have hmm:∀ {cc:Int},IntMulOk (2 ^ eY n o) cc:=fun {cc}=>IntMulOk.of_left (by refine oQ (by lia:eY n o=0∨eY n o=1∨eY n o=2∨eY n o=3) (fun h=>?_) (fun h=>?_) (fun h=>?_) fun h=>?_ <;> (rw [h];decide))
  have hmm2:∀ {cc:Int},IntMulOk (eY n o:Int) cc:=fun {cc}=>IntMulOk.of_left (by refine oQ (by lia:eY n o=0∨eY n o=1∨eY n o=2∨eY n o=3) (fun h=>?_) (fun h=>?_) (fun h=>?_) fun h=>?_ <;> (rw [h];decide))
  have epow:∀ {X':List Addr} {τ':List (Str×Bd)} {ω':List (Addr×OD)} {s':Shared} {k:Nat} {p q r:Pos},Cx prog w env X' τ' ω' s'→τ'.lookup ("m":Str)=some (Bd.d (.int (eY n o)))→EvD prog w A env X' s' (.BinOp (.Constant (.int 2) k p) .Pow (.Name "m" q) r) (.int (2 ^ eY n o)):=fun c h =>
   (aF c (ag (i:=2)) (aa (.int (eY n o)) c h) (iW (by exact Int.natCast_nonneg _) (by lia) (by decide))).to (by simp)
  have c₉:=S9.cx
  refine mW (ω1:=[(a',.dci (dI r.1)),(ar,.lst (r.2.map Row.d))]) (ω2:=mj (b.filter fun p=>decide (p.1≠t))) (k:=t) (d:=.tup [.int v'.calls,.int v'.price,.val (.ref a')]) S9
   (bp (ds:=[.int v'.calls,.int v'.price,.val (.ref a')]) c₉ (aH (aF c₉ (aa (.int e0.calls) c₉ rfl) (epow c₉ rfl) bR) (aH (aF c₉ (aF c₉ (aa (.int e0.price) c₉ rfl) (aF c₉ (epow c₉ rfl) (aF c₉ (aa (.int ((n:Int) + 1)) c₉ rfl) (aa (.int (eY n o)) c₉ rfl) cO) (iV hmm)) bR)
    (aF c₉ (aF c₉ (aa (.int (eY n o)) c₉ rfl) (epow c₉ rfl) (iV hmm2)) (ag (i:=2)) (fM (by decide) (by decide))) bR) (aH (EvV.d (az (.ref a') c₉ rfl) fun Z=>Rd.val_) al))) (Nat.le_trans (by decide:3≤1000) (Nat.le_refl _))) (az (.ref ad) c₉ rfl) (aa (.str t) c₉ rfl) rfl (fun p hp=>?_) (by rw [eN,List.length_map];have:=J.len;lia) fun s10 S10=>ax ?_
  ·refine mC hp (fun Z1=>?_) fun hp=>?_;subst Z1
   ·exact hnd
   ·refine mC hp (fun Z1=>?_) fun hp=>?_;subst Z1
    ·exact hra.symm
    ·refine ex13 (hfil p hp) fun q hq Z Z1=>?_;subst Z1
     exact J.ned q hq
  ·rw [hkv] at S10
   refine ⟨putN b t (a',v'),bn,S5'.base.none_back hbn,⟨P.keys,P.nod,fun p hp e=>?_,fun p hp e=>?_,Nat.le_trans (bY _ _ _) (Nat.succ_le_succ J.len),by show r.2.length≤_;exact l2,fun p hp=>?_⟩,f9 (fun (p:Addr×DE)=>p.2) b t (a',v'),P.adr,?_⟩
   ·rcases P.adr p hp with h | ⟨q,hq,h⟩
    ·exact hfr (ar,_) (.tail _ (.head _)) (e.symm.trans h)
    ·exact J.ner q hq (h.symm.trans e)
   ·rcases P.adr p hp with h | ⟨q,hq,h⟩
    ·exact hfr (ad,_) (.head _) (e.symm.trans h)
    ·exact J.ned q hq (h.symm.trans e)
   ·rcases P.mem p hp with h | ⟨h,_⟩
    ·rw [h];show r.1.length≤_;exact l1
    ·have:=J.cs p h;exact Nat.le_add_right_of_le this
   ·refine (S10.owns fun p hp=>?_).cover ⟨rfl,rfl,rfl,rfl,rfl,rfl,rfl,trivial⟩
    refine mC hp (fun Z1=>?_) fun hp=>?_;subst Z1
    ·exact .tail _ (.tail _ (.head _))
    ·refine mC hp (fun Z1=>?_) fun hp=>?_;subst Z1
     ·exact .tail _ (.head _)
     ·refine mM hp fun q hq Z1=>?_;subst Z1
      rcases P.mem q hq with h | ⟨h,h'⟩
      ·rw [h];exact .head _
      ·exact .tail _ (.tail _ (.tail _ (List.mem_map_of_mem (f:=fun (p:Str×Addr×DE)=>(p.2.1,OD.dci (dI p.2.2.cs))) (List.mem_filter.mpr ⟨h,by simpa using h'⟩))))
noncomputable def rZ:List Int→List Int→Bool
 | x::xs,y::ys=>if x=y then rZ xs ys else decide (x < y)
 | _,_=>false
section
variable {E:Value→Shared→Prop}
theorem pX (l b:Addr) (vs us:List Value) (n n2:Nat) (ns ms:List Int) (hln:ns.length=ms.length) (hX:List Addr) (k:Nat):∀ (i:Nat) (s:Shared),ns.length - i=k→i≤ns.length→s.heap.get? l=some (bo vs n)→s.heap.get? b=some (bo us n2) →
  RdL prog w s.heap hX (ns.map .int) vs→RdL prog w s.heap hX (ms.map .int) us→∀ {R:Result→Shared→Prop},R (.ok (.ret (.bool (rZ (ns.drop i) (ms.drop i))))) s →
  codeAny (model prog w) A (.builtin "list.__eq__.loop" ⟨[.ref l,.ref b,rawInt i,rawInt 0],[]⟩) R s:=by
 revert hln
 revert prog w A l b vs us n n2 ns ms hX k;refine @(dr13 ?_);exists w13 _ _,prog,w,A,l,b,vs,us,n,n2,ns,ms,hX,k
 intro hln
 induction k with
 | zero =>
  intro i s hk hi hl hb r1 r2 R hR
  refine codeAny_builtin MeetsSeq3.entry_eq_loop ?_
  have hv:=r1.length
  have hu:=r2.length
  rw [List.length_map] at hv hu
  have hi1:vs.toArray[((i:Nat):Int).toNat]?=none:=by simp;lia
  have hi2:us.toArray[((i:Nat):Int).toNat]?=none:=by simp;lia
  have hd:ns.drop i=[]:=by simp;exact Nat.le_of_sub_eq_zero hk
  rw [hd] at hR
  obtain ⟨hp,g,d,tk,os⟩:=s
  rw [Around.under_plainId MeetsSeq3.plain_eq_loop _]
  wp_walk using wpAny_loadPart' hl,wpAny_loadPart' hb
  rw [hi1,hi2]
  wp_walk using wpAny_loadPart' hl,wpAny_loadPart' hb
  show R (.ok (.ret (.bool (decide (vs.toArray.size < us.toArray.size))))) _
  rw [decide_eq_false (by simp;lia)]
  exact hR
 | succ k ih =>
  intro i s hk hi hl hb r1 r2 R hR
  refine codeAny_builtin MeetsSeq3.entry_eq_loop ?_
  have hv:=r1.length
  have hu:=r2.length
  rw [List.length_map] at hv hu
  have h1:i < ns.length:=by lia
  have h2:i < ms.length:=by exact Nat.lt_of_lt_of_eq h1 hln
  refine ex12 (r1.get (i:=i) (d:=.int ns[i]) (by rw [List.getElem?_map,List.getElem?_eq_getElem h1];rfl)) fun v hv1 hv2=>?_
  refine ex12 (r2.get (i:=i) (d:=.int ms[i]) (by rw [List.getElem?_map,List.getElem?_eq_getElem h2];rfl)) fun u hu1 hu2=>?_
  refine hv2.intE fun t Z1=>?_;subst Z1
  refine hu2.intE fun t' Z1=>?_;subst Z1
  have hi1:vs.toArray[((i:Nat):Int).toNat]?=some (.int ns[i] t):=by simpa using hv1
  have hi2:us.toArray[((i:Nat):Int).toNat]?=some (.int ms[i] t'):=by simpa using hu1
  rw [List.drop_eq_getElem_cons h1,List.drop_eq_getElem_cons h2] at hR
  unfold rZ at hR
  have hc:((i:Int) + 1)=((i + 1:Nat):Int):=by push_cast;rfl
  obtain ⟨hp,g,d,tk,os⟩:=s
  rw [Around.under_plainId MeetsSeq3.plain_eq_loop _]
  wp_walk using wpAny_loadPart' hl,wpAny_loadPart' hb
  rw [hi1,hi2]
  refine wpAny_bind (wpAny_eqBool_int ?_)
  by_cases he:ns[i]=ms[i]
  ·rw [if_pos he] at hR
   rw [show (ns[i] == ms[i])=true by rw [beq_iff_eq];exact he]
   wp_walk
   rw [hc]
   exact ⟨plainId_quiet MeetsSeq3.plain_eq_loop _,ih (i + 1) _ (by lia) (by exact h1) hl hb r1 r2 hR⟩
  ·rw [if_neg he] at hR
   rw [show (ns[i] == ms[i])=false by rw [beq_eq_false_iff_ne];exact he]
   wp_walk using wpAny_loadPart' hl,wpAny_loadPart' hb
   rw [hi1,hi2]
   exact wpAny_bind (show wpAny _ _ (compareOp .Lt (.int ns[i] t) (.int ms[i] t')) _ _ _ from PyProof.Rows.lt_int (wpAny_pure hR))
theorem oj {l b:Addr} {vs us:List Value} {n n2:Nat} {ns ms:List Int} {hX:List Addr} (hln:ns.length=ms.length) :
  MeetsIn prog w (Builtin.«list.__lt__» ⟨[.ref l,.ref b],[]⟩) (fun A R s=>s.heap.get? l=some (bo vs n)∧s.heap.get? b=some (bo us n2)∧RdL prog w s.heap hX (ns.map .int) vs∧RdL prog w s.heap hX (ms.map .int) us∧R (.ok (.ret (.bool (rZ ns ms)))) s):=by
 revert hln
 revert prog w l b vs us n n2 ns ms hX;refine @(dr11 ?_);exists w11 _ _,prog,w,l,b,vs,us,n,n2,ns,ms,hX
 intro hln
 intro A R s h
 obtain ⟨hp,g,d,tk,os⟩:=s;refine mI h fun hl hb r1 r2 h=>?_
 have f3:=AutoSeq1.sub_list_list
 wp_walk using wpAny_loadPart' hl,wpAny_loadPart' hb
 exact ⟨plainId_quiet MeetsSeq3.plain_eq_loop _,pX l b vs us n n2 ns ms hln hX _ 0 _ rfl (Nat.zero_le _) hl hb r1 r2 h⟩
theorem ol {l b:Addr} {vs us:List Value} {n n2:Nat} {ns ms:List Int} {hX:List Addr} {Q:Value→Shared→Prop} (hln:ns.length=ms.length) (hl:s.heap.get? l=some (bo vs n)) (hb:s.heap.get? b=some (bo us n2)) (r1:RdL prog w s.heap hX (ns.map .int) vs) (r2:RdL prog w s.heap hX (ms.map .int) us)
  (hu:A.units < cLine) (hQ:Q (.bool (rZ ns ms)) s):wpAny (model prog w) A (compareOp .Lt (.ref l) (.ref b)) Q E s:=by
 show wpAny (model prog w) A (richCompare .Lt (.ref l) (.ref b)) Q E s
 refine wpAny_richCompare_same_room ⟨_,hl,rfl⟩ ⟨_,hb,rfl⟩ PySem.F.slot_list_lt (call_meetsIn PySem.F.slot_list_lt ⟨_,hl,rfl⟩ PySem.F.entry_list_lt (PySem.F.args_list_lt_2 _ _) (oj (vs:=vs) (us:=us) (n:=n) (n2:=n2) (hX:=hX) hln) ⟨hl,hb,r1,r2,?_⟩) hu
 exact ⟨(fun z=>by cases z),hQ⟩
end
noncomputable def rowLt (r q:Row):Bool:=if r.laid=q.laid then (if r.cut=q.cut then rZ r.path q.path else decide (r.cut < q.cut)) else decide (r.laid < q.laid)
section
variable {E:Value→Shared→Prop}
theorem jk {h:Heap}:∀ {ns ms:List Int} {vs:List Value},RdL prog w h X (ns.map .int) vs→RdL prog w h X (ms.map .int) vs→ns=ms
 | [],[],_,_,_=>rfl
 | [],m::ms,vs,a,b=>by
  have h1:=a.length;have h2:=b.length
  rw [h1] at h2;simp at h2
 | n::ns,[],vs,a,b=>by
  have h1:=a.length;have h2:=b.length
  rw [h1] at h2;simp at h2
 | n::ns,m::ms,vs,a,b=>by
  simp only [List.map_cons] at a b
  unfold RdL at a b
  refine ex23 a fun v r Z1 hv hr=>?_;clear a;subst Z1
  refine ex23 b fun v' r' e hv' hr'=>?_;clear b
  cases e
  refine hv.intE fun t Z1=>?_;subst Z1
  refine hv'.intE fun t' e=>?_
  cases e
  rw [jk hr hr']
theorem iL {l b:Addr} {vs us:List Value} {n n2:Nat} {ns ms:List Int} {Q:Bool→Shared→Prop} (hl:s.heap.get? l=some (bo vs n)) (hb:s.heap.get? b=some (bo us n2)) (r1:RdL prog w s.heap X (ns.map .int) vs) (r2:RdL prog w s.heap X (ms.map .int) us)
  (hu:A.units + 64 < cLine) (h:Q (decide (ns=ms)) s):wpAny (model prog w) A (eqBool (.ref l) (.ref b)) Q E s:=by
 unfold eqBool
 refine wpAny_holding ?_
 by_cases e:l=b
 ·subst e
  rw [hl] at hb
  have:vs=us:=by
   have h1:=Option.some.inj hb
   have h2:(Data.seq vs.toArray n)=Data.seq us.toArray n2:=congrArg Obj.data h1
   injection h2 with h3 h4
   exact (by simpa using congrArg Array.toList h3)
  subst this
  rw [decide_eq_true (jk r1 r2)] at h
  refine wT (by simp) ?_
  exact wpAny_bind (wpAny_rule (wpAny_pure h))
 ·refine wF (by simpa using e) ?_
  refine wpAny_bind (wpAny_mono (show wpAny (model prog w) A (compareOp .Eq (.ref l) (.ref b)) (fun v s'=>v=.bool (decide (ns=ms))∧s'=s) E s from ke_eq_ints (ah hl) (ah hb) (bb r1) (bb r2) hu ⟨rfl,rfl⟩) (fun v s' hv=>?_) fun Z Z z=>z)
  refine ai hv fun Z1 Z2=>?_;clear hv;subst Z1;cases Z2
  exact wpAny_truthy_bool h
theorem pY {r q:Row} {u v:Value} {Q:Bool→Shared→Prop} (hu:A.units + 64 < cLine) (h1:Rd prog w s.heap X r.d u) (h2:Rd prog w s.heap X q.d v) (hne:r.laid=q.laid→r.cut=q.cut→r.path≠q.path∧r.path.length=q.path.length) (h:Q (rowLt r q) s) :
  wpAny (model prog w) A (keyLt' (tuples' true) u v) Q E s:=by
 revert hu h1 h2 hne h
 revert prog w A X s E r q u v Q;refine @(dr11 ?_);exists w11 _ _,prog,w,A,X,s,E,r,q,u,v,Q
 intro hu h1 h2 hne h
 refine Rd.tupE (ds:=[.int r.laid,.int r.cut,am r.path,.str (tx r.text)]) h1 fun a us n Z1 hax ha ra=>?_;subst Z1
 refine Rd.tupE (ds:=[.int q.laid,.int q.cut,am q.path,.str (tx q.text)]) h2 fun b vs m Z1 hbx hb rb=>?_;subst Z1
 unfold RdL at ra rb
 refine ex23 ra fun u1 us1 Z1 hu1 Z9=>?_;clear ra;revert Z9;intro ra;subst Z1
 refine ex23 rb fun v1 vs1 Z1 hv1 Z9=>?_;clear rb;revert Z9;intro rb;subst Z1
 unfold RdL at ra rb
 refine ex23 ra fun u2 us2 Z1 hu2 Z9=>?_;clear ra;revert Z9;intro ra;subst Z1
 refine ex23 rb fun v2 vs2 Z1 hv2 Z9=>?_;clear rb;revert Z9;intro rb;subst Z1
 unfold RdL at ra rb
 refine ex23 ra fun u3 us3 Z1 hu3 Z9=>?_;clear ra;revert Z9;intro ra;subst Z1
 refine ex23 rb fun v3 vs3 Z1 hv3 Z9=>?_;clear rb;revert Z9;intro rb;subst Z1
 refine hu1.intE fun t1 Z1=>?_;subst Z1
 refine hv1.intE fun t1' Z1=>?_;subst Z1
 refine hu2.intE fun t2 Z1=>?_;subst Z1
 refine hv2.intE fun t2' Z1=>?_;subst Z1
 refine Rd.lstE (ds:=r.path.map .int) hu3 fun p ps k Z1 hpx hp rp=>?_;subst Z1
 refine Rd.lstE (ds:=q.path.map .int) hv3 fun p' ps' k' Z1 hpx' hp' rp'=>?_;subst Z1
 refine kat_lt ha rfl hb rfl ?_
 show KatLex prog w A true _ Q ((.int r.laid t1,.int q.laid t1')::(.int r.cut t2,.int q.cut t2')::(.ref p,.ref p')::us3.zip vs3) 0 s
 unfold rowLt at h
 refine kat_cons (wpAny_eqBool_int ?_)
 by_cases e1:r.laid=q.laid
 ·rw [if_pos e1] at h
  rw [show ((r.laid:Int) == (q.laid:Int))=true by rw [beq_iff_eq,e1]]
  refine kat_yes (kat_cons (wpAny_eqBool_int ?_))
  by_cases e2:r.cut=q.cut
  ·rw [if_pos e2] at h
   rw [show ((r.cut:Int) == (q.cut:Int))=true by rw [beq_iff_eq,e2]]
   refine kat_yes (kat_cons (iL hp hp' rp rp' hu ?_))
   refine ai (hne e1 e2) fun e3 e4=>?_
   rw [decide_eq_false e3]
   exact kat_no (kat_one _ _ (ol e4 hp hp' rp rp' (by lia) h))
  ·rw [if_neg e2] at h
   rw [show ((r.cut:Int) == (q.cut:Int))=false by rw [beq_eq_false_iff_ne];lia]
   refine kat_no (kat_one _ _ (PyProof.Rows.lt_int ?_))
   show Q (decide ((r.cut:Int) < (q.cut:Int))) s
   rw [show decide ((r.cut:Int) < (q.cut:Int))=decide (r.cut < q.cut) by simp]
   exact h
 ·rw [if_neg e1] at h
  rw [show ((r.laid:Int) == (q.laid:Int))=false by rw [beq_eq_false_iff_ne];lia]
  refine kat_no (oneLt_int ?_)
  rw [show decide ((r.laid:Int) < (q.laid:Int))=decide (r.laid < q.laid) by simp]
  exact h
end
noncomputable def SortsTo (N:Nat) (o:Nat→Nat→Bool) (q:Array Nat):Prop :=
 ∀ {prog:Program} {w:World} {A:Around} {E:Value→Shared→Prop} {κ:SortKind} {it:Array Keyed} {I:Shared→Prop} {s:Shared} {Q:Unit→SortSt→Shared→Prop},le prog w A κ it N o I→I s →
  (∀ st' s',I s'→arrOf st'=q.map (kas_item it)→failedOf st'=none→Q () st' s')→kasC (model prog w) A E sortRuns' Q (c4 κ it (List.toArray (List.range N)) #[] 7) s
section
variable {E:Value→Shared→Prop}
theorem hU {h:Heap}:∀ {rows:List Row} {vs:List Value},RdL prog w h X (rows.map Row.d) vs→∃ fs,KatTups h vs fs∧fs.length=rows.length∧∀ f∈fs,∃ i t,f=.int i t
 | [],vs,r=>by
  simp only [List.map_nil] at r;unfold RdL at r;subst r
  exact ⟨[],KatTups.nil,rfl,fun f hf=>nomatch hf⟩
 | r::rs,vs,x=>by
  simp only [List.map_cons] at x;refine RdL.consE x fun v us Z1 hv hr=>?_;clear x;subst Z1
  refine ex13 (hU hr) fun fs h1 h2 h3=>?_
  refine Rd.tupE (ds:=[.int r.laid,.int r.cut,am r.path,.str (tx r.text)]) hv fun a ws n Z1 hax ha ra=>?_;subst Z1
  refine RdL.consE ra fun u1 us1 Z1 hu1 Z=>?_;clear ra;subst Z1
  refine hu1.intE fun t Z1=>?_;subst Z1
  exact ⟨.int r.laid t::fs,KatTups.cons ha rfl rfl (by simp) h1,by rw [List.length_cons,h2,List.length_cons],fun f hf=>(List.mem_cons.mp hf).elim (fun e=>⟨_,_,e⟩) (h3 f)⟩
theorem pZ {D:Addr} {vs:List Value} {n:Nat} {rows:List Row} {q:Array Nat} {P:PySem.Fin→Shared→Prop} (ho:s.heap.get? D=some (bo vs n)) (hr:RdL prog w s.heap X (rows.map Row.d) vs) (hDX:D∈X) (hu:A.units + 64 < cLine)
  (h2:2≤rows.length) (hl:rows.length≤1000) (hs:SortsTo rows.length (fun i j=>rowLt (rows.getD i ⟨0,0,[],[]⟩) (rows.getD j ⟨0,0,[],[]⟩)) q) (hq:q.size≤1000)
  (hne:∀ i j,i < rows.length→j < rows.length→i≠j→(rows.getD i ⟨0,0,[],[]⟩).laid=(rows.getD j ⟨0,0,[],[]⟩).laid→(rows.getD i ⟨0,0,[],[]⟩).cut=(rows.getD j ⟨0,0,[],[]⟩).cut→(rows.getD i ⟨0,0,[],[]⟩).path≠(rows.getD j ⟨0,0,[],[]⟩).path∧(rows.getD i ⟨0,0,[],[]⟩).path.length=(rows.getD j ⟨0,0,[],[]⟩).path.length)
  (h:∀ s' m,Keep [D] s s'→s'.heap.get? D=some (bo (q.toList.map fun i=>vs.getD i Value.none) m)→P (.done (.ret .none)) s') :
  wpAny (model prog w) A (Builtin.«list.sort» ⟨[.ref D],[]⟩) P E s:=by
 revert ho hr hDX hu h2 hl hs hq hne h
 revert prog w A X s E D vs n rows q P;refine @(dr12 ?_);exists w12 _ _,prog,w,A,X,s,E,D,vs,n,rows,q,P
 intro ho hr hDX hu h2 hl hs hq hne h
 have hvl:vs.length=rows.length:=by rw [hr.length,List.length_map]
 have s1:=Heap.SameBut.update s.heap D (Obj.mapSeq fun Z=>(#[]:Array Value))
 obtain ⟨e1,ho1⟩:∃ e1,(s.heap.update D (Obj.mapSeq fun Z=>(#[]:Array Value))).get? D=some (seqObj "list" #[] e1):=⟨_,get?_update_seq ho fun Z=>#[]⟩
 rw [list_sort_plain]
 refine wpAny_bind (listItems_at ho rfl ?_)
 refine wpAny_bind (listUpdate_at ho rfl ?_ (by rw [List.size_toArray,sizeLine_eq];lia) (Nat.zero_le _))
 refine wpAny_bind (seqEpoch_at ho1 rfl ?_)
 refine wpAny_bind (wpAny_newTuple ?_ (by show vs.length≤_;rw [sizeLine_eq];lia))
 refine wpAny_bind (wpAny_newList ?_ (Nat.zero_le _))
 refine wpAny_holding ?_
 generalize hs2:({ s with heap:=((s.heap.update D (Obj.mapSeq fun Z=>(#[]:Array Value))).push (seqObj "tuple" vs.toArray 0)).push (seqObj "list" #[] 0) }:Shared)=s₂
 show wpAny (model prog w) A _ P E s₂
 have k1:Keep [D] s { s with heap:=s.heap.update D (Obj.mapSeq fun Z=>(#[]:Array Value)) }:=Keep.sameBut (tk:=s.toks) s1 (.head _) (by rw [ho1];rfl)
 have k2:Keep [D] s s₂:=by
  rw [← hs2]
  exact k1.trans ((Keep.push (tk:=s.toks)).trans (Keep.push (tk:=s.toks)))
 have hD2:s₂.heap.get? D=some (seqObj "list" #[] e1):=by
  rw [← hs2];exact Heap.get?_push_of_some _ (Heap.get?_push_of_some _ ho1)
 have hr2:RdL prog w s₂.heap X (rows.map Row.d) vs:=hr.keep (k2.more fun a ha=>by rw [ay ha];exact hDX)
 dsimp only
 have hn2:¬ vs.toArray.size < 2:=by rw [List.size_toArray];lia
 rw [if_neg hn2,if_neg hn2]
 refine ex13 (hU hr2) fun fs f1 f2 f3=>?_
 refine wpAny_bind (kat_kind (T:=.type "int") f1 (by lia) (fun v hv=>?_) (by decide) ?_)
 ·refine ex21 (f3 v hv) fun i t Z1=>?_;subst Z1
  exact Looks.of_pure rfl
 have hitem:∀ i,kas_item (vs.toArray.zip vs.toArray) i=(vs.getD i Value.none,vs.getD i Value.none):=kat_item rfl
 have O:le prog w A (tuples' true) (vs.toArray.zip vs.toArray) rows.length (fun i j=>rowLt (rows.getD i ⟨0,0,[],[]⟩) (rows.getD j ⟨0,0,[],[]⟩)) (fun s'=>Keep [] s₂ s'):=fun i j hi hj hij s' hI=>by
  rw [hitem,hitem]
  have hr':RdL prog w s'.heap X (rows.map Row.d) vs:=hr2.keep hI.any
  have gt:∀ {i:Nat},i < rows.length→Rd prog w s'.heap X (rows.getD i ⟨0,0,[],[]⟩).d (vs.getD i Value.none):=fun {i} hi=>by
   refine ex12 (hr'.get (i:=i) (d:=(rows.getD i ⟨0,0,[],[]⟩).d) (by rw [List.getElem?_map,List.getElem?_eq_getElem hi,List.getD_eq_getElem?_getD,List.getElem?_eq_getElem hi];rfl)) fun v h1 h2=>?_
   rw [show vs.getD i Value.none=v by rw [List.getD_eq_getElem?_getD,h1];rfl];exact h2
  exact pY hu (gt hi) (gt hj) (hne i j hi hj hij) ⟨rfl,hI⟩
 have run:=hs (E:=E) (Q:=fun Z st' s'=>∃ m:Unit,Keep [] s₂ s'∧arrOf st'=q.map (kas_item (vs.toArray.zip vs.toArray))∧failedOf st'=none) O (Keep.refl _ _) (fun st' s' a b c=>⟨(),a,b,c⟩)
 have est:SortSt.mk' (tuples' true) (vs.toArray.zip vs.toArray) #[] 7 none=c4 (tuples' true) (vs.toArray.zip vs.toArray) (List.toArray (List.range rows.length)) #[] 7:=by
  have e:=kas_range (vs.toArray.zip vs.toArray)
  rw [show (vs.toArray.zip vs.toArray).size=rows.length by simp [hvl]] at e
  show SortSt.mk' (tuples' true) (vs.toArray.zip vs.toArray) #[] 7 none=SortSt.mk' (tuples' true) ((List.toArray (List.range rows.length)).map (kas_item (vs.toArray.zip vs.toArray))) #[] 7 none
  rw [e]
 rw [← est] at run
 refine wpAny_bind (wpAny_mono run ?_ fun Z Z e=>e)
 rintro ⟨⟨⟩,st'⟩ s' ⟨_,kI,har,hf⟩
 dsimp only at kI har hf ⊢
 have hout:(arrOf st').map (·.2)=List.toArray (q.toList.map fun i=>vs.getD i Value.none):=kat_snds rfl har
 rw [hout]
 have hD3:s'.heap.get? D=some (seqObj "list" #[] e1):=kI.heap _ _ (fun z=>nomatch z) hD2
 have s2:=Heap.SameBut.update s'.heap D (Obj.mapSeq fun Z=>List.toArray (q.toList.map fun i=>vs.getD i Value.none))
 obtain ⟨c2,hc2⟩:∃ c2,(s'.heap.update D (Obj.mapSeq fun Z=>List.toArray (q.toList.map fun i=>vs.getD i Value.none))).get? D=some (seqObj "list" (List.toArray (q.toList.map fun i=>vs.getD i Value.none)) c2):=⟨_,get?_update_seq hD3 fun Z=>List.toArray (q.toList.map fun i=>vs.getD i Value.none)⟩
 refine wpAny_bind (seqEpoch_at hD3 rfl ?_)
 refine wpAny_bind (listUpdate_at hD3 rfl ?_ (Nat.zero_le _) (by rw [List.size_toArray,List.length_map,Array.length_toList,sizeLine_eq];exact Nat.le_trans hq (by decide)))
 rw [hf]
 simp only [bne_self_eq_false,Bool.false_eq_true,if_false]
 exact wpAny_pure (h _ c2 ((k2.trans (kI.any)).trans (Keep.sameBut (tk:=s'.toks) s2 (.head _) (by rw [hc2];rfl))) hc2)
end
noncomputable abbrev row0:Row:=⟨0,0,[],[]⟩
structure SortF (rows:List Row) (q:Array Nat):Prop where
 two:2≤rows.length
 len:rows.length≤1000
 to:SortsTo rows.length (fun i j=>rowLt (rows.getD i row0) (rows.getD j row0)) q
 qn:q.size≤1000
 lt:∀ i∈q.toList,i < rows.length
 ne:∀ i j,i < rows.length→j < rows.length→i≠j→(rows.getD i row0).laid=(rows.getD j row0).laid→(rows.getD i row0).cut=(rows.getD j row0).cut→(rows.getD i row0).path≠(rows.getD j row0).path∧(rows.getD i row0).path.length=(rows.getD j row0).path.length
theorem qI {h:Heap} {rows:List Row} {vs:List Value} (r:RdL prog w h X (rows.map Row.d) vs):∀ (l:List Nat),(∀ i∈l,i < rows.length)→RdL prog w h X (l.map fun i=>(rows.getD i row0).d) (l.map fun i=>vs.getD i Value.none)
 | [],_=>RdL.nil
 | i::l,hl=>by
  have hi:=hl i (.head _)
  refine ex12 (r.get (i:=i) (d:=(rows.getD i row0).d) (by rw [List.getElem?_map,List.getElem?_eq_getElem hi,List.getD_eq_getElem?_getD,List.getElem?_eq_getElem hi];rfl)) fun v h1 h2=>?_
  refine RdL.cons ?_ (qI r l fun j hj=>hl j (.tail _ hj))
  show Rd prog w h X (rows.getD i row0).d (vs.getD i Value.none)
  rw [show vs.getD i Value.none=v by rw [List.getD_eq_getElem?_getD,h1];rfl];exact h2
theorem qb {k:Nat} {f:Str} {q p:Pos} {e:Expr} {rows:List Row} {qa:Array Nat} (c:Cx prog w env X τ ω s) (ao:Ao (k + 2) A) (hf:EvV prog w A env s (.Name f q) (.builtin "sorted")) (he:EvBs prog w A env X s [e] [.d (.lst (rows.map Row.d))]) (F:SortF rows qa) :
  EvD prog w A env X s (.Call (.Name f q) [e] [] p) (.lst (qa.toList.map fun i=>(rows.getD i row0).d)):=by
 revert c ao hf he F
 revert k f q p e rows qa
 revert prog w A env X τ ω s;refine @(dr8 ?_);exists w8 _ _,prog,w,A,env,X,τ,ω,s
 intro k f q p e rows qa
 revert k f q p e rows qa;refine @(dr7 ?_);exists w7 _ _,k,f,q,p,e,rows,qa
 intro c ao hf he F
 exact bz hf he (fun s' Z=>aJ) fun vs s' kk h=>by
  refine aO h fun v Z1 h1=>?_;subst Z1
  refine Rd.lstE (ds:=rows.map Row.d) h1 fun l us n Z1 hx hg hr=>?_;subst Z1
  have g:=(c.keep kk).gd
  have hul:us.length=rows.length:=by rw [hr.length,List.length_map]
  have hll:=F.len
  refine Calls.call_function_entry kind_sorted plain_sorted entry_sorted (args_sorted1 _) ?_
  unfold Builtin.«sorted»
  refine wpAny_bind (m:=checkCount "sorted" 1 1 _) (wpAny_pure ?_)
  refine wpAny_bind (collect_list (ah hg) ?_ (by rw [sizeLine_eq];lia))
  refine wpAny_bind (wpAny_newList ?_ (by rw [sizeLine_eq];lia))
  have hsz:((s'.heap.push (seqObj "list" #[] 0)).update s'.heap.objs.size (Obj.mapSeq (·++us.toArray))).objs.size=s'.heap.objs.size + 1:=by
   rw [Heap.size_update,size_push']
  have hoL:(((s'.heap.push (seqObj "list" #[] 0)).update s'.heap.objs.size (Obj.mapSeq (·++us.toArray))).push (seqObj "list" us.toArray 0)).get? (s'.heap.objs.size + 1)=some (seqObj "list" us.toArray 0):=by
   rw [← hsz];exact Heap.get?_push_size _ rfl
  have keep:∀ b o,s'.heap.get? b=some o→(((s'.heap.push (seqObj "list" #[] 0)).update s'.heap.objs.size (Obj.mapSeq (·++us.toArray))).push (seqObj "list" us.toArray 0)).get? b=some o:=fun b o q=>by
   have hlt:b < s'.heap.objs.size:=Heap.lt_size q
   rw [Heap.get?_push_ne _ _ _ (by rw [hsz];exact Nat.ne_of_lt (Nat.lt_succ_of_lt hlt)),Heap.get?_update_ne _ _ _ _ (Nat.ne_of_lt hlt),Heap.get?_push_ne _ _ _ (Nat.ne_of_lt hlt)]
   exact q
  show wpAny _ _ _ _ _ { s' with heap:=((s'.heap.push (seqObj "list" #[] 0)).update s'.heap.objs.size (Obj.mapSeq (·++us.toArray))).push (seqObj "list" us.toArray 0) }
  rw [hsz]
  have hDn:s'.heap.get? (s'.heap.objs.size + 1)=none:=aU (Nat.le_succ _)
  generalize hs1:({ s' with heap:=((s'.heap.push (seqObj "list" #[] 0)).update s'.heap.objs.size (Obj.mapSeq (·++us.toArray))).push (seqObj "list" us.toArray 0) }:Shared)=s₁
  have k1:Keep [] s' s₁:=by rw [← hs1];exact ec (tk:=s'.toks) keep
  have hD1:s₁.heap.get? (s'.heap.objs.size + 1)=some (bo us 0):=by rw [← hs1];exact hoL
  have hr1:RdL prog w s₁.heap ((s'.heap.objs.size + 1)::X) (rows.map Row.d) us:=(hr.beyond (Y:=(s'.heap.objs.size + 1)::X) fun z hz=>(List.mem_cons.mp hz).elim (fun e=>.inr (e ▸ hDn)) .inl).keep k1.any
  have room:=ao.in1.in1.room
  refine wpAny_bind (wpAny_holding (wpAny_call_entry slot_list_sort ⟨_,hD1,rfl⟩ entry_list_sort ?body (args_list_sort _)))
  case body =>
   refine pZ (q:=qa) hD1 hr1 (.head _) room F.two F.len F.to F.qn F.ne fun s₂ m k2 hD2=>⟨_,rfl,wpAny_pure ⟨_,rfl,?_⟩⟩
   have k3:Keep [] s' s₂:=(k1.any.trans k2).drop fun x hx=>by rw [ay hx];exact hDn
   refine ⟨k3,Rd.lst_ (fun hm=>?_) hD2 (qI (hr.keep k3.any) _ F.lt)⟩
   have:=g.liv _ hm
   rw [hDn] at this;exact nB this
theorem dK {n:Nat} {x:List Nat} {o:List Int}:∀ (l:List Nat) (st:List (Int×Int)×List Row),(l.foldl (aS n x o) st).2=st.2++(l.filter (iK n o)).map (dH n x o)
 | [],st=>by simp
 | c::l,st=>by
  rw [List.foldl_cons,dK l]
  unfold aS
  by_cases h:iK n o c
  ·rw [if_pos h,List.filter_cons_of_pos h];simp
  ·rw [if_neg h,List.filter_cons_of_neg h]
noncomputable def bd (n:Nat) (x:List Nat) (os:List (List Int)):List Row:=os.flatMap fun o=>((List.range (2 ^ n)).filter (iK n o)).map (dH n x o)
theorem ge {n:Nat} {x:List Nat}:∀ (os:List (List Int)) (st:List (Str×DE)×List Row),(os.foldl (aN n x) st).2=st.2++bd n x os
 | [],st=>by simp [bd]
 | o::os,st=>by
  rw [List.foldl_cons,ge os]
  have:(aN n x st o).2=st.2++((List.range (2 ^ n)).filter (iK n o)).map (dH n x o):=dK _ _
  rw [this];simp [bd]
noncomputable def eO (b:List (Str×DE)):List (Str×D):=b.map fun p=>(p.1,.tup [.int p.2.calls,.int p.2.price,.dci (dI p.2.cs)])
section
variable {N:List Addr} {τ':List (Str×Bd)} {τ4:List (Str×Bd)} {ω4:List (Addr×OD)}
theorem Sx.melt (S4:Sx prog w s₀ env M X τ4 ω4 s₁) (S:Sx prog w s₀ env (N++M) (N++X) τ ω s) (hN:∀ a∈N,s₀.heap.get? a=none) (hv:∀ x b,τ'.lookup x=some b→∃ v,VarAt s.heap env x v∧BdOk prog w s.heap X b v) :
  Sx prog w s₀ env M X τ' [] s :=
 ⟨⟨S4.cx.ok,S.cx.ns,S.cx.cells,hv,S.cx.top,fun a ha=>S.cx.xlt a (mR ha),S4.cx.xhi,fun p hp=>nomatch hp⟩,
  S.base.dropTo fun a ha=>(List.mem_append.mp ha).elim (fun h=>.inr (hN a h)) .inl,S4.sub,S4.mloc,S4.mcel,fun p hp=>nomatch hp⟩
theorem jl {h:Heap} {X':List Addr} (hX:∀ a∈X,a∈X'):∀ {b:List (Str×Addr×DE)} {ps:List (Str×Value)},RdS prog w h X' (eN b) ps →
  (∀ p∈b,p.2.1∉X∧OwnAt prog w h X' p.2.1 (.dci (dI p.2.2.cs))∧(p.2.1 == sysModules)=false)→RdS prog w h X (eO (b8 b)) ps
 | [],ps,r,_=>by
  have:ps=[]:=by unfold eN at r;simp only [List.map_nil] at r;unfold RdS at r;exact r
  subst this;unfold eO b8;simp only [List.map_nil];unfold RdS;rfl
 | p::b,ps,r,ho=>by
  unfold eN at r;simp only [List.map_cons] at r;refine RdS.consE r fun v q Z1 hv hr=>?_;clear r;subst Z1
  unfold eO b8;simp only [List.map_cons];unfold RdS
  refine ⟨v,q,rfl,?_,jl hX hr fun p hp=>ho p (.tail _ hp)⟩
  refine Rd.tupE (ds:=[.int p.2.2.calls,.int p.2.2.price,.val (.ref p.2.1)]) hv fun a vs n Z1 hax hg hr'=>?_;subst Z1
  refine RdL.consE hr' fun v1 vs1 Z1 h1 Z9=>?_;clear hr';revert Z9;intro hr';subst Z1
  refine RdL.consE hr' fun v2 vs2 Z1 h2 Z9=>?_;clear hr';revert Z9;intro hr';subst Z1
  refine RdL.consE hr' fun v3 vs3 Z1 h3 Z9=>?_;clear hr';revert Z9;intro hr';subst Z1
  have e3:=h3.val_inv
  subst e3
  refine br (ho p (.head _)) fun o1 Z1 o4=>?_;refine ex12 Z1 fun ps' o2 o3=>?_;clear Z1
  have hn:vs3=[]:=by unfold RdL at hr';exact hr'
  subst hn
  refine Rd.tup_ (fun hm=>hax (hX a hm)) hg (RdL.cons (h1.less hX) (RdL.cons (h2.less hX) (RdL.cons (Rd.dci_ o1 ⟨o2,o4⟩ ?_) RdL.nil)))
  exact RdI.mv (fun a o ha e=>⟨fun hm=>ha (hX a hm),e⟩) _ _ o3
theorem kj {K V:Type} [DecidableEq K]:∀ {l:List (K×V)},(l.map (·.1)).Nodup→∀ {i:Nat} {p:K×V},l[i]?=some p→getV l p.1=some p.2:=fun {l} hn i p hi=>by
 have hm:=List.mem_of_getElem? hi
 cases h:getV l p.1 with
 | none=>exact absurd rfl (hH h p hm)
 | some v =>
  have:=ev hn (bZ h) hm rfl
  rw [← this]
end
noncomputable abbrev qd:Type:=List (Str×Addr×DE)×List Row×List Addr
theorem sR (S:Sx prog w s₀ env M X τ ω s) {t e:Expr} {body rest:List Stmt} {p:Pos} {Q:Flow→Shared→Prop} {ds:List D} (hi:EvI prog w A env X s e ds) (inv:Nat→List (Str×Bd)) (O:qd→List (Addr×OD)) (NL:qd→List Addr) (J:Nat→qd→Prop) (t0:qd)
  (σ:Nat→D→List (Str×Bd)) (hN0:NL t0=[]) (hJ0:J 0 t0) (h0:Covers τ (inv 0)) (hO:ω=O t0) (hasg:∀ i d M,ds[i]?=some d→Asg prog w A env M t d (σ i d))
  (turn:∀ i d u X' s',ds[i]?=some d→J i u→(∀ a∈X,a∈X')→Sx prog w s' env (NL u++M) X' (σ i d++inv i) (O u) s' →
   WP prog w A (execs body env) (fun f s''=>match f with
    | .next | .cont=>∃ u' F,J (i + 1) u'∧NL u'=F++NL u∧(∀ a∈F,s'.heap.get? a=none)∧Sx prog w s' env (F++(NL u++M)) (F++X') (inv (i + 1)) (O u') s''
    | _=>False) s')
  (done:∀ u s',J ds.length u→(∀ a∈NL u,s.heap.get? a=none)→Sx prog w s₀ env (NL u++M) (NL u++X) (inv ds.length) (O u) s'→WP prog w A (execs rest env) Q s')
  (hs:autoParam (∀ x,foldedSetIterable e env x=pure x) e8._auto_1):WP prog w A (execs (.For t e body [] p::rest) env) Q s:=by
 revert S hi hN0 hJ0 h0 hO hasg turn done hs
 revert body rest p Q ds inv O NL J t0 σ
 revert prog w A env M X τ ω s s₀ t e;refine @(dr12 ?_);exists w12 _ _,prog,w,A,env,M,X,τ,ω,s,s₀,t,e
 intro body rest p Q ds inv O NL J t0 σ
 revert body rest p Q ds inv O NL J t0 σ;refine @(dr11 ?_);exists w11 _ _,body,rest,p,Q,ds,inv,O,NL,J,t0,σ
 intro S hi hN0 hJ0 h0 hO hasg turn done hs
 refine aK (wpAny_For (wpAny_mono (hi s (Keep.refl _ _)) (fun v s₁ q=>wpAny_mono q.2 (fun it s₂ q₂=>?_) fun Z Z z=>z.elim) fun Z Z z=>z) hs)
 refine ai q₂ fun k₂ Z1=>?_;clear q₂;refine ex32 Z1 fun I wr St Z2 Z3=>?_;subst Z2;rcases Z3 with ⟨⟨fp,P,W,hfp,hP⟩,hst,hnew,hhi,hlive,hgo⟩;clear Z1
 have k₁:=q.1
 have S1:=S.keep k₁
 have S2:Sx prog w s₀ env M (wr++X) (inv 0) (O t0) s₂:=((S1.avoid hnew k₂ (hlive _ _ hst) hhi).cover h0).owns (by rw [hO];exact fun Z h=>h)
 have hwM:∀ b∈wr,b∉M:=fun b hb hm=>by
  have:=S1.cx.xlt b (S1.sub b hm)
  rw [hnew b hb] at this;exact nB this
 have hwC:∀ p∈env.cells,p.2∉wr:=fun p hp hm=>by
  have:=S1.cx.xlt _ (S1.cx.ok.cel p hp).1
  rw [hnew _ hm] at this;exact nB this
 refine dr (fun n s'=>∃ i u,n=ds.length - i∧i≤ds.length∧J i u∧(∀ a∈NL u,s₂.heap.get? a=none)∧Keep (wr++(NL u++M)) s₂ s'∧Sx prog w s' env (NL u++M) (NL u++(wr++X)) (inv i) (O u) s'∧St i s'.heap) (fun n s' hI=>?_) (ds.length)
  ⟨0,t0,rfl,Nat.zero_le _,hJ0,by rw [hN0];exact fun a h=>(List.not_mem_nil h).elim,Keep.refl _ _,by rw [hN0];exact S2.rebase,hst⟩
 obtain ⟨i,u,rfl,hil,hJ,hNf,kI,SI,hSt⟩:=hI
 have hwN:∀ b∈wr,b∉NL u:=fun b hb hm=>by
  have h1:=hlive _ _ hst b hb
  rw [hNf b hm] at h1;exact nB h1
 have hwNM:∀ b∈wr,b∉NL u++M:=fun b hb hm=>(List.mem_append.mp hm).elim (hwN b hb) (hwM b hb)
 by_cases hlt:i < ds.length
 ·refine W.item i s' _ _ hlt hSt fun v h₁ tk1 hPv hstA hkA=>?_
  refine ex12 (hP i v hPv) fun d hd hrd=>?_
  refine ai (SI.other (Y:=wr) hkA (fun b hb Z=>hlive _ _ hstA b hb) (fun b hb=>mR (mL hb)) hwNM hwC (tk:=tk1)) fun Sa ka=>?_
  have hrd':Rd prog w h₁ (NL u++(wr++X)) d v:=hrd h₁ _ fun a o ha e=>by
   have haw:a∉wr:=fun hm=>by rw [hnew a hm] at e;exact nO e
   have h2:=k₂.heap a o (fun h=>nomatch h) e
   have haN:a∉NL u:=fun hm=>by rw [hNf a hm] at h2;exact nO h2
   have h3:=kI.heap a o (fun hm=>(List.mem_append.mp hm).elim haw fun hm=>(List.mem_append.mp hm).elim haN fun hm=>ha (S.sub a hm)) h2
   exact ⟨fun hm=>(List.mem_append.mp hm).elim haN fun hm=>(List.mem_append.mp hm).elim haw ha,hkA a o haw h3⟩
  dsimp only
  refine ex23 (hgo _ _ hstA) fun oI nI g1 g2 g3=>?_
  refine wpAny_mono (cg (s:={ s' with heap:=h₁,toks:=tk1 }) g1 g2 g3 ?_) (fun Z Z z=>z) fun Z Z z=>z.elim
  refine wpAny_mono (hasg i d (NL u++M) hd (NL u++(wr++X)) _ _ _ _ v _ Sa hrd' fun s₃ k₃ S3=>wpAny_mono (turn i d u (NL u++(wr++X)) s₃ hd hJ (fun a ha=>mR (mR ha)) S3.rebase) (fun f s₄ hf=>?_) fun Z Z z=>z.elim) (fun Z Z z=>z) fun Z Z z=>z.elim
  have k23:Keep (wr++(NL u++M)) s₂ s₃:=(kI.trans (ka.more fun b hb=>mL hb)).trans (k₃.more fun b hb=>mR hb)
  have again:(∃ u' F,J (i + 1) u'∧NL u'=F++NL u∧(∀ a∈F,s₃.heap.get? a=none)∧Sx prog w s₃ env (F++(NL u++M)) (F++(NL u++(wr++X))) (inv (i + 1)) (O u') s₄) →
    ∃ m,m < ds.length - i∧∃ i u,m=ds.length - i∧i≤ds.length∧J i u∧(∀ a∈NL u,s₂.heap.get? a=none)∧Keep (wr++(NL u++M)) s₂ s₄∧Sx prog w s₄ env (NL u++M) (NL u++(wr++X)) (inv i) (O u) s₄∧St i s₄.heap:=by
   rintro ⟨u',F,hJ',hNL,hF,S4⟩
   have hF2:∀ a∈F,s₂.heap.get? a=none:=fun a ha=>k23.none_back (hF a ha)
   refine ⟨ds.length - (i + 1),by lia,i + 1,u',rfl,hlt,hJ',fun a ha=>?_,?_,?_,?_⟩
   ·rw [hNL] at ha;exact (List.mem_append.mp ha).elim (hF2 a) (hNf a)
   ·rw [hNL]
    refine (k23.more fun b hb=>?_).trans (S4.base.more fun b hb=>?_)
    ·exact (List.mem_append.mp hb).elim (fun h=>mL h) fun h=>mR ((List.mem_append.mp h).elim (fun h=>mL (mR h)) fun h=>mR h)
    ·exact mR (by rw [List.append_assoc];exact hb)
   ·rw [hNL,List.append_assoc,List.append_assoc];exact S4.rebase
   ·refine W.frame _ _ _ hstA fun b hb o e=>?_
    have hbM:b∉M:=fun hm=>(hfp b hb).1 (S.sub b hm)
    have hbN:b∉NL u:=fun hm=>by
     have h1:=(hfp b hb).2
     rw [hNf b hm] at h1;exact nB h1
    have e3:=k₃.heap b o (fun hm=>(List.mem_append.mp hm).elim hbN hbM) e
    have hbF:b∉F:=fun hm=>by rw [hF b hm] at e3;exact nO e3
    exact S4.base.heap b o (fun hm=>(List.mem_append.mp hm).elim hbF fun hm=>(List.mem_append.mp hm).elim hbN hbM) e3
  cases f with
  | next=>exact again hf
  | cont=>exact again hf
  | brk=>exact hf.elim
  | ret v=>exact hf.elim
 ·have hi':i=ds.length:=by lia
  subst hi'
  refine W.done s' _ _ hSt fun h₁ tk1 hkA=>?_
  dsimp only
  have hNs:∀ a∈NL u,s.heap.get? a=none:=fun a ha=>k₁.none_back (k₂.none_back (hNf a ha))
  have k':Keep (NL u++M) s s':=((k₁.trans k₂).any.trans kI).dropTo fun b hb=>(List.mem_append.mp hb).elim (fun h=>.inr (k₁.none_back (hnew b h))) .inl
  have hsw:∀ a,(s.heap.get? a).isSome=true→a∉wr:=fun a ha hm=>by rw [k₁.none_back (hnew a hm)] at ha;exact nB ha
  have kend:Keep (NL u++M) s { s' with heap:=h₁,toks:=tk1 }:=⟨fun a o ha e=>hkA a o (hsw a (by rw [e];rfl)) (k'.heap a o ha e),fun a ha=>by
   have:=k'.live a ha
   cases e:s'.heap.get? a with
   | none=>rw [e] at this;exact nB this
   | some o=>show (h₁.get? a).isSome=true;rw [hkA a o (hsw a ha) e];rfl,k'.gens,k'.bare,k'.os⟩
  have SI':Sx prog w s' env (NL u++M) (wr++(NL u++X)) (inv ds.length) (O u) s':=SI.shrink (fun a ha=>by
    simp only [List.mem_append] at ha ⊢
    refine ly ha (fun h=>?_) (fun h=>?_) fun h=>?_
    ·exact .inr (.inl h)
    ·exact .inl h
    ·exact .inr (.inr h)) (fun a ha=>by
    simp only [List.mem_append] at ha ⊢
    refine bQ ha (fun h=>?_) fun h=>?_
    ·exact .inr (.inl h)
    ·exact .inr (.inr (S.sub a h))) (fun p hp=>mR (mR ((S.cx.ok.cel p hp).1)))
  refine ax (prog:=prog) (w:=w) (A:=A) (env:=env) (Q:=fun f s=>c5 prog w A env rest Q f s) (done u _ hJ hNs (SI'.leave hkA (fun b hb hx=>?_) (fun a ha=>?_) (fun p hp=>mR ((S.cx.ok.cel p hp).1)) ((S.base.more fun b hb=>mR hb).trans kend)))
  ·refine mA hx (fun hx=>?_) fun hx=>?_
   ·exact hwN b hb hx
   ·have:=S1.cx.xlt b hx;rw [hnew b hb] at this;exact nB this
  ·refine mA ha (fun ha=>?_) fun ha=>?_
   ·exact mL ha
   ·exact mR (S.sub a ha)
noncomputable def dR (x:List Nat) (t:Str):Int:=if t == tx x then 1 else 0
noncomputable def bkStep (x:List Nat) (share:Int) (bk:List (Str×Ent)) (p:Str×DE):List (Str×Ent):=putN bk p.1 ⟨dR x p.1,p.2.calls,dR x p.1 * share,p.2.price,p.2.cs⟩
theorem om (x:List Nat) (share:Int):∀ (l:List (Str×DE)) (bk:List (Str×Ent)),(l.foldl (bkStep x share) bk).length≤bk.length + l.length
 | [],bk=>Nat.le_refl _
 | p::l,bk=>by
  have h:=om x share l (bkStep x share bk p)
  have h1:(bkStep x share bk p).length≤bk.length + 1:=bY _ _ _
  rw [List.foldl_cons,List.length_cons];lia
noncomputable def rowE (r:Row):D:=.tup [.int r.cut,.str (tx r.text)]
noncomputable def t4:D→D
 | .tup [_,c,_,t]=>.tup [c,t]
 | _=>.none
theorem sS (n:Nat) (x:List Nat) (share:Int) (hn:n=2∨n=3) (hx:x.length=n + 1) (q:Array Nat) (hS:SortF (dueAll n x (ordersL (n + 1)).length).2 q) :
  Fn prog w 4 172 [.str (tx x),.int share] (.tup [.lst (q.toList.map fun i=>rowE ((dueAll n x (ordersL (n + 1)).length).2.getD i row0)),.dcs (dB ((dueAll n x (ordersL (n + 1)).length).1.foldl (bkStep x share) []))]):=by
 revert hn hx hS
 revert prog w n x share q;refine @(dr6 ?_);exists w6 _ _,prog,w,n,x,share,q
 intro hn hx hS
 exact c7 (i:=24) (names:=["word", "share"]) (by decide +kernel) (fun A s X env M s₁ ao g hsc hM hlo hce S=>by
  first | (revert ao g hsc hM hlo hce S;revert A s X env M s₁;refine @(dr6 ?_);exists w6 _ _,A,s,X,env,M,s₁;intro ao g hsc hM hlo hce S) | skip
  have fe:Fe env 24:=⟨hsc,hlo,hce⟩
  have h2n:(2:Nat) ^ n≤8:=by (refine bQ hn (fun Z1=>?_) fun Z1=>?_ <;> subst Z1) <;> decide
  have hpow:(2:Int) ^ (((n:Int) + 1 - 1).toNat)=((2 ^ n:Nat):Int):=by rw [Int.add_sub_cancel];simp
  refine aC S (.int ((n:Int) + 1)) (fe.ownC rfl rfl) ((fC S.cx (aY _ S.cx (fe.gl rfl) rfl) (aH (aa (.str (tx x)) S.cx rfl) al) (by rw [aP];lia)).to (congrArg D.int (by rw [aP,hx];simp))) fun s₂ S2=>?_
  refine aC S2 (.rng (2 ^ n)) (fe.own rfl) (rB S2.cx (aY _ S2.cx (fe.gl rfl) rfl) (aH ((aF S2.cx (ag (i:=2)) (aF S2.cx (aa (.int ((n:Int) + 1)) S2.cx rfl) (ag (i:=1)) cO) (iW (by lia) (by lia) (by decide))).to (congrArg D.int hpow)) al)) fun s₃ S3=>?_
  refine aC S3 (.lst ((aB 0 1 (2 ^ n)).map (f8 n))) (fe.ownC rfl rfl) ((dc (τf:=[("count",.d (.int ((n:Int) + 1)))]) (ds:=aB 0 1 (2 ^ n)) (σ:=fun d=>[("cut",.d d)]) (pz:=fun Z=>true) (g:=f8 n) S3.cx (n5 S3.cx ao.h (aa (.rng (2 ^ n)) S3.cx rfl) (by exact Nat.lt_of_le_of_lt h2n (by decide))) (fun s' k=>?_) (by decide +kernel)).to (by rw [List.filter_eq_self.mpr (fun Z Z=>rfl)])) (fun s₄ S4=>?_) (jN fe rfl)
  ·refine ⟨(aE fe (by decide +kernel)).1,(aE fe (by decide +kernel)).2,by decide +kernel,by decide +kernel,⟨rfl,trivial⟩,by rfl,by rw [aq];exact Nat.le_add_left_of_le h2n,fun d hd=>⟨rfl,trivial⟩,fun d hd cenv M ce=>au (ce.st rfl),fun d hd cenv X'' ω s'' hX'' ce c=>bH,fun d hd Z cenv X'' ω s'' hX'' ce c=>?_⟩
   refine mM hd fun i hi Z1=>?_;subst Z1
   generalize hci:(0 + (i:Int) * 1)=ci at c
   refine (dc (τf:=[("cut",.d (.int ci))]) (ds:=aB 0 1 (n + 1)) (σ:=fun d=>[("place",.d d)]) (pz:=fun Z=>true) (g:=sP ci) c (bA (n:=n + 1) c ao.h (aY _ c (ce.gl rfl) rfl) (aH ((aa (.int ((n:Int) + 1)) c rfl).to (by simp)) al) (by lia)) (fun s' k=>?_) (by decide +kernel)).to (by rw [List.filter_eq_self.mpr (fun Z Z=>rfl),pS];rfl)
   refine ⟨(fk ce (by decide +kernel)).1,(fk ce (by decide +kernel)).2,by decide +kernel,by decide +kernel,⟨rfl,trivial⟩,by rfl,by rw [aq];lia,fun d hd=>⟨rfl,trivial⟩,fun d hd cenv M ce=>au (ce.st rfl),fun d hd cenv X'' ω s'' hX'' ce c=>bH,fun d hd Z cenv X'' ω s'' hX'' ce1 c=>?_⟩
   refine mM hd fun p hp Z1=>?_;subst Z1
   have hp':p < n + 1:=List.mem_range.mp hp
   rw [show (0 + (p:Int) * 1)=(p:Int) by lia] at c ⊢
   refine sn (l:=(List.range p).map fun (j:Nat)=>iX ci j) c ao.h (aY _ c (ce1.gl rfl) rfl) ((dc (τf:=[("cut",.d (.int ci))]) (ds:=aB 0 1 p) (σ:=fun d=>[("j",.d d)]) (pz:=fun Z=>true) (g:=sO ci) c (bA (n:=p) c ao.h (aY _ c (ce1.gl rfl) rfl) (aH (aa (.int (p:Int)) c rfl) al) (by lia)) (fun s' k=>?_) (by decide +kernel)).to (by rw [List.filter_eq_self.mpr (fun Z Z=>rfl),pR]))
   refine ⟨(fk ce1 (by decide +kernel)).1,(fk ce1 (by decide +kernel)).2,by decide +kernel,by decide +kernel,⟨rfl,trivial⟩,by rfl,by rw [aq];lia,fun d hd=>⟨rfl,trivial⟩,fun d hd cenv M ce=>au (ce.st rfl),fun d hd cenv X'' ω s'' hX'' ce c=>bH,fun d hd Z cenv X'' ω s'' hX'' ce2 c=>?_⟩
   refine mM hd fun j hj Z1=>?_;subst Z1
   exact aF c (aF c (aa (.int ci) c rfl) (aa (.int (0 + (j:Int) * 1)) c rfl) (qv (by exact Int.natCast_nonneg _))) (ag (i:=1)) mT
  refine cj (ds:=[]) S4 (fe.own rfl) al (by decide) fun ar s₅ har S5=>?_
  refine iq S5 (fe.own rfl) fun ad s₆ had S6=>?_
  have hra:ad≠ar:=fun e=>by
   have:=S5.cx.xlt ar (.head _)
   rw [← e,had] at this;exact nB this
  have hN:(ordersL (n + 1)).length≤30:=by (refine bQ hn (fun Z1=>?_) fun Z1=>?_ <;> subst Z1) <;> decide
  have hord:∀ o∈ordersL (n + 1),OrdF n o:=fun o ho=>n8 (kh n (by (refine bQ hn (fun Z1=>?_) fun Z1=>?_ <;> subst Z1) <;> simp) o ho)
  refine sR S6 (ds:=(ordersL (n + 1)).map am) (bu S6.cx ao.h ((b5 (i:=23) S6.cx (ao.less (by exact Nat.succ_pos _)) (nk (n + 1) (by lia)) (by decide) (bj _ S6.cx (fe.gl rfl) rfl) (aH ((aa (.int ((n:Int) + 1)) S6.cx rfl).to (by simp)) al)))) (fun Z=>ki n x share ar ad) (fun u=>dJ ar ad u.1 u.2.1) (fun u=>u.2.2)
   (fun i u=>DueJ ar ad u.1 u.2.1 i∧(b8 u.1,u.2.1)=dueAll n x i∧∀ p∈u.1,p.2.1∈u.2.2) ([],[],[]) (fun i d=>[("order",.d d)]) rfl ⟨⟨by simp,by simp,(fun p hp=>nomatch hp),(fun p hp=>nomatch hp),Nat.le_refl _,Nat.le_refl _,(fun p hp=>nomatch hp)⟩,rfl,(fun p hp=>nomatch hp)⟩ ⟨rfl,rfl,rfl,rfl,rfl,rfl,rfl,trivial⟩ rfl
   (fun i d M' Z=>au (fe.ownC rfl rfl)) (fun i d u X' s₇ hd hJ hX S7=>?_) (fun u s₇ hJ hfr S7=>?_)
  ·rw [List.getElem?_map] at hd
   refine mO hd fun o ho Z1=>?_;subst Z1
   have hi:i < (ordersL (n + 1)).length:=(List.getElem?_eq_some_iff.mp ho).1
   obtain ⟨b,rows,nl⟩:=u
   refine br hJ fun hJ hP hbn=>?_
   dsimp only at hJ hP hbn S7
   refine wpAny_mono (oi hn hx (hord o (List.mem_of_getElem? ho)) (ao.less (by exact Nat.succ_pos _)) fe hJ (by exact Nat.le_of_lt (Nat.lt_of_lt_of_le hi hN)) hra S7) (fun f s₈ hf=>?_) fun Z Z z=>z
   have hout:(∃ b' bn,s₇.heap.get? bn=none∧DueJ ar ad b' (aN n x (b8 b,rows) o).2 (i + 1)∧b8 b'=(aN n x (b8 b,rows) o).1∧(∀ p∈b',p.2.1=bn∨∃ q∈b,p.2.1=q.2.1)∧Sx prog w s₇ env (bn::(nl++(ad::ar::M))) (bn::X') (ki n x share ar ad) (dJ ar ad b' (aN n x (b8 b,rows) o).2) s₈) →
     ∃ (u':List (Str×Addr×DE)×List Row×List Addr) (F:List Addr),(DueJ ar ad u'.1 u'.2.1 (i + 1)∧(b8 u'.1,u'.2.1)=dueAll n x (i + 1)∧∀ p∈u'.1,p.2.1∈u'.2.2)∧u'.2.2=F++nl∧(∀ a∈F,s₇.heap.get? a=none)∧Sx prog w s₇ env (F++(nl++(ad::ar::M))) (F++X') (ki n x share ar ad) (dJ ar ad u'.1 u'.2.1) s₈:=by
    rintro ⟨b',bn,h1,h2,h3,h5,h4⟩
    refine ⟨(b',(aN n x (b8 b,rows) o).2,bn::nl),[bn],⟨h2,?_,fun p hp=>?_⟩,rfl,fun a ha=>by rw [ay ha];exact h1,h4⟩
    ·rw [ji ho,← hP,h3]
    ·rcases h5 p hp with h | ⟨q,hq,h⟩
     ·exact List.mem_cons.mpr (.inl h)
     ·exact List.mem_cons.mpr (.inr (h ▸ hbn q hq))
   cases f with
   | next=>exact hout hf
   | cont=>exact hout hf
   | brk=>exact hf.elim
   | ret v=>exact hf.elim
  ·rw [List.length_map] at hJ
   obtain ⟨b,rows,nl⟩:=u
   refine br hJ fun hJ hP hbn=>?_
   dsimp only at hJ hP hbn S7 hfr
   have hnlX:∀ a∈nl,a∉M++X:=fun a ha hm=>by
    have:=S6.cx.xlt a (.tail _ (.tail _ hm))
    rw [hfr a ha] at this;exact nB this
   have hadX:ad∉M++X:=fun hm=>by
    have:=S5.cx.xlt ad (.tail _ hm)
    rw [had] at this;exact nB this
   have harX:ar∉M++X:=fun hm=>by
    have:=S4.cx.xlt ar hm
    rw [har] at this;exact nB this
   have S7':Sx prog w s env ((nl++[ad,ar])++M) ((nl++[ad,ar])++(M++X)) (ki n x share ar ad) (dJ ar ad b rows) s₇:=by
    rw [List.append_assoc,List.append_assoc];exact S7
   have hsub:∀ a∈M++X,a∈(nl++[ad,ar])++(M++X):=fun a ha=>mR ha
   have hlt:∀ y u,(ki n x share ar ad).lookup y=some u→∃ v,VarAt s₇.heap env y v∧BdOk prog w s₇.heap (M++X) u v:=fun y u h=>by
    refine ex12 (S7'.cx.vars y u h) fun v h1 h2=>?_
    exact ⟨v,h1,h2.less hsub⟩
   let τ':List (Str×Bd):=[("due",.d (.dcs (eO (b8 b)))),("rows",.d (.lst (rows.map Row.d))),("word",.d (.str (tx x))),("share",.d (.int share))]
   have S8:Sx prog w s env M (M++X) τ' [] s₇:=Sx.melt (N:=nl++[ad,ar]) S4 S7' (fun a ha=>by
    refine mA ha (fun ha=>?_) fun ha=>?_
    ·exact S6.base.none_back (hfr a ha)
    ·simp only [List.mem_cons,List.not_mem_nil,or_false] at ha
     refine bQ ha (fun Z1=>?_) fun Z1=>?_ <;> subst Z1
     ·exact S5.base.none_back had
     ·exact S4.base.none_back har) fun y u h=>by
    have hm:=ak h
    simp only [τ',List.mem_cons,List.not_mem_nil,or_false] at hm
    refine oQ hm (fun e=>?_) (fun e=>?_) (fun e=>?_) fun e=>?_
    ·refine ai (Prod.mk.inj e) fun Z1 Z2=>?_;subst Z1;subst Z2
     refine ex12 (S7'.cx.vars "due" (.v (.ref ad)) rfl) fun v h1 h2=>?_
     have h2':v=.ref ad:=h2
     subst h2'
     refine ai (S7'.cx.own (ad,.dcs (eN b)) (.head _)) fun Z1 Z=>?_;refine ex12 Z1 fun ps hd hr=>?_;clear Z1
     refine ⟨_,h1,Rd.dcs_ hadX ⟨hd,S7'.sysS (.head _)⟩ (jl hsub hr fun p hp=>?_)⟩
     have hpm:((p.2.1,OD.dci (dI p.2.2.cs)):Addr×OD)∈dJ ar ad b rows:=.tail _ (.tail _ (List.mem_map_of_mem (f:=fun (p:Str×Addr×DE)=>(p.2.1,OD.dci (dI p.2.2.cs))) hp))
     exact ⟨hnlX _ (hbn p hp),(S7'.cx.own _ hpm).1,S7'.sysI hpm⟩
    ·refine ai (Prod.mk.inj e) fun Z1 Z2=>?_;subst Z1;subst Z2
     refine ex12 (S7'.cx.vars "rows" (.v (.ref ar)) rfl) fun v h1 h2=>?_
     have h2':v=.ref ar:=h2
     subst h2'
     refine ai (S7'.cx.own (ar,.lst (rows.map Row.d)) (.tail _ (.head _))) fun Z1 Z=>?_;refine ex22 Z1 fun vs m hd hr=>?_;clear Z1
     exact ⟨_,h1,Rd.lst_ harX hd (hr.less hsub)⟩
    ·refine ai (Prod.mk.inj e) fun Z1 Z2=>?_;subst Z1;subst Z2
     exact hlt _ _ rfl
    ·refine ai (Prod.mk.inj e) fun Z1 Z2=>?_;subst Z1;subst Z2
     exact hlt _ _ rfl
   have hP1:(dueAll n x (ordersL (n + 1)).length).1=b8 b:=by rw [← hP]
   have hP2:(dueAll n x (ordersL (n + 1)).length).2=rows:=by rw [← hP]
   rw [hP1,hP2]
   rw [hP2] at hS
   let dl:=b8 b
   have hkn:(dl.map (·.1)).Nodup:=by show ((b8 b).map _).Nodup;unfold b8;rw [List.map_map];exact hJ.keys
   have hdl:dl.length≤30:=by show (b8 b).length≤30;unfold b8;rw [List.length_map];exact Nat.le_trans hJ.len hN
   refine iq S8 (fe.own rfl) fun ab s₉ hab S9=>?_
   let τw:List (Str×Bd):=[("book",.v (.ref ab)),("due",.d (.dcs (eO dl))),("rows",.d (.lst (rows.map Row.d))),("word",.d (.str (tx x))),("share",.d (.int share))]
   refine fE S9 (ds:=(eO dl).map fun kv=>.str kv.1) (iY S9.cx ao.h (aa (.dcs (eO dl)) S9.cx rfl)) (fun Z=>τw) (fun i=>[(ab,.dcs (dB ((dl.take i).foldl (bkStep x share) [])))]) (fun Z Z=>False) (fun i d=>[("text",.d d)]) ⟨rfl,rfl,rfl,rfl,rfl,trivial⟩ rfl
    (fun i d Z=>au (fe.own rfl)) (fun i d X' s' hd hX S'=>?_) (fun s' S'=>?_) (fun Z Z Z h=>h.elim)
   ·rw [eO,List.map_map,List.getElem?_map] at hd
    refine mO hd fun p hp Z1=>?_;subst Z1
    have hi:i < dl.length:=(List.getElem?_eq_some_iff.mp hp).1
    have hget:cK (eO dl) p.1=some (.tup [.int p.2.calls,.int p.2.price,.dci (dI p.2.cs)]):=by
     rw [eO,dj (fun (e:DE)=>D.tup [.int e.calls,.int e.price,.dci (dI e.cs)]),kj hkn hp];rfl
    have S'':Sx prog w s' env (ab::M) X' (("text",.d (.str p.1))::τw) _ s':=S'
    refine dw S'' [("calls",_),("price",_),("callers",_)] (ds:=[.int p.2.calls,.int p.2.price,.dci (dI p.2.cs)]) ao.h (fun y hy=>?_) rfl (cH S''.cx (aa (.dcs (eO dl)) S''.cx rfl) (aa (.str p.1) S''.cx rfl) (iZ hget (by intro o u hu;with_unfolding_all rfl))) (fun s10 S10=>?_) rfl rfl
    ·simp only [List.mem_cons,List.not_mem_nil,or_false] at hy
     (refine ly hy (fun Z1=>?_) (fun Z1=>?_) fun Z1=>?_ <;> subst Z1) <;> exact fe.own rfl
    refine aC S10 (.int (dR x p.1)) (fe.own rfl) (ux (aZ S10.cx (aa (.str p.1) S10.cx rfl) (aa (.str (tx x)) S10.cx rfl) gX) (fun h=>(ag (i:=1)).to (by unfold dR;rw [if_pos h])) (fun h=>(ag (i:=0)).to (by unfold dR;rw [if_neg (by rw [h];simp)]))) fun s11 S11=>?_
    have c:=S11.cx
    refine mW (ω1:=[]) (ω2:=[]) (k:=p.1) (d:=Ent.d ⟨dR x p.1,p.2.calls,dR x p.1 * share,p.2.price,p.2.cs⟩) S11 (bp (ds:=[.int (dR x p.1),.int p.2.calls,.int (dR x p.1 * share),.int p.2.price,.dci (dI p.2.cs)]) c (aH (aa (.int (dR x p.1)) c rfl) (aH (aa (.int p.2.calls) c rfl)
     (aH (aF c (aa (.int (dR x p.1)) c rfl) (aa (.int share) c rfl) (iV (IntMulOk.of_left (by unfold dR;split <;> decide)))) (aH (aa (.int p.2.price) c rfl) (aH (aa (.dci (dI p.2.cs)) c rfl) al))))) (Nat.le_trans (by decide:5≤1000) (Nat.le_refl _))) (az (.ref ab) c rfl) (aa (.str p.1) c rfl) rfl (by simp) (by
      rw [List.length_map];have:=om x share (dl.take i) [];rw [List.length_take] at this;simp only [List.length_nil] at this;lia) fun s12 S12=>ax ?_
    rw [fN Ent.d] at S12
    show Sx _ _ _ _ _ _ _ _ _
    rw [bv hp]
    exact S12.cover ⟨rfl,rfl,rfl,rfl,rfl,trivial⟩
   ·rw [List.length_map,show (eO dl).length=dl.length by unfold eO;rw [List.length_map],List.take_length] at S'
    let L:List D:=q.toList.map fun i=>rowE (rows.getD i row0)
    refine ca S' (bp (ds:=[.lst L,.val (.ref ab)]) S'.cx (aH ((dc (τf:=[]) (ds:=q.toList.map fun i=>(rows.getD i row0).d) (σ:=fun d=>match d with | .tup ds=>gq ["laid", "cut", "path", "text"] ds [] | _=>[]) (pz:=fun Z=>true) (g:=t4) S'.cx
      (bu S'.cx ao.h (qb (k:=1) S'.cx ao (aY _ S'.cx (fe.gl rfl) rfl) (aH (aa (.lst (rows.map Row.d)) S'.cx rfl) al) hS)) (fun s'' k=>?_) (by decide +kernel)).to (by rw [List.filter_eq_self.mpr (fun Z Z=>rfl),List.map_map];rfl)) (aH (EvV.d (az (.ref ab) S'.cx rfl) fun Z=>Rd.val_) al)) (Nat.le_trans (by decide:2≤1000) (Nat.le_refl _))) fun s'' v S'' hv=>?_
    ·refine ⟨(aE fe (by decide +kernel)).1,(aE fe (by decide +kernel)).2,by decide +kernel,by decide +kernel,trivial,by rfl,by rw [List.length_map];have:=hS.qn;rw [Array.length_toList];exact Nat.le_add_left_of_le this,fun d hd=>trivial,fun d hd cenv M ce=>?_,fun d hd cenv X'' ω s'' hX'' ce c=>bH,fun d hd Z cenv X'' ω s'' hX'' ce c=>?_⟩
     ·refine mM hd fun j hj Z1=>?_;subst Z1
      exact d7 [("laid",_),("cut",_),("path",_),("text",_)] (ds:=[.int (rows.getD j row0).laid,.int (rows.getD j row0).cut,am (rows.getD j row0).path,.str (tx (rows.getD j row0).text)]) ao.h (fun y hy=>by
       simp only [List.mem_cons,List.not_mem_nil,or_false] at hy
       (refine oQ hy (fun Z1=>?_) (fun Z1=>?_) (fun Z1=>?_) fun Z1=>?_ <;> subst Z1) <;> exact ce.st rfl) rfl
     ·refine mM hd fun j hj Z1=>?_;subst Z1
      exact bp (ds:=[.int (rows.getD j row0).cut,.str (tx (rows.getD j row0).text)]) c (aH (aa (.int (rows.getD j row0).cut) c rfl) (aH (aa (.str (tx (rows.getD j row0).text)) c rfl) al)) (Nat.le_trans (by decide:2≤1000) (Nat.le_refl _))
    ·refine ai (S''.retDS g (S8.base.none_back hab) (.head _)) fun z1 z2=>?_
     have hsubX:∀ a∈X,a∈ab::(M++X):=fun a ha=>.tail _ (mR ha)
     refine Rd.tupE (ds:=[.lst L,.val (.ref ab)]) hv fun a vs m Z1 hax hg hr=>?_;subst Z1
     refine RdL.consE hr fun v1 vs1 Z1 h1 Z9=>?_;clear hr;revert Z9;intro hr;subst Z1
     refine RdL.consE hr fun v2 vs2 Z1 h2 Z9=>?_;clear hr;revert Z9;intro hr;subst Z1
     have e2:=h2.val_inv
     subst e2
     have e3:vs2=[]:=by unfold RdL at hr;exact hr
     subst e3
     exact ⟨z1,Rd.tup_ (fun hm=>hax (hsubX a hm)) hg (RdL.cons (h1.less hsubX) (RdL.cons z2 RdL.nil))⟩) (il fun Z Z Z Z Z=>rfl)
noncomputable def uH:List Nat:=[0,14,5,28,2,40,12,74,8,38,11,68,30,36,48,66,29,35,47,65,18,26,50,72,16,22,46,62,44,60,43,59,17,25,49,71,15,21,45,61,4,7,42,58,41,57,13,27,39,73,37,67,34,64,33,63,3,24,10,70,1,20,9,56,32,54,31,53,23,69,19,55,6,52,51]
noncomputable def uI:List Nat:=[0,4,2,12,6,10,5,9,3,11,1,8,7]
noncomputable def uJ:List Row:=[⟨0,0,[],[]⟩,⟨3,1,[1,1,1],[]⟩,⟨2,2,[1,1],[]⟩,⟨3,3,[2,2,1],[]⟩,⟨1,4,[1],[]⟩,⟨3,5,[2,1,1],[]⟩,⟨2,6,[2,1],[]⟩,⟨3,7,[3,2,1],[]⟩,⟨2,4,[0,1],[]⟩,⟨3,5,[1,2,1],[]⟩,⟨2,6,[1,2],[]⟩,⟨3,7,[2,3,1],[]⟩,⟨3,4,[0,0,1],[]⟩,⟨3,5,[1,1,2],[]⟩,⟨3,6,[1,0,2],[]⟩,⟨3,7,[2,1,3],[]⟩,⟨3,4,[0,0,0],[]⟩,⟨3,5,[1,1,0],[]⟩,⟨3,6,[1,0,0],[]⟩,⟨3,7,[2,1,0],[]⟩,⟨3,2,[1,0,1],[]⟩,⟨3,3,[2,1,2],[]⟩,⟨3,6,[2,0,1],[]⟩,⟨3,7,[3,1,2],[]⟩,⟨3,2,[0,1,1],[]⟩,⟨3,3,[1,2,2],[]⟩,⟨3,6,[0,2,1],[]⟩,⟨3,7,[1,3,2],[]⟩,⟨3,6,[0,1,2],[]⟩,⟨3,7,[1,2,3],[]⟩,⟨3,6,[0,1,0],[]⟩,⟨3,7,[1,2,0],[]⟩,⟨3,2,[1,0,0],[]⟩,⟨3,3,[2,1,0],[]⟩,⟨3,6,[2,0,0],[]⟩,⟨3,7,[3,1,0],[]⟩,⟨3,2,[0,1,0],[]⟩,⟨3,3,[1,2,0],[]⟩,⟨3,6,[0,2,0],[]⟩,⟨3,7,[1,3,0],[]⟩,⟨2,2,[0,0],[]⟩,⟨2,3,[1,0],[]⟩,⟨3,6,[0,0,2],[]⟩,⟨3,7,[1,0,3],[]⟩,⟨3,6,[0,0,1],[]⟩,⟨3,7,[1,0,2],[]⟩,⟨3,1,[1,1,0],[]⟩,⟨3,3,[2,2,0],[]⟩,⟨3,5,[2,1,0],[]⟩,⟨3,7,[3,2,0],[]⟩,⟨3,5,[1,2,0],[]⟩,⟨3,7,[2,3,0],[]⟩,⟨3,5,[1,0,2],[]⟩,⟨3,7,[2,0,3],[]⟩,⟨3,5,[1,0,1],[]⟩,⟨3,7,[2,0,1],[]⟩,⟨2,1,[1,0],[]⟩,⟨3,3,[2,0,2],[]⟩,⟨2,5,[2,0],[]⟩,⟨3,7,[3,0,2],[]⟩,⟨1,1,[0],[]⟩,⟨3,3,[0,2,2],[]⟩,⟨2,5,[0,2],[]⟩,⟨3,7,[0,3,2],[]⟩,⟨3,5,[0,1,2],[]⟩,⟨3,7,[0,2,3],[]⟩,⟨3,5,[0,1,1],[]⟩,⟨3,7,[0,2,1],[]⟩,⟨3,3,[2,0,1],[]⟩,⟨3,7,[3,0,1],[]⟩,⟨3,3,[0,2,1],[]⟩,⟨3,7,[0,3,1],[]⟩,⟨2,3,[0,1],[]⟩,⟨3,7,[0,1,3],[]⟩,⟨3,7,[0,1,2],[]⟩]
noncomputable def uK:List Row:=[⟨0,0,[],[]⟩,⟨2,1,[1,1],[]⟩,⟨1,2,[1],[]⟩,⟨2,3,[2,1],[]⟩,⟨2,2,[0,1],[]⟩,⟨2,3,[1,2],[]⟩,⟨2,2,[0,0],[]⟩,⟨2,3,[1,0],[]⟩,⟨2,1,[1,0],[]⟩,⟨2,3,[2,0],[]⟩,⟨1,1,[0],[]⟩,⟨2,3,[0,2],[]⟩,⟨2,3,[0,1],[]⟩]
noncomputable def q3:Array Nat:=#[0,60,4,56,40,2,72,41,8,62,58,10,6,46,1,36,24,32,20,70,61,37,25,68,57,33,21,47,3,16,12,66,64,54,52,17,13,50,9,48,5,44,42,30,28,38,26,18,14,34,22,74,73,67,65,71,63,45,43,31,29,39,27,55,53,19,15,51,11,69,59,35,23,49,7]
noncomputable def q2:Array Nat:=#[0,10,2,8,1,6,4,12,11,7,5,9,3]
noncomputable def t5:Array Nat:=#[0,4,2,8,10,6,1,36,24,32,20,37,25,33,21,3,16,12,17,13,9,5,30,28,26,18,14,34,22,31,29,27,19,15,11,35,23,7,38,39,40,41,42,43,44,45,46,47,48,49,50,51,52,53,54,55,56,57,58,59,60,61,62,63,64,65,66,67,68,69,70,71,72,73,74]
noncomputable def oS:Array Nat:=#[0,4,2,8,10,6,1,36,24,32,20,37,25,33,21,3,16,12,17,13,9,5,30,28,26,18,14,34,22,31,29,27,19,15,11,35,23,7,60,56,40,72,41,62,58,46,70,61,68,57,47,66,64,54,52,50,48,44,42,38,74,73,67,65,71,63,45,43,39,55,53,51,69,59,49]
noncomputable def t6:Array Nat:=#[60,4,56,40,2,72,41,8,62,58,10,6,46,1,36,24,32,20,70,61,37,25,68,57,33,21,47,3,16,12,66,64,54,52,17,13,50,9,48,5,44,42,30,28,38,26,18,14,34,22,74,73,67,65,71,63,45]
noncomputable def t7:Array Nat:=#[60,4,56,40,2,72,41,8,62,58,10,6,46,1,36,24,32,20,70,61,37,25,68,57,33,21,47,3,16,12,66,64,54,52,17,13,50,9,48,5,44,42,30,28,38,26,18,14,34,22,74,73,67,65,71,63,45,43,31,29,39,27,55,53,19,15,51,11,69,59,35,23,49,7]
noncomputable def o3 (i j:Nat):Bool:=Nat.blt (uH.getD i 0) (uH.getD j 0)
noncomputable def o2 (i j:Nat):Bool:=Nat.blt (uI.getD i 0) (uI.getD j 0)
noncomputable def qe:Nat×Nat×Nat×Nat:=(28,29,0,7)
noncomputable def sT:Array Nat×Nat×Nat×Nat×Nat:=(#[60,4,56,40,2,72,41,8,62,58,10,6,46,1,36,24,32,20,70,61,37,25,68,57,33,21,47,3,16,12,66,64,54,52,17,13,50,9,48,5,44,42,30,28,38,26,18,14,34,22,74,73,67,65,71,63,45,43,31,29,39,27,55,53,19,15,51,11,69,59,35,23],36,36,2,0)
theorem uV:gA 75 o3 0 36 (List.toArray (List.range 75)) 2=some t5:=by kernel_rfl
theorem uW:gA 75 o3 38 35 t5 2=some oS:=by kernel_rfl
theorem b2:gA 13 o2 0 11 (List.toArray (List.range 13)) 2=some q2:=by kernel_rfl
theorem uX:mH 75 o3 (oS.extract 1 38) (oS.extract 38 75) 7 74 #[(oS.extract 38 75).getD 0 0] 0 1 0 0=some (none,t6,qe):=by kernel_rfl
theorem uY:mH 75 o3 (oS.extract 1 38) (oS.extract 38 75) 8 74 ((t6.push ((oS.extract 38 75).getD qe.2.1 0)).push ((oS.extract 1 38).getD qe.1 0)) (qe.1 + 1) (qe.2.1 + 1) 0 0=some (some t7,sT):=by kernel_rfl
theorem sU:j9 oS t7 1=q3:=by kernel_rfl
theorem rE:SortsTo 75 o3 q3:=by
 intro prog w A E κ it I s Q O hI h
 refine mi (p1:=t5) (p2:=oS) (out1:=t6) (r:=t7) (ia:=qe.1) (ib:=qe.2.1) (ac:=qe.2.2.1) (bc:=qe.2.2.2) (rest:=sT) O (by kernel_rfl) (by kernel_rfl) (by kernel_rfl) (by kernel_rfl) (by kernel_rfl) (by kernel_rfl) uV (by kernel_rfl) (by kernel_rfl) (by kernel_rfl) uW (by kernel_rfl) (by kernel_rfl) (by kernel_rfl) uX (by decide) (by decide) (by kernel_rfl) (by kernel_rfl) uY hI fun st' s' hI' ha hf=>?_
 rw [sU] at ha
 exact h st' s' hI' ha hf
theorem rF:SortsTo 13 o2 q2:=by
 intro prog w A E κ it I s Q O hI h
 exact mh (q:=q2) O (by kernel_rfl) (by kernel_rfl) (by kernel_rfl) (by kernel_rfl) b2 hI h
theorem SortsTo.of {N:Nat} {o o':Nat→Nat→Bool} {q:Array Nat} (h:SortsTo N o' q) (e:∀ i j,i < N→j < N→i≠j→o i j=o' i j):SortsTo N o q:=by
 intro prog w A E κ it I s Q O hI hQ
 refine h (I:=I) (fun i j hi hj hij s' hI'=>?_) hI hQ
 rw [← e i j hi hj hij]
 exact O i j hi hj hij s' hI'
noncomputable def eP (r:Row):Row:=⟨r.laid,r.cut,r.path,[]⟩
theorem rG:(bd 3 [] (ordersL 4)).map eP=uJ:=by decide +kernel
theorem rH:(bd 2 [] (ordersL 3)).map eP=uK:=by decide +kernel
noncomputable def iM (N:Nat) (l:List Row) (o:Nat→Nat→Bool):Bool:=(List.range N).all fun i=>(List.range N).all fun j=>i == j || ((rowLt (l.getD i row0) (l.getD j row0) == o i j) && (!((l.getD i row0).laid == (l.getD j row0).laid && (l.getD i row0).cut == (l.getD j row0).cut) || (!((l.getD i row0).path == (l.getD j row0).path) && (l.getD i row0).path.length == (l.getD j row0).path.length)))
theorem rI:iM 75 uJ o3=true:=by decide +kernel
theorem rJ:iM 13 uK o2=true:=by decide +kernel
theorem jm {n:Nat} (x:List Nat) (os:List (List Int)):(bd n x os).map eP=(bd n [] os).map eP:=by
 unfold bd
 rw [List.map_flatMap,List.map_flatMap]
 refine congrArg (fun f=>os.flatMap f) (funext fun o=>?_)
 rw [List.map_map,List.map_map];rfl
theorem jn {l:List Row} {l':List Row} (h:l.map eP=l') (i:Nat):eP (l.getD i row0)=l'.getD i row0:=by
 rw [← h]
 rw [List.getD_eq_getElem?_getD,List.getD_eq_getElem?_getD,List.getElem?_map]
 cases l[i]? <;> rfl
theorem rK (r q:Row):rowLt r q=rowLt (eP r) (eP q):=rfl
theorem jo {l l':List Row} {N:Nat} {o:Nat→Nat→Bool} {q:Array Nat} (h:l.map eP=l') (hN:l'.length=N) (h2:2≤N) (h1:N≤1000) (ho:SortsTo N o q) (hp:iM N l' o=true) (hq:q.size≤1000) (hl:∀ i∈q.toList,i < N):SortF l q:=by
 revert h hN h2 h1 ho hp hq hl
 revert l l' N o q;refine @(dr5 ?_);exists w5 _ _,l,l',N,o,q
 intro h hN h2 h1 ho hp hq hl
 have hlen:l.length=N:=by rw [← hN,← h,List.length_map]
 have key:∀ i j,i < N→j < N→i≠j→rowLt (l.getD i row0) (l.getD j row0)=o i j∧((l.getD i row0).laid=(l.getD j row0).laid→(l.getD i row0).cut=(l.getD j row0).cut→(l.getD i row0).path≠(l.getD j row0).path∧(l.getD i row0).path.length=(l.getD j row0).path.length):=fun i j hi hj hij=>by
  have e:=List.all_eq_true.mp (List.all_eq_true.mp hp i (List.mem_range.mpr hi)) j (List.mem_range.mpr hj)
  rw [show (i == j)=false by simpa using hij,Bool.false_or,Bool.and_eq_true,← jn h i,← jn h j] at e
  refine ai e fun e1 e2=>?_;clear e
  refine ⟨by rw [rK];simpa using e1,fun z1 z2=>?_⟩
  have z1':(eP (l.getD i row0)).laid=(eP (l.getD j row0)).laid:=z1
  have z2':(eP (l.getD i row0)).cut=(eP (l.getD j row0)).cut:=z2
  rw [z1',z2'] at e2
  simp only [beq_self_eq_true,Bool.and_self,Bool.not_true,Bool.false_or,Bool.and_eq_true,Bool.not_eq_true',beq_eq_false_iff_ne,beq_iff_eq] at e2
  exact e2
 refine ⟨by exact Nat.lt_of_lt_of_eq h2 (hlen).symm,by exact Nat.le_trans (Nat.le_of_eq hlen) h1,?_,hq,fun i hi=>by rw [hlen];exact hl i hi,fun i j hi hj hij=>(key i j (by exact Nat.lt_of_lt_of_eq hi hlen) (by exact Nat.lt_of_lt_of_eq hj hlen) hij).2⟩
 rw [hlen]
 exact ho.of fun i j hi hj hij=>(key i j hi hj hij).1
noncomputable def qOf (n:Nat):Array Nat:=if n=2 then q2 else q3
theorem mo {n:Nat} (hn:n=2∨n=3) (x:List Nat):SortF (dueAll n x (ordersL (n + 1)).length).2 (qOf n):=by
 have e:(dueAll n x (ordersL (n + 1)).length).2=bd n x (ordersL (n + 1)):=by
  unfold dueAll;rw [List.take_length,ge];rfl
 rw [e]
 refine bQ hn (fun Z1=>?_) fun Z1=>?_ <;> subst Z1
 ·exact jo ((jm x _).trans rH) (by decide +kernel) (by decide) (by decide) rF rJ (by decide +kernel) (by decide +kernel)
 ·exact jo ((jm x _).trans rG) (by decide +kernel) (by decide) (by decide) rE rI (by decide +kernel) (by decide +kernel)
section
variable {ωb:List (Addr×OD)}
theorem kl {t iter elt:Expr} {scope:Scope} {pos:Pos} {τf:List (Str×Bd)} {ds:List D} {σ:D→List (Str×Bd)} {O:Nat→Tok→List (Addr×OD)} {u0:Tok} {g:Nat→D} {use:Option (Value→Sem Unit)} {Q:Value→Shared→Prop}
  (c:Cx prog w env X τ ω s) (hO:∀ p∈O 0 u0,p∈ω) (hOa:∀ i u,(O i u).map (·.1)=(O 0 u0).map (·.1)) (hi:EvI prog w A env X s iter ds)
  (hfree:∀ p∈scope.names,p.2=.free→(env.cells.lookup p.1).isSome=true) (hfreeK:∀ p∈scope.names,p.2=.free→env.kindOf p.1=some .cell∨env.kindOf p.1=some .free) (hnodup:(scope.names.map (·.1)).Nodup) (hkind:scope.kind=.function)
  (hcov:Covers τ τf) (hcovF:((τf.map (·.1)).all fun x=>scope.names.lookup x == some .free && !(x == ("__classdict__":Str)))=true) (hlen:ds.length≤1000) (hsig:∀ d∈ds,Covers (σ d++τf) τf) (hasg:∀ d∈ds,∀ cenv M,Ce cenv scope→Asg prog w A cenv M t d (σ d))
  (turn:∀ i d u,ds[i]?=some d→∀ cenv M' X' ωr s',(∀ a∈X,a∈X')→Ce cenv scope→(∀ p∈ωr,p.1∉(O 0 u0).map (·.1))→Sx prog w s' cenv M' X' (σ d++τf) (O i u++ωr) s' →
   WP prog w A (eval elt cenv) (fun v s''=>∃ u',Sx prog w s' cenv M' X' (σ d++τf) (O (i + 1) u'++ωr) s''∧Rd prog w s''.heap X' (g i) v) s')
  (fin:∀ D' C' s' m vs n u,s.heap.get? D'=none→s.heap.get? C'=none→D'≠C'→178≤D'→178≤C'→Keep ((O 0 u0).map (·.1)) s s'→s'.heap.get? D'=some (bo vs n)→RdL prog w s'.heap (D'::C'::X) ((List.range ds.length).map g) vs →
   (∀ p∈O ds.length u,OwnAt prog w s'.heap (D'::C'::X) p.1 p.2)→s'.heap.Ns C' m→compPost (model prog w) A (fun Z Z=>False) use Q (.ref D') C' (.ok .next) s') :
  WP prog w A (eval iter env) (fun x s₁=>WP prog w A (pyIter x) (fun it s₂=>WP prog w A (newList []) (fun acc s₃ =>
   WP prog w A (newFunctionEnv scope env.globals (bK env.cells scope.names []) [] env.qual none .none (some env)) (fun cenv s₄ =>
    codeAny (model prog w) A (.compStart (.ListComp elt [⟨t,iter,[],0⟩] scope pos) 0 it acc { cenv with scope:=relabel scope env }) (compPost (model prog w) A (fun Z Z=>False) use Q acc cenv.locals) s₄) s₃) s₂) s₁) s:=by
 revert c hO hOa hi hfree hfreeK hnodup hkind hcov hcovF hlen hsig hasg turn fin
 revert scope pos τf ds σ O u0 g use Q
 revert prog w A env X τ ω s t iter elt;refine @(dr11 ?_);exists w11 _ _,prog,w,A,env,X,τ,ω,s,t,iter,elt
 intro scope pos τf ds σ O u0 g use Q
 revert scope pos τf ds σ O u0 g use Q;refine @(dr10 ?_);exists w10 _ _,scope,pos,τf,ds,σ,O,u0,g,use,Q
 intro c hO hOa hi hfree hfreeK hnodup hkind hcov hcovF hlen hsig hasg turn fin
 refine mQ (acc:=fun i=>(List.range i).map g) (It:=tF prog w A elt []) c hO hOa hi hfree hfreeK hnodup hkind hcov hcovF rfl hsig hasg uy (fun i d u hd hlt cenv M' X' D' s₅ K hXX ce hYD S5 hK=>?_) fin
 refine wpAny_mono (bH (prog:=prog) (w:=w) (A:=A) (s:=s₅) s₅ (Keep.refl _ _)) (fun b s₆ h₆=>?_) fun Z Z z=>z.elim
 refine ai h₆ fun k₆ Z1=>?_;clear h₆;subst Z1
 refine r7 rfl ?_
 have S6:=S5.keep k₆
 refine wpAny_mono (turn i d u hd _ _ _ [(D',.lst ((List.range i).map g))] s₆ hXX ce (fun p hp=>by rw [mS hp];exact hYD) S6.rebase) (fun y s₇ h₇=>?_) fun Z Z z=>z.elim
 refine ex12 h₇ fun u' S7 h₇=>?_
 refine wpAny_mono (S7.append (ω1:=O (i + 1) u') (ω2:=[]) rfl (fun p hp e=>hYD ?_) h₇ (by rw [List.length_map,List.length_range];lia) fun s₈ k₈ S8=>?_) (fun Z Z z=>z) fun Z Z z=>z.elim
 ·rw [List.append_nil] at hp
  rw [← e,← hOa (i + 1) u'];exact List.mem_map_of_mem hp
 ·refine hK s₈ u' ?_
  rw [List.range_succ,List.map_append]
  exact S8.based k₆.any
theorem rL {t iter elt:Expr} {scope:Scope} {pos:Pos} {τf:List (Str×Bd)} {ds:List D} {σ:D→List (Str×Bd)} {O:Nat→Tok→List (Addr×OD)} {u0:Tok} {g:Nat→D} {Q:Value→Shared→Prop}
  (S:Sx prog w s₀ env M X τ (O 0 u0++ωb) s) (hωb:∀ p∈ωb,p.1∉(O 0 u0).map (·.1)) (hOa:∀ i u,(O i u).map (·.1)=(O 0 u0).map (·.1)) (hi:EvI prog w A env X s iter ds)
  (hfree:∀ p∈scope.names,p.2=.free→(env.cells.lookup p.1).isSome=true) (hfreeK:∀ p∈scope.names,p.2=.free→env.kindOf p.1=some .cell∨env.kindOf p.1=some .free) (hnodup:(scope.names.map (·.1)).Nodup) (hkind:scope.kind=.function)
  (hcov:Covers τ τf) (hcovF:((τf.map (·.1)).all fun x=>scope.names.lookup x == some .free && !(x == ("__classdict__":Str)))=true) (hlen:ds.length≤1000) (hsig:∀ d∈ds,Covers (σ d++τf) τf) (hasg:∀ d∈ds,∀ cenv M,Ce cenv scope→Asg prog w A cenv M t d (σ d))
  (hnames:∀ x∈scope.names,x.2=.local→scope.names.lookup x.1=some .local)
  (turn:∀ i d u,ds[i]?=some d→∀ cenv M' X' ωr s',(∀ a∈X,a∈X')→Ce cenv scope→(∀ p∈ωr,p.1∉(O 0 u0).map (·.1))→Sx prog w s' cenv M' X' (σ d++τf) (O i u++ωr) s' →
   WP prog w A (eval elt cenv) (fun v s''=>∃ u',Sx prog w s' cenv M' X' (σ d++τf) (O (i + 1) u'++ωr) s''∧Rd prog w s''.heap X' (g i) v) s')
  (h:∀ v s' u,Sx prog w s₀ env M X τ (O ds.length u++ωb) s'→Rd prog w s'.heap X (.lst ((List.range ds.length).map g)) v→Q v s')
  (hs:autoParam (∀ x,foldedSetIterable iter env x=pure x) e8._auto_1):WP prog w A (eval (.ListComp elt [⟨t,iter,[],0⟩] scope pos) env) Q s:=by
 revert S hωb hOa hi hfree hfreeK hnodup hkind hcov hcovF hlen hsig hasg hnames turn h hs
 revert iter elt scope pos τf ds σ O u0 g Q
 revert prog w A env M X τ s s₀ ωb t;refine @(dr11 ?_);exists w11 _ _,prog,w,A,env,M,X,τ,s,s₀,ωb,t
 intro iter elt scope pos τf ds σ O u0 g Q
 revert iter elt scope pos τf ds σ O u0 g Q;refine @(dr11 ?_);exists w11 _ _,iter,elt,scope,pos,τf,ds,σ,O,u0,g,Q
 intro S hωb hOa hi hfree hfreeK hnodup hkind hcov hcovF hlen hsig hasg hnames turn h hs
 rw [eval_ListComp]
 refine wpAny_comprehension_free (g:=⟨t,iter,[],0⟩) (gs:=[]) rfl hs (bC hfree) hkind hnames ?_
 refine kl (use:=none) (O:=O) (u0:=u0) (g:=g) S.cx (fun p hp=>mL hp) hOa hi hfree hfreeK hnodup hkind hcov hcovF hlen hsig hasg turn fun D' C' s₁ m vs n u hD hC hDC hD178 hC178 k₁ hg hr ho hns=>⟨m,hns,fun h' hsb=>?_⟩
 have hYs:∀ a∈(O 0 u0).map (·.1),(s.heap.get? a).isSome=true:=fun a ha=>by
  refine mM ha fun p hp Z1=>?_;subst Z1
  exact S.cx.xlt _ (S.cx.own p (mL hp)).2.1
 have hYC:∀ a∈(O 0 u0).map (·.1),a≠C':=fun a ha e=>by have:=hYs a ha;rw [e,hC] at this;exact nB this
 have k:Keep ((O 0 u0).map (·.1)) s { s₁ with heap:=h' }:=by
  refine ⟨fun a o ha e=>(hsb.2 a fun z=>by rw [z,hC] at e;exact nO e).trans (k₁.heap a o ha e),fun a ha=>?_,k₁.gens,k₁.bare,k₁.os⟩
  have h1:=k₁.live a ha
  show (h'.get? a).isSome=true
  rw [hsb.2 a fun z=>by rw [z,hC] at ha;exact nB ha];exact h1
 have hmv:∀ a o,a∉D'::C'::X→s₁.heap.get? a=some o→a∉X∧h'.get? a=some o:=fun a o ha e=>⟨fun hm=>ha (.tail _ (.tail _ hm)),(hsb.2 a fun z=>ha (z ▸ .tail _ (.head _))).trans e⟩
 refine h _ { s₁ with heap:=h' } u (Sx.puts (ωa:=O 0 u0) (ωa':=O ds.length u) S k (hOa _ _) (fun p hp=>?_) hωb) (Rd.lst_ (n:=n) (S.cx.xlt.fresh hD) ((hsb.2 D' hDC).trans hg) (RdL.mv hmv _ _ hr))
 have hpY:p.1∈(O 0 u0).map (·.1):=by rw [← hOa ds.length u];exact List.mem_map_of_mem hp
 exact (ho p hp).mv hmv fun o e=>(hsb.2 _ (hYC _ hpY)).trans e
end
theorem kn {prog prog':Program} {w w':World}:∀ {es:List DictEntry} {ps:List (Int×Value)},Pairs (intKind prog w) es ps→Pairs (intKind prog' w') es ps
:=by
 intro es ps h
 induction h with
 | nil=>exact .nil
 | cons a b _ ih=>exact .cons a b ih
theorem hV {prog prog':Program} {w w':World} {h:Heap} {a:Addr} {ps:List (Int×Value)} (x:h.DictOf (intKind prog w) a ps):h.DictOf (intKind prog' w') a ps:=by
 refine ex36 x fun o es ep h1 h2 h3 h4 h5 h6=>?_;clear x
 exact ⟨o,es,ep,h1,h2,h3,h4,kn h5,h6⟩
noncomputable abbrev oU (A:Around) (s:Shared) (u v:Value):Prop:=SeqAt.EqAt A s u v true
theorem dy {i:Int} {u v:Value} (h1:Rd prog w s.heap X (.int i) u) (h2:Rd prog w s.heap X (.int i) v):oU A s u v:=by
 refine h1.intE fun t Z1=>?_;subst Z1;refine h2.intE fun t' Z1=>?_;subst Z1
 have:=SeqAt.EqAt.int_int (A:=A) (s:=s) i t i t'
 rwa [show (i == i)=true by simp] at this
theorem li {x:Str} {u v:Value} (h1:Rd prog w s.heap X (.str x) u) (h2:Rd prog w s.heap X (.str x) v):oU A s u v:=by
 refine h1.strE fun t Z1=>?_;subst Z1;refine h2.strE fun t' Z1=>?_;subst Z1
 intro prog w E Q h
 exact eqBool_str (by rwa [show (x == x)=true by simp])
theorem lj {us vs:List Value} {a b:Addr} {n m:Nat} (ha:s.heap.get? a=some (ii us n)) (hb:s.heap.get? b=some (ii vs m)) (hl:us.length=vs.length) (hu:A.units < cLine) (h:∀ (i:Nat) (u v:Value),us[i]?=some u→vs[i]?=some v→oU A.in1 s u v):oU A s (.ref a) (.ref b):=by
 by_cases e:a=b
 ·subst e;exact SeqAt.EqAt.same _
 ·refine SeqAt.EqAt.of_refs e ?_
  have:=SeqAt.RcAt.tuples (A:=A) (e:=fun Z=>true) (cb ha) (cb hb) hu fun j h1 h2=>h j _ _ (by simp at h1;simp [h1]) (by simp at h2;simp [h2])
  rwa [show ((List.range (min us.toArray.size vs.toArray.size)).all (fun Z=>true) && us.toArray.size == vs.toArray.size)=true by simp [hl]] at this
theorem iN {K:Type} [DecidableEq K] {kb:List (K×Value)}:∀ {ka:List (K×Value)},(∀ p∈ka,∃ y,valueAt kb p.1=some y∧oU A s p.2 y)→KeqHits A s kb ka true
 | [],_=>.nil
 | (k,v)::r,h=>by
  refine ex12 (h (k,v) (.head _)) fun y h1 h2=>?_
  exact KeqHits.hit (e:=true) (b:=true) h1 h2 (iN fun p hp=>h p (.tail _ hp))
theorem qf {a b:Addr} {ka kb:List (Int×Value)} (ha:s.heap.DictOf (intKind prog w) a ka) (hb:s.heap.DictOf (intKind prog w) b kb) (sa:(a == sysModules)=false) (sb:(b == sysModules)=false) (hl:ka.length=kb.length) (hu:A.units < cLine)
  (h:∀ p∈ka,∃ y,valueAt kb p.1=some y∧oU A.in1 s p.2 y):oU A s (.ref a) (.ref b):=by
 by_cases e:a=b
 ·subst e;exact SeqAt.EqAt.same _
 ·refine SeqAt.EqAt.of_refs e fun prog' w' E Q hq=>?_
  exact keq_eq (knd:=intKind prog' w') sa sb (hV ha) (hV hb) hu (fun Z=>iN h) (by rwa [show (ka.length == kb.length && true)=true by simp [hl]])
structure EntEq (e f:Ent):Prop where
 cc:e.cc=f.cc
 nc:e.nc=f.nc
 tt:e.tt=f.tt
 ct:e.ct=f.ct
 len:e.cs.length=f.cs.length
 cs:∀ p∈e.cs,getN f.cs p.1=some p.2
structure BookEq (b c:List (Str×Ent)):Prop where
 len:b.length=c.length
 mem:∀ p∈b,∃ f,getV c p.1=some f∧EntEq p.2 f
theorem qg {k:Nat} {e f:Ent} {u v:Value} (ao:Ao (k + 2) A) (q:EntEq e f) (h1:Rd prog w s.heap X e.d u) (h2:Rd prog w s.heap X f.d v):oU A s u v:=by
 revert ao q h1 h2
 revert prog w A X s k e f u v;refine @(dr10 ?_);exists w10 _ _,prog,w,A,X,s,k,e,f,u,v
 intro ao q h1 h2
 refine Rd.tupE (ds:=[.int e.cc,.int e.nc,.int e.tt,.int e.ct,.dci (dI e.cs)]) h1 fun a us n Z1 hax ha ra=>?_;subst Z1
 refine Rd.tupE (ds:=[.int f.cc,.int f.nc,.int f.tt,.int f.ct,.dci (dI f.cs)]) h2 fun b vs m Z1 hbx hb rb=>?_;subst Z1
 unfold RdL at ra rb
 refine ex23 ra fun u1 us1 Z1 hu1 Z9=>?_;clear ra;revert Z9;intro ra;subst Z1
 refine ex23 rb fun v1 vs1 Z1 hv1 Z9=>?_;clear rb;revert Z9;intro rb;subst Z1
 unfold RdL at ra rb
 refine ex23 ra fun u2 us2 Z1 hu2 Z9=>?_;clear ra;revert Z9;intro ra;subst Z1
 refine ex23 rb fun v2 vs2 Z1 hv2 Z9=>?_;clear rb;revert Z9;intro rb;subst Z1
 unfold RdL at ra rb
 refine ex23 ra fun u3 us3 Z1 hu3 Z9=>?_;clear ra;revert Z9;intro ra;subst Z1
 refine ex23 rb fun v3 vs3 Z1 hv3 Z9=>?_;clear rb;revert Z9;intro rb;subst Z1
 unfold RdL at ra rb
 refine ex23 ra fun u4 us4 Z1 hu4 Z9=>?_;clear ra;revert Z9;intro ra;subst Z1
 refine ex23 rb fun v4 vs4 Z1 hv4 Z9=>?_;clear rb;revert Z9;intro rb;subst Z1
 unfold RdL at ra rb
 refine ex23 ra fun u5 us5 Z1 hu5 Z9=>?_;clear ra;revert Z9;intro ra;subst Z1
 refine ex23 rb fun v5 vs5 Z1 hv5 Z9=>?_;clear rb;revert Z9;intro rb;subst Z1
 unfold RdL at ra rb
 subst ra;subst rb
 have r1:=ao.in1.room
 have r0:=ao.room
 refine lj ha hb rfl (by lia) fun i x y hx hy=>?_
 rw [q.cc] at hu1;rw [q.nc] at hu2;rw [q.tt] at hu3;rw [q.ct] at hu4
 match i with
 | 0=>(refine sE hx fun hx=>?_;subst hx);refine sE hy fun hy=>?_;subst hy;exact dy hu1 hv1
 | 1=>(refine sE hx fun hx=>?_;subst hx);refine sE hy fun hy=>?_;subst hy;exact dy hu2 hv2
 | 2=>(refine sE hx fun hx=>?_;subst hx);refine sE hy fun hy=>?_;subst hy;exact dy hu3 hv3
 | 3=>(refine sE hx fun hx=>?_;subst hx);refine sE hy fun hy=>?_;subst hy;exact dy hu4 hv4
 | 4 =>
  refine sE hx fun hx=>?_;subst hx;refine sE hy fun hy=>?_;subst hy
  refine Rd.dciE (ds:=dI e.cs) hu5 fun a' ka Z1 Z Z2 ra=>?_;subst Z1;refine ai Z2 fun da sa=>?_;clear Z2
  refine Rd.dciE (ds:=dI f.cs) hv5 fun b' kb Z1 Z Z2 rb=>?_;subst Z1;refine ai Z2 fun db sb=>?_;clear Z2
  refine qf da db sa sb (by rw [ra.length,rb.length,List.length_map,List.length_map];exact q.len) (by lia) fun p hp=>?_
  refine ex21 (List.getElem_of_mem hp) fun i hi Z1=>?_;cases Z1
  refine ex12 (ra.at (i:=i) (k:=(ka[i]).1) (v:=(ka[i]).2) (by rw [List.getElem?_eq_getElem hi])) fun d hd hrd=>?_
  rw [List.getElem?_map] at hd
  refine mO hd fun Z1 hp0 he=>?_;rcases Z1 with ⟨k0,n0⟩
  refine ai (Prod.mk.inj he) fun e1 e2=>?_
  have hc:=q.cs (k0,n0) (List.mem_of_getElem? hp0)
  have hg:=rb.get k0
  rw [d8,hc] at hg
  refine ex12 hg fun y hy hyr=>?_;clear hg
  refine ⟨y,by rw [← e1];exact hy,?_⟩
  rw [← e2] at hrd
  exact dy hrd hyr
 | i + 5=>exact nO hx
theorem mq {k:Nat} {b c:List (Str×Ent)} (ao:Ao (k + 3) A) (q:BookEq b c):cv prog w A X (compareOp .NotEq) (.dcs (dB b)) (.dcs (dB c)) (.bool false):=by
 revert ao q
 revert prog w A X k b c;refine @(dr7 ?_);exists w7 _ _,prog,w,A,X,k,b,c
 intro ao q
 intro s u v g h1 h2
 refine Rd.dcsE (ds:=dB b) h1 fun a ka Z1 Z Z2 ra=>?_;subst Z1;refine ai Z2 fun da sa=>?_;clear Z2
 refine Rd.dcsE (ds:=dB c) h2 fun a' kb Z1 Z Z2 rb=>?_;subst Z1;refine ai Z2 fun db sb=>?_;clear Z2
 have r0:=ao.room
 have hl:ka.length=kb.length:=by rw [ra.length,rb.length,List.length_map,List.length_map];exact q.len
 refine keq_ne sa sb da db (by lia) (fun Z=>iN (A:=A.in1) fun p hp=>?_) ⟨Keep.refl _ _,by rw [show (!(ka.length == kb.length && true))=false by simp [hl]];exact Rd.bool_⟩
 refine ex21 (List.getElem_of_mem hp) fun i hi Z1=>?_;cases Z1
 refine ex12 (ra.at (i:=i) (k:=(ka[i]).1) (v:=(ka[i]).2) (by rw [List.getElem?_eq_getElem hi])) fun d hd hrd=>?_
 rw [List.getElem?_map] at hd
 refine mO hd fun Z1 hp0 he=>?_;rcases Z1 with ⟨t0,e0⟩
 refine ai (Prod.mk.inj he) fun e1 e2=>?_
 refine ex12 (q.mem (t0,e0) (List.mem_of_getElem? hp0)) fun f hf hq=>?_
 have hg:=rb.get t0
 rw [dj Ent.d,hf] at hg
 refine ex12 hg fun y hy hyr=>?_;clear hg
 refine ⟨y,by rw [← e1];exact hy,?_⟩
 rw [← e2] at hrd
 exact qg (k:=k) ao.in1 hq hrd hyr
theorem jp {k:Nat} {ds:List D} (ao:Ao (k + 2) A) (hd:∀ d∈ds,∀ {A:Around} {s:Shared} {u v:Value},Ao (k + 1) A→Rd prog w s.heap X d u→Rd prog w s.heap X d v→oU A s u v):cv prog w A X (compareOp .NotEq) (.lst ds) (.lst ds) (.bool false):=by
 revert ao hd
 revert prog w A X k ds;refine @(dr6 ?_);exists w6 _ _,prog,w,A,X,k,ds
 intro ao hd
 intro s u v g h1 h2
 refine h1.lstE fun a us n Z1 Z ha ra=>?_;subst Z1
 refine h2.lstE fun b vs m Z1 Z hb rb=>?_;subst Z1
 have r0:=ao.room
 have hl:us.length=vs.length:=by rw [ra.length,rb.length]
 have:=SeqAt.RcNeAt.lists (A:=A) (s:=s) (e:=fun Z=>true) (ah ha) (ah hb) (by simpa using hl) (by lia) fun j h1 h2=>by
  have hj:j < ds.length:=by rw [← ra.length];simpa using h1
  refine ex12 (ra.get (i:=j) (List.getElem?_eq_getElem hj)) fun x hx hxr=>?_
  refine ex12 (rb.get (i:=j) (List.getElem?_eq_getElem hj)) fun y hy hyr=>?_
  have e1:us.toArray[j]=x:=by simpa using (List.getElem?_eq_some_iff.mp hx).2
  have e2:vs.toArray[j]=y:=by simpa using (List.getElem?_eq_some_iff.mp hy).2
  rw [e1,e2]
  exact hd _ (List.getElem_mem hj) ao.in1 hxr hyr
 refine this prog w _ _ ⟨Keep.refl _ _,?_⟩
 rw [show (!(List.range us.toArray.size).all fun Z=>true)=false by simp]
 exact Rd.bool_
theorem oo {k:Nat} {c:Int} {t:Str} {u v:Value} (ao:Ao (k + 1) A) (h1:Rd prog w s.heap X (.tup [.int c,.str t]) u) (h2:Rd prog w s.heap X (.tup [.int c,.str t]) v):oU A s u v:=by
 revert ao h1 h2
 revert prog w A X s k c t u v;refine @(dr10 ?_);exists w10 _ _,prog,w,A,X,s,k,c,t,u,v
 intro ao h1 h2
 refine Rd.tupE (ds:=[.int c,.str t]) h1 fun a us n Z1 hax ha ra=>?_;subst Z1
 refine Rd.tupE (ds:=[.int c,.str t]) h2 fun b vs m Z1 hbx hb rb=>?_;subst Z1
 unfold RdL at ra rb
 refine ex23 ra fun u1 us1 Z1 hu1 Z9=>?_;clear ra;revert Z9;intro ra;subst Z1
 refine ex23 rb fun v1 vs1 Z1 hv1 Z9=>?_;clear rb;revert Z9;intro rb;subst Z1
 unfold RdL at ra rb
 refine ex23 ra fun u2 us2 Z1 hu2 Z9=>?_;clear ra;revert Z9;intro ra;subst Z1
 refine ex23 rb fun v2 vs2 Z1 hv2 Z9=>?_;clear rb;revert Z9;intro rb;subst Z1
 unfold RdL at ra rb
 subst ra;subst rb
 have r0:=ao.room
 refine lj ha hb rfl (by lia) fun i x y hx hy=>?_
 match i with
 | 0=>(refine sE hx fun hx=>?_;subst hx);refine sE hy fun hy=>?_;subst hy;exact dy hu1 hv1
 | 1=>(refine sE hx fun hx=>?_;subst hx);refine sE hy fun hy=>?_;subst hy;exact li hu2 hv2
 | i + 2=>exact nO hx
theorem RdL.of_get {h:Heap}:∀ {ds:List D} {vs:List Value},vs.length=ds.length→(∀ (i:Nat) (d:D) (v:Value),ds[i]?=some d→vs[i]?=some v→Rd prog w h X d v)→RdL prog w h X ds vs
 | [],[],_,_=>RdL.nil
 | [],_::_,hl,_=>by simp at hl
 | _::_,[],hl,_=>by simp at hl
 | d::ds,v::vs,hl,hg=>RdL.cons (hg 0 d v rfl rfl) (RdL.of_get (by simpa using hl) fun i d' v' h1 h2=>hg (i + 1) d' v' (by simpa using h1) (by simpa using h2))
theorem mr {f:Str} {q p:Pos} {e:Expr} {x:Str} (c:Cx prog w env X τ ω s) (hh:A.handled=none) (hf:EvV prog w A env s (.Name f q) (.type "list")) (he:EvBs prog w A env X s [e] [.d (.str x)]) (hl:x.length≤16777216) :
  EvD prog w A env X s (.Call (.Name f q) [e] [] p) (.lst (cA x)):=by
 revert c hh hf he hl
 revert prog w A env X τ ω s f q p e x;refine @(dr13 ?_);exists w13 _ _,prog,w,A,env,X,τ,ω,s,f,q,p,e,x
 intro c hh hf he hl
 exact bz hf he (fun s' Z=>cz) fun vs s' k h=>by
  refine aO h fun v Z1 h1=>?_;subst Z1
  refine h1.strE fun t Z1=>?_;subst Z1
  have g:=(c.keep k).gd
  refine call_list_str hh x t (hn:=by rw [aM];exact hl) fun h' tk acc' c' hk hS' hacc=>?_
  refine ⟨ec hk,Rd.lst_ (vs:=acc'.toList) (n:=c') g.fresh (by rw [hS']) (RdL.of_get ?_ fun i d v h1 h2=>?_)⟩
  ·rw [Array.length_toList,hacc.1];simp [cA]
  ·refine ex22 (hacc.2 i v (by simpa using h2)) fun cc u hc Z1=>?_;subst Z1
   have:d=.str ⟨#[cc]⟩:=by
    unfold cA at h1
    rw [List.getElem?_map] at h1
    refine mO h1 fun c1 hc1 Z1=>?_;subst Z1
    have:c1=cc:=by
     have h3:x.cps[i]?=some c1:=by simpa using hc1
     rw [hc] at h3;exact (Option.some.inj h3).symm
    rw [this]
   rw [this];exact Rd.str_
theorem gf {o e:Expr} {ap p:Pos} {x y:Str} (c:Cx prog w env X τ ω s) (ho:EvD prog w A env X s o (.str x)) (he:EvD prog w A env X s e (.str y))
  (hse:autoParam (∀ rest,starEach (e::rest) env=(false,eval e env)::starEach rest env) e8._auto_1)
  (hbase:autoParam (attributeBase o ("count":Str) env (eval o env)=eval o env) cT._auto_1) (hline:autoParam ((ap.endLine == p.line)=true) cT._auto_1) :
  EvD prog w A env X s (.Call (.Attribute o ("count":Str) ap) [e] [] p) (.int (Txt.count x y)):=fun s' kk=>by
 refine dD (T:="str") (b:=.d (.str x)) (bs:=[.d (.str y)]) F.plainAttrs_str F.slot_str_count F.type_str_count (ho.keep kk) (aH (he.keep kk) al hse) (fun v s₁ k₁ h₁=>?_) (fun v vs s₁ k₁ h₁ h₂=>?_) (by show 1 < 29;decide) hbase hline
 ·refine Rd.strE (prog:=prog) (w:=w) (X:=X) (h:=s₁.heap) h₁ fun t Z1=>?_;subst Z1
  exact ⟨PySem.typeIs_str _ _ _,fun a e=>by cases e⟩
 ·refine Rd.strE (prog:=prog) (w:=w) (X:=X) (h:=s₁.heap) h₁ fun t Z1=>?_;subst Z1
  refine aO h₂ fun v Z1 h3=>?_;subst Z1
  refine h3.strE fun u Z1=>?_;subst Z1
  exact SC.count ⟨k₁.trans Keep.toks,Rd.int_⟩
theorem Sx.tqOwn {ps:Array Value} (S:Sx prog w s₀ env M X τ ω s) (hT:s.heap.get? TQ=some (tabObj ps)) (k:Keep [TQ] s s') (ωn:List (Addr×OD)) (hn:∀ p∈ωn,s.heap.get? p.1=none) (ho:∀ p∈ωn,∀ X',OwnAt prog w s'.heap X' p.1 p.2) (hi:∀ p∈ωn,178≤p.1) :
  Sx prog w s' env (ωn.map (·.1)++M) (ωn.map (·.1)++X) τ (ωn++ω) s':=by
 revert S hT k hn ho hi
 revert prog w env M X τ ω s s' s₀ ps ωn;refine @(dr12 ?_);exists w12 _ _,prog,w,env,M,X,τ,ω,s,s',s₀,ps,ωn
 intro S hT k hn ho hi
 have hk:∀ a o,a≠TQ→s.heap.get? a=some o→s'.heap.get? a=some o:=fun a o ha e=>k.heap a o (fun hm=>ha (ay hm)) e
 have hm:∀ a∈ωn.map (·.1),∃ p∈ωn,p.1=a:=fun a ha=>by
  refine mM ha fun p hp e=>?_
  exact ⟨p,hp,e⟩
 have hnb:∀ b∈ωn.map (·.1)++X,b∈X∨s.heap.get? b=none:=fun b hb=>(List.mem_append.mp hb).elim (fun h=>by (refine ex12 (hm b h) fun p hp Z1=>?_;subst Z1);exact .inr (hn p hp)) .inl
 have S':=S.tq hT hk
 refine ex11 S.cx.ns fun m hns=>?_
 obtain ⟨⟨⟨o1,o2,o3,o4,o5,o6⟩,h2,h3,h4,h5,h6,h7,h12⟩,h8,h9,h10,h11,h13⟩:=S'
 have inX:∀ {a},a∈X→a∈ωn.map (·.1)++X:=fun h=>mR h
 refine ⟨⟨⟨o1,o2,o3,inX o4,fun p hp=>⟨inX (o5 p hp).1,(o5 p hp).2⟩,o6⟩,h2,h3,fun x b e=>?_,h5,fun b hb=>?_,fun b hb=>?_,fun p hp=>?_⟩,Keep.refl _ _,fun a ha=>?_,mR h10,fun p hp hl=>mR (h11 p hp hl),fun p hp=>?_⟩
 ·refine ex12 (S.cx.vars x b e) fun v q1 q2=>?_
  refine ex12 (h4 x b e) fun v' q1' Z=>?_
  have e1:v=v':=by
   have hX:∀ a∈X,a≠TQ:=fun a ha=>g7 (S.cx.xhi a ha)
   rcases q1 with ⟨k1,m1,n1,l1⟩ | ⟨k1,c1,l1,i1⟩ <;> rcases q1' with ⟨k2,m2,n2,l2⟩ | ⟨k2,c2,l2,i2⟩
   ·have n1':=aW n1 fun o=>hk _ o (hX _ S.cx.ok.loc)
    have:=gE n1' n2 x
    rw [l1,l2] at this;exact Option.some.inj this
   ·rcases k2 with k2 | ⟨k2,_⟩ <;> rw [k1] at k2 <;> cases k2
   ·rcases k1 with k1 | ⟨k1,_⟩ <;> rw [k2] at k1 <;> cases k1
   ·rw [l1] at l2;refine sE l2 fun l2=>?_;subst l2
    have i1':=aA i1 fun o=>hk _ o (hX _ (S.cx.ok.cel _ (ak l1)).1)
    refine ex12 i1' fun oa ga da=>?_;clear i1'
    refine ex12 i2 fun ob gb db=>?_;clear i2
    rw [ga] at gb;refine sE gb fun gb=>?_;subst gb
    rw [da] at db;cases db;rfl
  refine ⟨v,e1 ▸ q1',?_⟩
  have q3:=q2.beyond (Y:=ωn.map (·.1)++X) hnb
  cases b with
  | d d=>exact Rd.tq hT hk d v q3
  | v u=>exact q3
 ·refine mA hb (fun hb=>?_) fun hb=>?_
  ·refine ex12 (hm b hb) fun p hp Z1=>?_;subst Z1;exact (ho p hp []).live
  ·exact h6 b hb
 ·refine mA hb (fun hb=>?_) fun hb=>?_
  ·refine ex12 (hm b hb) fun p hp Z1=>?_;subst Z1;exact hi p hp
  ·exact h7 b hb
 ·refine mA hp (fun hp=>?_) fun hp=>?_
  ·refine ⟨ho p hp _,mL (List.mem_map_of_mem hp),fun e=>?_,fun c hc e=>?_⟩
   ·have:=bV hns
    rw [← e,hn p hp] at this;exact nB this
   ·refine ex11 (S.cx.cells c hc) fun v hv=>?_
    have:=bI hv
    rw [e,hn p hp] at this;exact nB this
  ·refine br (S.cx.own p hp) fun q1 q2 q3=>?_
   exact ⟨(q1.beyond (Y:=ωn.map (·.1)++X) hnb).tq hT hk (g7 (S.cx.xhi _ q2)),inX q2,q3⟩
 ·refine mA ha (fun ha=>?_) fun ha=>?_
  ·exact mL ha
  ·exact inX (h9 a ha)
 ·refine mA hp (fun hp=>?_) fun hp=>?_
  ·exact mL (List.mem_map_of_mem hp)
  ·exact mR (h13 p hp)
theorem jq:∀ (ys:List Str) (a:List Nat),List.foldl (fun acc (p:Str)=>acc++(Str.ofString "").cps++p.cps) a.toArray ys=(a++ys.flatMap fun y=>y.cps.toList).toArray
 | [],a=>by simp
 | y::r,a=>by
  rw [List.foldl_cons]
  have e:a.toArray++(Str.ofString "").cps++y.cps=(a++y.cps.toList).toArray:=by
   rw [show (Str.ofString "").cps=#[] by decide];simp
  rw [e,jq r];simp
theorem gh (ys:List Str):Txt.join (Str.ofString "") ys=tx (ys.flatMap fun y=>y.cps.toList):=by
 cases ys with
 | nil=>decide
 | cons c r =>
  show Str.mk (List.foldl _ c.cps r)=_
  have:=jq r c.cps.toList
  rw [show c.cps=c.cps.toList.toArray by simp,this];rfl
noncomputable def wordOf (ks:List Int):List Nat:=(ks.map sgn).flatMap fun y=>y.cps.toList
noncomputable def bodyOf (ks:List Int):List Nat:=(ks.map wri).flatMap fun y=>y.cps.toList
theorem t8:(Str.ofString ".").length=1:=by decide
noncomputable def restT (t:List Nat):Nat→List Nat
 | 0=>t
 | i + 1=>(lexT (restT t i)).2
structure LawP (S:List Int) (n:Nat) (x t:List Nat) (r0:RI) (q0:List RI) (n0:Nat) (E:List (Int×List Nat)):Prop where
 hn:n=2∨n=3
 len:S.length=5
 cnt:3 + (S.getD 4 0).fmod 2=(n:Int) + 1
 hx:x=wordOf (S.take (n + 1))
 ht:t=bodyOf (S.take (n + 1))++[46]
 xlen:x.length=n + 1
 asc:(tx x).cps.all (· < 128)=true
 tlen:t.length≤900
 toks:∀ i,i < n + 1→(lexT (restT t i)).1=[x.getD i 0]∧(restT t i).length≤900
 rest:restT t (n + 1)=[46]
 nl:nls t - nls [46]=Txt.count (tx t) "\n"
 push:(List.range (2 ^ n)).map (pushItem n (tx x))=(r0::q0).map RI.d
 rsok:RSok n0 ⟨some r0,q0,[]⟩
 fin:(rLoop n0 ⟨some r0,q0,[]⟩).cur=none
 ends:(rLoop n0 ⟨some r0,q0,[]⟩).ends=E
 told:(qOf n).toList.map (fun i=>rowE ((dueAll n x (ordersL (n + 1)).length).2.getD i row0))=E.map endD
 cuts:∀ p∈E,0≤p.1∧p.1 < 2 ^ n
 elen:E.length≤900
 book:∀ share:Int,BookEq ((E.map fun e=>(e.1,tx e.2)).foldl (bookStep n share) []) ((dueAll n x (ordersL (n + 1)).length).1.foldl (bkStep x share) [])
 last:∀ share:Int,∀ p∈(E.map fun e=>(e.1,tx e.2)).foldl (bookStep n share) [],∃ f,getV ((dueAll n x (ordersL (n + 1)).length).1.foldl (bkStep x share) []) p.1=some f∧(p.2.cs.map (·.2)).foldl (· + ·) 0=f.nc
theorem t9 {test:Expr} {body orelse:List Stmt} {pos:Pos} {Q:Flow→Shared→Prop}
  (h:WN prog w A (isTrue test env (eval test env)) (fun b s₂=>if b then WN prog w A (execs body env) Q s₂ else WN prog w A (execs orelse env) Q s₂) s) :
  WN prog w A (exec (.If test body orelse pos) env) Q s:=fun Γ p hΓ hN=>by
 simp only [exec_If,Sem.wp_bind',Sem.wp_cmd_standAt]
 refine Sem.wp_mono (model prog w) Γ _ (fun b p₂ s₂ h₂=>?_) (fun Z Z Z h'=>h') _ _ (h Γ _ hΓ hN)
 cases b <;> exact h₂ Γ p₂ hΓ hN
theorem ua {x:Expr} {pos:Pos} {whole:Sem Value} {Q:Bool→Shared→Prop} (h:WN prog w A (isTrue x env (eval x env)) (fun b s₁=>Q (!b) s₁) s):WN prog w A (isTrue (.UnaryOp .Not x pos) env whole) Q s:=by
 show bM _ _ _ _ _ _
 rw [arm_isTrue_UnaryOp]
 exact aw (av h (fun b s₁ h₁=>aI h₁) fun Z Z x=>x)
theorem ub {e:Expr} {whole:Sem Value} {Q:Bool→Shared→Prop} (h:WN prog w A whole (fun v s₁=>WP prog w A (truthy v) Q s₁) s) (he:autoParam (∀ whole,isTrue e env whole=(do let v ← whole;standAt e.pos;holding [v] (truthy v))) e8._auto_1):WN prog w A (isTrue e env whole) Q s:=by
 show bM _ _ _ _ _ _
 rw [he]
 exact aw (av h (fun v s₁ h₁=>an (wpAny_standAt (aT (wpAny_holding h₁)))) fun Z Z x=>x)
noncomputable def qJ:D→D
 | .int k=>.tup [.str (sgn k),.str (wri k)]
 | _=>.none
noncomputable def uZ:D→D
 | .tup [a,_]=>a
 | _=>.none
noncomputable def u6:D→D
 | .tup [_,b]=>b
 | _=>.none
section
variable {ωb:List (Addr×OD)} {L:LA} {st:LS} {st':LS}
theorem jr {h h':Heap} {a:Addr} {m:Str→Option Value} {o:Obj} {sl:Array (Option Value)} (x:h.Ns a m) (h1:h.get? a=some o) (h2:h'.get? a=some { o with slots:=sl }):h'.Ns a m:=by
 refine ex33 x fun o' es ep e hd r=>?_;clear x
 rw [h1] at e;refine sE e fun e=>?_;subst e
 exact ⟨_,es,ep,h2,hd,r⟩
theorem Sx.pushed {o0:Obj} {sl:Array (Option Value)} (S:Sx prog w s₀ env M X τ (aD L st++ωb) s) (k:Keep (env.locals::lexA L) s s') (h1:s.heap.get? env.locals=some o0) (h2:s'.heap.get? env.locals=some { o0 with slots:=sl }) (h:LexAt prog w s'.heap X L st')
  (hd:∀ p∈ωb,p.1∉lexA L) (hlo:∀ p∈env.cells,p.2≠env.locals):Sx prog w s₀ env M X τ (aD L st'++ωb) s':=by
 revert S k h1 h2 h hd hlo
 revert s₀ ωb L st st' o0 sl
 revert prog w env M X τ s s';refine @(dr8 ?_);exists w8 _ _,prog,w,env,M,X,τ,s,s'
 intro s₀ ωb L st st' o0 sl
 revert s₀ ωb L st st' o0 sl;refine @(dr7 ?_);exists w7 _ _,s₀,ωb,L,st,st',o0,sl
 intro S k h1 h2 h hd hlo
 have hlx:∀ a∈lexA L,∃ p∈aD L st++ωb,p.1=a:=fun a ha=>by
  rw [← aR L st] at ha
  refine mM ha fun p hp e=>?_
  exact ⟨p,mL hp,e⟩
 have hy:∀ a∈env.locals::lexA L,a∈X:=fun a ha=>by
  refine mC ha (fun Z1=>?_) fun ha=>?_;subst Z1
  ·exact S.cx.ok.loc
  ·refine ex12 (hlx a ha) fun p hp Z1=>?_;subst Z1;exact (S.cx.own p hp).2.1
 have hcn:∀ c∈env.cells,c.2∉env.locals::lexA L:=fun c hc hm=>by
  refine mC hm (fun e=>?_) fun hm=>?_
  ·exact hlo c hc e
  ·refine ex12 (hlx _ hm) fun p hp e=>?_;exact (S.cx.own p hp).2.2.2 c hc e.symm
 have hlm:env.locals∉lexA L:=fun hm=>by
  refine ex12 (hlx _ hm) fun p hp e=>?_;exact (S.cx.own p hp).2.2.1 e
 refine ⟨S.cx.turn k hy ?_ (fun p hp=>?_) (fun y b e=>?_) (fun p hp=>?_),S.base.trans (k.more fun a ha=>?_),S.sub,S.mloc,S.mcel,fun p hp=>?_⟩
 ·refine ex11 S.cx.ns fun m hns=>?_
  exact ⟨m,jr hns h1 h2⟩
 ·refine ex11 (S.cx.cells p hp) fun v hv=>?_
  exact ⟨v,aA hv fun o e=>k.heap _ o (hcn p hp) e⟩
 ·refine ex12 (S.cx.vars y b e) fun v q1 q2=>?_
  refine ⟨v,?_,q2⟩
  rcases q1 with ⟨k1,m',h3,h4⟩ | ⟨k1,c,h3,h4⟩
  ·exact .inl ⟨k1,m',jr h3 h1 h2,h4⟩
  ·exact .inr ⟨k1,c,h3,aA h4 fun o e=>k.heap _ o (hcn _ (ak h3)) e⟩
 ·refine mA hp (fun hp=>?_) fun hp=>?_
  ·have hpa:p.1∈lexA L:=by rw [← aR L st'];exact List.mem_map_of_mem hp
   refine ex12 (hlx _ hpa) fun q hq e=>?_
   refine dS (S.cx.own q hq) fun Z q2 q3 q4=>?_
   rw [e] at q2 q3 q4
   exact ⟨(h p hp).1,q2,q3,q4⟩
  ·refine dS (S.cx.own p (mR hp)) fun q1 q2 q3 q4=>?_
   refine ⟨q1.mv (fun b o hb e=>⟨hb,k.heap b o (fun hm=>hb (hy b hm)) e⟩) fun o e=>k.heap _ o (fun hm=>?_) e,q2,q3,q4⟩
   refine mC hm (fun e'=>?_) fun hm=>?_
   ·exact q3 e'
   ·exact hd p hp hm
 ·refine mC ha (fun Z1=>?_) fun ha=>?_;subst Z1
  ·exact S.mloc
  ·refine ex12 (hlx a ha) fun p hp Z1=>?_;subst Z1;exact S.mown p hp
 ·refine mA hp (fun hp=>?_) fun hp=>?_
  ·have hpa:p.1∈lexA L:=by rw [← aR L st'];exact List.mem_map_of_mem hp
   refine ex12 (hlx _ hpa) fun q hq e=>?_
   rw [← e];exact S.mown q hq
  ·exact S.mown p (mR hp)
end
noncomputable def gC:D→D
 | .tup [_,_,_,_,.dci kvs]=>.int ((kvs.map fun p=>match p.2 with | .int i=>i | _=>0).foldl (· + ·) 0)
 | _=>.none
noncomputable def gN (du:List (Str×Ent)):D→D
 | .str t=>.int ((getV du t).elim 0 (·.nc))
 | _=>.none
noncomputable def lk:List Stmt:=(fnBody 25).drop 6
theorem qh (x:List Nat):(List.range x.length).map (fun i=>D.str (tx [x.getD i 0]))=cA (tx x):=by
 unfold cA
 show _=(x.toArray.toList).map _
 rw [List.toList_toArray]
 refine List.ext_getElem (by simp) fun i h1 h2=>?_
 simp only [List.getElem_map,List.getElem_range]
 have hi:i < x.length:=by simpa using h1
 rw [List.getD_eq_getElem?_getD,List.getElem?_eq_getElem hi];rfl
section
variable {L:LA}
noncomputable abbrev rM (L:LA) (share:Int) (x t:List Nat) (ks sm:List Int):List (Str×Bd):=[("lexer",.v (.ref L.lx)),("share",.d (.int share)),("text",.d (.str (tx t))),("word",.d (.str (tx x))),("spelled",.d (.lst (ks.map (qJ ∘ D.int)))),("sums",.d (am sm))]
theorem oq {k:Nat} {n:Nat} {sm:List Int} {x t:List Nat} {r0:RI} {q0:List RI} {n0:Nat} {E:List (Int×List Nat)} {share:Int} {lt:Tok} {Q:Flow→Shared→Prop} (ao1:Ao (k + 6) A) (hg1:A.guards=some []) (hfr1:A.frames=some [env]) (hfm:env.frame=some env.locals) (fe:Fe env 25)
  (P:LawP sm n x t r0 q0 n0 E) (ok:LaOk L) (S:Sx prog w s₀ env M X (rM L share x t (sm.take (n + 1)) sm) (aD L ⟨1 + (nls t - nls (restT t 0)),lt,[],tx (restT t 0)⟩++[]) s)
  (hQ:∀ s',Keep M s₀ s'→Q (.ret (.bool true)) s'):WN prog w A (execs lk env) Q s:=by
 revert ao1 hg1 hfr1 hfm fe P ok S hQ
 revert sm x t r0 q0 n0 E share lt Q
 revert prog w A env M X s s₀ L k n;refine @(dr11 ?_);exists w11 _ _,prog,w,A,env,M,X,s,s₀,L,k,n
 intro sm x t r0 q0 n0 E share lt Q
 revert sm x t r0 q0 n0 E share lt Q;refine @(dr10 ?_);exists w10 _ _,sm,x,t,r0,q0,n0,E,share,lt,Q
 intro ao1 hg1 hfr1 hfm fe P ok S hQ
 let ks:=sm.take (n + 1)
 have hn2:=P.hn
 have h2n:(2:Nat) ^ n≤8:=by (refine bQ hn2 (fun Z1=>?_) fun Z1=>?_ <;> subst Z1) <;> decide
 have hksl:ks.length=n + 1:=by show (sm.take (n + 1)).length=_;rw [List.length_take,P.len];lia
 have hxl:=P.xlen
 have hsm5:(sm.map D.int).length≤16777216:=by rw [List.length_map,P.len];exact Nat.le_add_left ..
 let O:Nat→Tok→List (Addr×OD):=fun i lt=>aD L ⟨1 + (nls t - nls (restT t i)),lt,[],tx (restT t i)⟩
 have hOa:∀ i u,(O i u).map (·.1)=(O 0 lt).map (·.1):=fun i u=>by show (aD L _).map _=(aD L _).map _;rw [aR,aR]
 refine cN (tp (wpAny_isTrue_Compare1 (rL (O:=O) (u0:=lt) (ωb:=[]) (τf:=[("lexer",.v (.ref L.lx))]) (ds:=ks.map (qJ ∘ D.int)) (σ:=fun d=>[("pair",.d d)]) (g:=fun i=>.str (tx [x.getD i 0])) S (fun p hp=>nomatch hp) hOa
  (bu S.cx ao1.h (aa (.lst (ks.map (qJ ∘ D.int))) S.cx rfl)) (aE fe (by decide +kernel)).1 (aE fe (by decide +kernel)).2 (by decide +kernel) (by decide +kernel) ⟨rfl,trivial⟩ (by rfl) (by rw [List.length_map];lia) (fun d hd=>⟨rfl,trivial⟩) (fun d hd cenv M ce=>au (ce.st rfl)) (by decide +kernel)
  (fun i d u hd cenv M' X' ωr s' hX ce hωr S'=>?_) (fun v s₁ u S1 hv=>?_)) (by with_unfolding_all rfl)))
 ·have hi:i < n + 1:=by
   have:=(List.getElem?_eq_some_iff.mp hd).1
   rw [List.length_map] at this;exact Nat.lt_of_lt_of_eq this hksl
  refine ai (P.toks i hi) fun ht1 ht2=>?_
  refine eH (x:=L.lx) (dx:=L.dx) (f:=70) (i:=102) S'.cx (az (.ref L.lx) S'.cx rfl) (mL (.head _)) (mL (.tail _ (.head _))) (by decide) rfl rfl al fun vs s₂ k₂ h₂=>?_
  cases h₂
  have S2:=S'.keep k₂
  refine wpAny_mono (iI (k:=k) (l:=restT t i) (ao1.less (by lia)) S2.cx.gd ok S2.lexAt rfl rfl ht2) (fun v s₃ z=>?_) fun Z Z z=>z
  refine br z fun z1 Z1 z3=>?_;clear z;refine ex11 Z1 fun lt' z2=>?_;clear Z1
  have S3:=S2.lexTurn z1 z2 (fun p hp=>by have:=hωr p hp;rwa [show (O 0 lt).map (·.1)=lexA L from aR L _] at this)
  refine ⟨lt',?_,by rw [← ht1];exact z3⟩
  have e1:1 + (nls t - nls (restT t i)) + (nls (restT t i) - nls (lexT (restT t i)).2)=1 + (nls t - nls (restT t (i + 1))):=by
   show _=1 + (nls t - nls (lexT (restT t i)).2);lia
  show Sx prog w s' cenv M' X' _ (aD L ⟨1 + (nls t - nls (restT t (i + 1))),lt',[],tx (restT t (i + 1))⟩++ωr) s₃
  rw [← e1];exact S3
 ·rw [List.length_map,hksl,← hxl,qh] at hv
  rw [List.length_map,hksl] at S1
  refine (mr S1.cx ao1.h (aY _ S1.cx (fe.gl rfl) rfl) (aH (aa (.str (tx x)) S1.cx rfl) al) (by rw [aP];lia)).go fun v2 s₂ k₂ h₂=>?_
  have S2:=S1.keep k₂
  refine wpAny_mono (jp (k:=k + 4) ao1 (fun d hd=>?_) s₂ v v2 S2.cx.gd (hv.keep k₂.any) h₂) (fun rr s₃ z=>?_) fun Z Z z=>z
  ·intro A' s' u' v' Z h1 h2
   unfold cA at hd
   refine mM hd fun c Z Z1=>?_;subst Z1
   exact li h1 h2
  refine ai z fun k₃ hr=>?_;clear z
  rw [hr.bool_inv]
  refine wpAny_truthy_bool ?_
  refine mF (by decide) ?_
  refine aT (ax ?_)
  have S3:=S2.keep k₃
  have S3':Sx prog w s₀ env M X (rM L share x t ks sm) (aD L ⟨1 + (nls t - nls [46]),u,[],tx [46]⟩++[]) s₃:=by
   have:restT t (n + 1)=[46]:=P.rest
   rw [← this];exact S3
  let kd:=(sm.getD 4 0).fdiv 2
  refine cN (t9 (ua (ub ?_)))
  show bM _ A (do callWith _ (← eval (.Name _ _) env) [] (backTo _ (starEach _ env)) (backToKw _ (keywordEach [] env))) _ _ s₃
  refine an ((bj (.ref 150) S3'.cx (fe.gl rfl) rfl).go fun u' s₄ k₄ h₄=>?_)
  subst h₄
  have S4:=S3'.keep k₄
  refine uB (X:=X) (bs:=[.v (.ref L.lx),.d (.str (tx x)),.d (.int kd)]) (qt (az (.ref L.lx) S4.cx rfl) (aH (aa (.str (tx x)) S4.cx rfl) (aH (aF S4.cx (cH S4.cx (aa (am sm) S4.cx rfl) (ag (i:=4)) (dM (d:=.int (sm.getD 4 0)) (by decide) (by
   have hl:4 < sm.length:=by rw [P.len];exact Nat.lt_succ_self _
   show (sm.map D.int)[4]?=_
   rw [List.getElem?_map,List.getElem?_eq_getElem hl,List.getD_eq_getElem?_getD,List.getElem?_eq_getElem hl];rfl) hsm5)) (ag (i:=2)) (fM (by decide) (by decide))) al))) (fun s' k=>cG (i:=20) (S4.cx.keep k).top (by decide)) fun vs s₅ k₅ h₅=>?_
  have S5:=S4.keep k₅
  cases h₅ with
  | cons b1 h₅ =>
  cases h₅ with
  | cons b2 h₅ =>
  cases h₅ with
  | cons b3 h₅ =>
  cases h₅
  have b1':_=Value.ref L.lx:=b1
  subst b1'
  refine ex43 (id S5.cx.ns) fun mm ob es ep ho hd' Z=>?_
  have hLa:env.locals∉lexA L:=fun hm=>by
   rw [← aR L ⟨1 + (nls t - nls [46]),u,[],tx [46]⟩] at hm
   refine mM hm fun p hp e=>?_
   exact (S5.cx.own p (mL hp)).2.2.1 e
  have hlo:∀ p∈env.cells,p.2≠env.locals:=fun p hp=>Nat.ne_of_gt (fe.lo p hp)
  refine av (nU (n:=n) (k:=k) (x:=tx x) (kind:=kd) (e0:=env) (L0:=env.locals) (o0:=ob) ao1 hg1 hfr1 S5.cx.gd ok S5.lexAt rfl hn2 P.asc (by rw [aP];exact hxl) hfm ho (by obtain ⟨c,d,dt,sl⟩:=ob;cases hd';rfl) (by rw [fe.sc];decide +kernel) S5.cx.ok.loc hLa b2 b3) (fun v' s₆ z=>?_) fun Z Z z=>z
  refine dS z fun Z1 z1 Z2 z3=>?_;clear z;subst Z1;refine ex11 Z2 fun sl z2=>?_;clear Z2
  have S6:=S5.pushed z1 ho z2 z3 (fun p hp=>nomatch hp) hlo
  refine wpAny_truthy_bool ?_
  refine mF (by decide) ?_
  refine aT (ax ?_)
  have S6':Sx prog w s₀ env M X (rM L share x t ks sm) (aD L ⟨1 + (nls t - nls [46]),u,(r0::q0).map RI.d,tx [46]⟩++[]) s₆:=by rw [← P.push];exact S6
  refine k6 (aK (wpAny_Assign_Name (wpAny_Call_NameR ((bj (.ref 157) S6'.cx (fe.gl rfl) rfl).go fun u₂ s₇ k₇ h₇=>?_)) (by rfl)))
  subst h₇
  refine cw (X:=X) (bs:=[.v (.ref L.lx)]) (first:=[]) (qt (az (.ref L.lx) (S6'.keep k₇).cx rfl) al) (fun s' k=>cG (i:=21) ((S6'.keep k₇).cx.keep k).top (by decide)) fun vs s₈ k₈ h₈=>?_
  refine ex12 (dZ h₈) fun v8 Z1 hv8=>?_;subst Z1
  have hv8':v8=.ref L.lx:=hv8
  subst hv8'
  have S8:=S6'.keep (k₇.trans k₈)
  refine wpAny_mono (l8 (k:=k) (n0:=n0) (r0:=r0) (q0:=q0) ao1 S8.cx.gd ok S8.lexAt rfl rfl P.rsok P.fin) (fun v9 s₉ z=>?_) fun Z Z z=>z
  refine br z fun z1 Z1 z3=>?_;clear z;refine ex11 Z1 fun lt9 z2=>?_;clear Z1
  rw [P.ends] at z3
  have S9:=S8.lexTurn z1 z2 (fun p hp=>nomatch hp)
  refine S9.store (fe.own rfl) (b:=.d (.lst (E.map endD))) z3 fun s10 Z S10=>ax ?_
  let ln:Int:=1 + (nls t - nls [46])
  refine cN (tp (wpAny_isTrue_BoolOp (wpAny_allTrue_Or_cons (wpAny_isTrue_Compare1 (eH (x:=L.lx) (dx:=L.dx) (f:=70) (i:=102) S10.cx (az (.ref L.lx) S10.cx rfl) (mL (.head _)) (mL (.tail _ (.head _))) (by decide) rfl rfl al fun vs s11 k11 hAA=>?_) (by with_unfolding_all rfl)))))
  cases hAA
  have S11:=S10.keep k11
  refine wpAny_mono (iI (k:=k) (l:=[]) (ao1.less (by lia)) S11.cx.gd ok S11.lexAt rfl rfl (by decide)) (fun v12 s12 z=>?_) fun Z Z z=>z
  refine br z fun y1 Z1 y3=>?_;clear z;refine ex11 Z1 fun lt12 y2=>?_;clear Z1
  rw [nY] at y2 y3
  have S12:=S11.lexTurn y1 y2 (fun p hp=>nomatch hp)
  refine (aX (X:=X)).go fun v13 s13 kAC hAC=>?_
  have S13:=S12.keep kAC
  refine wpAny_mono (qA s13 v12 v13 S13.cx.gd (y3.keep kAC.any) hAC) (fun rr s14 z=>?_) fun Z Z z=>z
  refine ai z fun kAD hr14=>?_;clear z
  rw [hr14.bool_inv,show (tx [] != Str.ofString "")=false by decide]
  refine wpAny_truthy_bool ?_
  refine mF (by decide) ?_
  have S14:=S13.keep kAD
  have hln:1 + (nls t - nls [46]) + (nls [] - nls [])=1 + Txt.count (tx t) "\n":=by rw [Int.sub_self,Int.add_zero,P.nl]
  refine wpAny_allTrue_Or_cons (((aZ S14.cx (EvV.d (X:=X) (d:=.int (1 + (nls t - nls [46]) + (nls [] - nls []))) (gZ (x:=L.lx) (dx:=L.dx) (ps:=cD L ⟨1 + (nls t - nls [46]) + (nls [] - nls []),lt12,[],tx []⟩) (u:=.int (1 + (nls t - nls [46]) + (nls [] - nls [])) lt12) S14.cx (az (.ref L.lx) S14.cx rfl) (mL (.head _)) (mL (.tail _ (.head _))) (by decide) rfl rfl) fun Z=>Rd.int_)
   (aF S14.cx (ag (i:=1)) (gf S14.cx (aa (.str (tx t)) S14.cx rfl) (aX (x:="\n"))) bR) tz).to (by rw [hln];simp:_=false)).go fun s15 k15=>?_)
  refine mF (by decide) ?_
  refine wpAny_allTrue_Or_nil ?_
  refine mF (by decide) ?_
  refine aT (ax ?_)
  have S15:=S14.keep k15
  let du:=(dueAll n x (ordersL (n + 1)).length).1.foldl (bkStep x share) []
  let bk:=(E.map fun e=>(e.1,tx e.2)).foldl (bookStep n share) []
  have hdE:dE (E.map fun e=>(e.1,tx e.2))=.lst (E.map endD):=by unfold dE;rw [List.map_map];rfl
  refine k6 (dw S15 [("told",_),("due",_)] (ds:=[.lst (E.map endD),.dcs (dB du)]) ao1.h (fun y hy=>by
    refine mC hy (fun Z1=>?_) fun hy=>?_;subst Z1
    ·exact fe.own rfl
    ·rw [mS hy];exact fe.ownC rfl rfl) rfl
   ((b5 (i:=24) S15.cx (ao1.less (by exact Nat.le_add_left ..)) (sS n x share hn2 hxl (qOf n) (mo hn2 x)) (by decide) (bj _ S15.cx (fe.gl rfl) rfl) (aH (aa (.str (tx x)) S15.cx rfl) (aH (aa (.int share) S15.cx rfl) al))).to (by rw [P.told])) (fun s16 S16=>ax ?_) rfl rfl)
  refine k6 (aC S16 (.dcs (dB bk)) (fe.own rfl) (b5 (i:=22) S16.cx (ao1.less (by exact Nat.le_add_left ..)) (rg (E.map fun e=>(e.1,tx e.2)) n share (by lia) (by rw [List.length_map];exact P.elen) (fun p hp=>by
    refine mM hp fun e he Z1=>?_;subst Z1;exact P.cuts e he)) (by decide) (bj _ S16.cx (fe.gl rfl) rfl) (aH ((aa (.lst (E.map endD)) S16.cx rfl).to hdE.symm) (aH ((fC S16.cx (aY _ S16.cx (fe.gl rfl) rfl) (aH (aa (.str (tx x)) S16.cx rfl) al) (by rw [aP];lia)).to (congrArg D.int (by rw [aP,hxl];simp))) (aH (aa (.int share) S16.cx rfl) al)))) fun s17 S17=>ax ?_)
  refine su S17 false (tJ (aZ S17.cx (aa (.lst (E.map endD)) S17.cx rfl) (aa (.lst (E.map endD)) S17.cx rfl) (jp (k:=k + 4) ao1 fun d hd=>?_)) (fun Z=>aZ S17.cx (aa (.dcs (dB bk)) S17.cx rfl) (aa (.dcs (dB du)) S17.cx rfl) (mq (k:=k + 3) ao1 (P.book share)))) (fun h=>by exact nB h) (fun Z s18 S18=>aT (ax ?_))
  ·intro A' s' u' v' ao' h1 h2
   refine mM hd fun e he Z1=>?_;subst Z1
   exact oo ao' h1 h2
  let L1:List Int:=bk.map fun p=>(p.2.cs.map (·.2)).foldl (· + ·) 0
  let L2:List Int:=bk.map fun p=>(getV du p.1).elim 0 (·.nc)
  have hL:L1=L2:=by
   refine List.map_congr_left fun p hp=>?_
   refine ex12 (P.last share p hp) fun f h1 h2=>?_
   rw [h1];exact h2
  have hbl:bk.length≤900:=by
   have:=ef n share (E.map fun e=>(e.1,tx e.2)) (E.map fun e=>(e.1,tx e.2)).length
   rw [List.take_length,List.length_map] at this
   exact Nat.le_trans this P.elen
  refine qz S18 (r8 (a:=am L1) (b:=am L2) (d:=.bool (decide (L1=L2))) S18.cx ((dc (τf:=[]) (ds:=(dB bk).map (·.2)) (σ:=fun d=>[("entry",.d d)]) (pz:=fun Z=>true) (g:=gC) S18.cx (jJ S18.cx ao1.h (aa (.dcs (dB bk)) S18.cx rfl)) (fun s' k'=>?_) (by decide +kernel)).to ?_)
   ((dc (τf:=[("due",.d (.dcs (dB du)))]) (ds:=(dB bk).map fun kv=>.str kv.1) (σ:=fun d=>[("one",.d d)]) (pz:=fun Z=>true) (g:=gN du) S18.cx (iY S18.cx ao1.h (aa (.dcs (dB bk)) S18.cx rfl)) (fun s' k'=>?_) (by decide +kernel)).to ?_) (sz ao1)) fun s19 v19 S19 hv19=>?_
  ·refine ⟨(aE fe (by decide +kernel)).1,(aE fe (by decide +kernel)).2,by decide +kernel,by decide +kernel,trivial,by rfl,by rw [List.length_map,List.length_map];exact Nat.le_add_left_of_le hbl,fun d hd=>trivial,fun d hd cenv M ce=>au (ce.st rfl),fun d hd cenv X'' ω s'' hX'' ce c=>bH,fun d hd Z cenv X'' ω s'' hX'' ce c=>?_⟩
   refine mM hd fun kv hkv Z1=>?_;subst Z1
   refine mM hkv fun p hp Z1=>?_;subst Z1
   refine (b5 (i:=3) c (ao1.less (by exact Nat.succ_pos _)) (pg p.2.cs) (by decide) (bj _ c (ce.gl rfl) rfl) (aH (cH c (aa p.2.d c rfl) (ag (i:=4)) (dq (ds:=[.int p.2.cc,.int p.2.nc,.int p.2.tt,.int p.2.ct,.dci (dI p.2.cs)]) (by decide) rfl (by simp))) al)).to ?_
   show D.int _=D.int _
   rw [List.map_map];rfl
  ·rw [List.filter_eq_self.mpr (fun Z Z=>rfl),List.map_map,List.map_map]
   show D.lst _=D.lst (L1.map .int)
   rw [List.map_map]
   refine congrArg D.lst (List.map_congr_left fun p Z=>?_)
   show D.int _=D.int _
   rw [List.map_map];rfl
  ·refine ⟨(aE fe (by decide +kernel)).1,(aE fe (by decide +kernel)).2,by decide +kernel,by decide +kernel,⟨rfl,trivial⟩,by rfl,by rw [List.length_map,List.length_map];exact Nat.le_add_left_of_le hbl,fun d hd=>⟨rfl,trivial⟩,fun d hd cenv M ce=>au (ce.st rfl),fun d hd cenv X'' ω s'' hX'' ce c=>bH,fun d hd Z cenv X'' ω s'' hX'' ce c=>?_⟩
   refine mM hd fun kv hkv Z1=>?_;subst Z1
   refine mM hkv fun p hp Z1=>?_;subst Z1
   refine ex12 (P.last share p hp) fun f h1 h2=>?_
   refine (cH c (cH c (aa (.dcs (dB du)) c rfl) (aa (.str p.1) c rfl) (iZ (d:=f.d) (by rw [dj Ent.d];show Option.map Ent.d (getV du p.1)=_;rw [h1];rfl) (by intro o u hu;with_unfolding_all rfl))) (ag (i:=1)) (dq (ds:=[.int f.cc,.int f.nc,.int f.tt,.int f.ct,.dci (dI f.cs)]) (by decide) rfl (by simp))).to ?_
   show D.int f.nc=D.int ((getV du p.1).elim 0 (·.nc))
   rw [show getV du p.1=some f from h1];rfl
  ·rw [List.filter_eq_self.mpr (fun Z Z=>rfl),List.map_map,List.map_map]
   show D.lst _=D.lst (L2.map .int)
   rw [List.map_map];rfl
  ·have hb:=Rd.bool_inv hv19
   rw [hb,decide_eq_true hL]
   exact hQ _ S19.base
end
theorem ou {k:Nat} {ns:List Int} {n:Nat} {x t:List Nat} {r0:RI} {q0:List RI} {n0:Nat} {E:List (Int×List Nat)} {v:Value} (ao:Ao (k + 7) A) (hg:A.guards=some []) (hfr:A.frames=some []) (g:Gd X s) (hT:s.heap.get? TQ=some (tabObj #[])) (hns:ns.length≤63)
  (P:LawP (dO (ns.take 60) (ns.take 60).length) n x t r0 q0 n0 E) (hv:Rd prog w s.heap X (am ns) v) :
  WN prog w A (call (.ref 177) [v] []) (fun u s'=>u=.bool true∧Keep [TQ] s s'∧∃ tab,s'.heap.get? TQ=some (tabObj tab)) s:=by
 revert ao hg hfr g hT hns P hv
 revert x t r0 q0 n0 E v
 revert prog w A X s k ns n;refine @(dr8 ?_);exists w8 _ _,prog,w,A,X,s,k,ns,n
 intro x t r0 q0 n0 E v
 revert x t r0 q0 n0 E v;refine @(dr7 ?_);exists w7 _ _,x,t,r0,q0,n0,E,v
 intro ao hg hfr g hT hns P hv
 refine eE (bs:=[.d (am ns)]) (names:=["script"]) (g.top.fn (177,25) (by decide)) g ao.lim (.cons hv .nil) (fun env M s₁ hfm hsc hnew hcl hcl' S Z=>?_) (fun Z Z Z=>rfl) (by rfl) (by decide) (by decide +kernel) (by decide +kernel) (by decide +kernel) (by decide +kernel)
 have fe:Fe env 25:=⟨hsc,hcl,hcl'⟩
 have ao1:Ao (k + 6) (A.deeper env):=ao.deeper
 have hg1:(A.deeper env).guards=some []:=hg
 have hfr1:(A.deeper env).frames=some [env]:=by show A.frames.map (env::·)=_;rw [hfr];rfl
 generalize hSd:dO (ns.take 60) (ns.take 60).length=sm at P
 refine k6 (aC S (am sm) (fe.own rfl) (b5 (i:=12) S.cx (ao1.less (by lia)) (hSd ▸ q7 ns (by lia)) (by decide) (bj _ S.cx (fe.gl rfl) rfl) (aH (aa (am ns) S.cx rfl) al)) fun s₂ S2=>ax ?_)
 let ks:=sm.take (n + 1)
 have hsm5:(sm.map D.int).length≤16777216:=by rw [List.length_map,P.len];lia
 have e4:∀ {X':List Addr} {τ':List (Str×Bd)} {ω':List (Addr×OD)} {s':Shared} {p q r:Pos} {kk:Nat},Cx prog w env X' τ' ω' s'→τ'.lookup ("sums":Str)=some (Bd.d (am sm))→EvD prog w (A.deeper env) env X' s' (.Subscript (.Name "sums" p) (.Constant (.int 4) kk q) r) (.int (sm.getD 4 0)):=fun c h =>
  cH c (aa (am sm) c h) (ag (i:=4)) (dM (by decide) (by
   have hl:4 < sm.length:=by rw [P.len];lia
   show (sm.map D.int)[4]?=_
   rw [List.getElem?_map,List.getElem?_eq_getElem hl,List.getD_eq_getElem?_getD,List.getElem?_eq_getElem hl];rfl) hsm5)
 have hn2:=P.hn
 refine k6 (kG (τf:=[]) (ds:=ks.map .int) (σ:=fun d=>[("number",.d d)]) (pz:=fun Z=>true) (g:=qJ) S2 (fe.own rfl) (cQ fe (by decide +kernel) rfl rfl rfl) (by
   refine bu S2.cx ao1.h ((fD (ds:=sm.map .int) (a:=none) (b:=some ((n:Int) + 1)) (lo:=none) (hi:=some _) S2.cx (aa (am sm) S2.cx rfl) trivial ?_ (fun Z h=>nomatch h) (fun y h=>by (refine sE h fun h=>?_;subst h);lia) (.inl rfl) hsm5).to (by
    show D.lst ((sm.map D.int).take _)=_
    rw [show ((n:Int) + 1).toNat=n + 1 by lia,← List.map_take]))
   exact (aF S2.cx (ag (i:=3)) (aF S2.cx (e4 S2.cx rfl) (ag (i:=2)) (fv (by decide))) bR).to (congrArg D.int P.cnt)) ?_ (by decide +kernel) fun s₃ S3=>ax ?_)
 ·refine ⟨(aE fe (by decide +kernel)).1,(aE fe (by decide +kernel)).2,by decide +kernel,by decide +kernel,trivial,by rfl,by rw [List.length_map,List.length_take,P.len];lia,fun d hd=>trivial,fun d hd cenv M ce=>au (ce.st rfl),fun d hd cenv X'' ω s'' hX'' ce c=>bH,fun d hd Z cenv X'' ω s'' hX'' ce c=>?_⟩
  refine mM hd fun j hj Z1=>?_;subst Z1
  exact b5 (i:=13) c (ao1.less (by lia)) (lI j) (by decide) (bj _ c (ce.gl rfl) rfl) (aH (aa (.int j) c rfl) al)
 rw [List.filter_eq_self.mpr (fun Z Z=>rfl),List.map_map] at S3
 let sp:D:=.lst (ks.map (qJ ∘ D.int))
 have hspm:∀ d∈ks.map (qJ ∘ D.int),∃ a b,d=.tup [.str a,.str b]:=fun d hd=>by
  refine mM hd fun j Z Z1=>?_;subst Z1;exact ⟨_,_,rfl⟩
 have hksl:ks.length=n + 1:=by show (sm.take (n + 1)).length=_;rw [List.length_take,P.len];lia
 have S3':Sx prog w s env M (M++X) [("spelled",.d sp),("sums",.d (am sm))] [] s₃:=S3.cover ⟨rfl,rfl,trivial⟩
 have hflat:∀ (ys:List Str),(ys.map (·.length)).sum=(ys.flatMap fun y=>y.cps.toList).length:=fun ys=>by
  induction ys with
  | nil=>rfl
  | cons a r ih=>rw [List.map_cons,List.sum_cons,ih,List.flatMap_cons,List.length_append,Array.length_toList];rfl
 have hxl:=P.xlen
 have htl:=P.tlen
 have hxd:(ks.map sgn).flatMap (fun y=>y.cps.toList)=x:=P.hx.symm
 have htd:(ks.map wri).flatMap (fun y=>y.cps.toList)++[46]=t:=P.ht.symm
 have htl':((ks.map wri).flatMap (fun y=>y.cps.toList)).length≤900:=by
  have:=congrArg List.length htd
  rw [List.length_append] at this;simp only [List.length_cons,List.length_nil] at this;lia
 refine k6 (aC S3' (.str (tx x)) (fe.own rfl) ((kT (ys:=ks.map sgn) S3'.cx (aX (x:=Str.ofString "")) ((dc (τf:=[]) (ds:=ks.map (qJ ∘ D.int)) (σ:=fun d=>[("pair",.d d)]) (pz:=fun Z=>true) (g:=uZ) S3'.cx (bu S3'.cx ao1.h (aa sp S3'.cx rfl)) (fun s' k=>?_) (by decide +kernel)).to ?_) (by decide) (by rw [hflat,hxd,List.length_map];lia)).to (by rw [gh,hxd])) fun s₄ S4=>ax ?_)
 ·refine ⟨(aE fe (by decide +kernel)).1,(aE fe (by decide +kernel)).2,by decide +kernel,by decide +kernel,trivial,by rfl,by rw [List.length_map];lia,fun d hd=>trivial,fun d hd cenv M ce=>au (ce.st rfl),fun d hd cenv X'' ω s'' hX'' ce c=>bH,fun d hd Z cenv X'' ω s'' hX'' ce c=>?_⟩
  refine ex21 (hspm d hd) fun a b Z1=>?_;subst Z1
  exact cH c (aa (.tup [.str a,.str b]) c rfl) (ag (i:=0)) (dq (by decide) rfl (by simp))
 ·rw [List.filter_eq_self.mpr (fun Z Z=>rfl),List.map_map,List.map_map];rfl
 refine k6 (aC S4 (.str (tx t)) (fe.own rfl) ((aF S4.cx (kT (ys:=ks.map wri) S4.cx (aX (x:=Str.ofString "")) ((dc (τf:=[]) (ds:=ks.map (qJ ∘ D.int)) (σ:=fun d=>[("pair",.d d)]) (pz:=fun Z=>true) (g:=u6) S4.cx (bu S4.cx ao1.h (aa sp S4.cx rfl)) (fun s' k=>?_) (by decide +kernel)).to ?_) (by decide) (by rw [hflat,List.length_map];lia)) (aX (x:=Str.ofString ".")) (cM (by rw [gh,aP,t8];lia))).to (by rw [gh,show Str.ofString "."=tx [46] by decide,b7,htd])) fun s₅ S5=>ax ?_)
 ·refine ⟨(aE fe (by decide +kernel)).1,(aE fe (by decide +kernel)).2,by decide +kernel,by decide +kernel,trivial,by rfl,by rw [List.length_map];lia,fun d hd=>trivial,fun d hd cenv M ce=>au (ce.st rfl),fun d hd cenv X'' ω s'' hX'' ce c=>bH,fun d hd Z cenv X'' ω s'' hX'' ce c=>?_⟩
  refine ex21 (hspm d hd) fun a b Z1=>?_;subst Z1
  exact cH c (aa (.tup [.str a,.str b]) c rfl) (ag (i:=1)) (dq (by decide) rfl (by simp))
 ·rw [List.filter_eq_self.mpr (fun Z Z=>rfl),List.map_map,List.map_map];rfl
 let share:=(sm.getD 4 0).fdiv 6
 refine k6 (aC S5 (.int share) (fe.own rfl) (aF S5.cx (e4 S5.cx rfl) (ag (i:=6)) (fM (by decide) (by decide))) fun s₆ S6=>ax ?_)
 let τ6:List (Str×Bd):=[("share",.d (.int share)),("text",.d (.str (tx t))),("word",.d (.str (tx x))),("spelled",.d sp),("sums",.d (am sm))]
 have S6':Sx prog w s env M (M++X) τ6 [] s₆:=S6.cover ⟨rfl,rfl,rfl,rfl,rfl,trivial⟩
 refine k6 (aK (wpAny_Assign_Name (wpAny_Call_NameR ((bj (.ref 112) S6'.cx (fe.gl rfl) rfl).go fun u s₇ k₇ h₇=>?_)) (by rfl)))
 subst h₇
 refine cw (X:=M++X) (bs:=[.d (.str (tx t))]) (first:=[]) (aH (aa (.str (tx t)) (S6'.keep k₇).cx rfl) al) (fun s' k=>cG (i:=14) ((S6'.keep k₇).cx.keep k).top (by decide)) fun vs s₈ k₈ h₈=>?_
 refine aO h₈ fun vt Z1 hvt=>?_;subst Z1
 have S8:=S6'.keep (k₇.trans k₈)
 have hTM:∀ {s':Shared},Keep M s s'→s'.heap.get? TQ=some (tabObj #[]):=fun k=>k.heap TQ _ (fun hm=>by rw [hnew TQ hm] at hT;exact nO hT) hT
 refine pL (k:=k + 3) ao1 S8.cx.gd (hTM S8.base) hvt fun s₉ L lt tab kq hT9 ok hfrL hown=>?_
 have S9:=S8.tqOwn (hTM S8.base) kq (aD L ⟨1,lt,[],tx t⟩) (fun p hp=>(hfrL p.1 (by rw [← aR L ⟨1,lt,[],tx t⟩];exact List.mem_map_of_mem hp)).1) hown (fun p hp=>(hfrL p.1 (by rw [← aR L ⟨1,lt,[],tx t⟩];exact List.mem_map_of_mem hp)).2)
 refine S9.store (fe.ownC rfl rfl) (b:=.v (.ref L.lx)) rfl fun s10 k10 S10=>ax ?_
 rw [aR] at S10
 let O:Nat→Tok→List (Addr×OD):=fun i lt=>aD L ⟨1 + (nls t - nls (restT t i)),lt,[],tx (restT t i)⟩
 have S11:Sx prog w s₉ env (lexA L++M) (lexA L++(M++X)) (("lexer",.v (.ref L.lx))::τ6) (O 0 lt++[]) s10:=by
  show Sx prog w s₉ env _ _ _ (aD L ⟨1 + (nls t - nls t),lt,[],tx t⟩++[]) s10
  rw [Int.sub_self,Int.add_zero];exact S10
 show WN prog w (A.deeper env) (execs lk env) _ s10
 refine oq (k:=k) (s₀:=s₉) ao1 hg1 hfr1 hfm fe P ok S11 fun s' k'=>?_
 refine ⟨rfl,(((S8.base.more (Y:=TQ::(lexA L++M)) fun b hb=>.tail _ (mR hb)).trans (kq.more fun b hb=>by rw [ay hb];exact .head _)).trans (k'.more fun b hb=>.tail _ hb)).dropTo fun b hb=>?_,tab,k'.heap TQ _ (fun hm=>?_) hT9⟩
 ·refine mC hb (fun Z1=>?_) fun hb=>?_;subst Z1
  ·exact .inl (.head _)
  ·refine mA hb (fun hb=>?_) fun hb=>?_
   ·exact .inr (S8.base.none_back (hfrL b hb).1)
   ·exact .inr (hnew b hb)
 ·refine mA hm (fun hm=>?_) fun hm=>?_
  ·exact g7 (hfrL _ hm).2 rfl
  ·rw [hnew TQ hm] at hT;exact nO hT
section
open PySem.Spec
noncomputable abbrev Γ0:PySem.Ctx:=⟨.builtin "claim.caller" {},none,none,[],none⟩
theorem u7:NDx Γ0:=⟨rfl,fun x hx=>by exact nM hx⟩
theorem sV {prog:Program} {w:World} {t:Sem Fin} {s:Shared} {R:Result→Shared→Prop} (hz:s.asleep)
  (h:bM (model prog w) callerA t (fun fin s'=>∃ f,fin=.done f∧R (.ok f) s'∧AllBare s'.gens) (fun e s'=>R (.error e) s'∧AllBare s'.gens) s) :
  ∃ n r s' s'',schedN (denote table) prog w n (.single s ⟨t,.builtin "claim.caller" {},default,[]⟩)=.halted (outcomeOf r) s' ∧
   runN (denote table) prog w n s ⟨t,.builtin "claim.caller" {},default,[]⟩=.halted (outcomeOf r) s'∧s'.forget=s''.forget∧R r s'':=by
 have key:∃ n r s' s'',schedN (model prog w).den (model prog w).prog (model prog w).w n (.single s ⟨t,.builtin "claim.caller" {},default,[]⟩)=.halted (outcomeOf r) s'' ∧
   PySem.runN (model prog w).den (model prog w).prog (model prog w).w n s ⟨t,.builtin "claim.caller" {},default,[]⟩=.halted (outcomeOf r) s''∧s''.forget=s'.forget∧R r s':=by
  refine wp_halts_full hz ?_
  refine Sem.wp_mono (model prog w) Γ0 t (fun fin p' s' h'=>?_) (fun e p' s' h'=>?_) default s (h Γ0 default caller_in u7)
  ·refine ex13 h' fun f Z1 h1 h2=>?_;clear h';subst Z1
   exact ⟨h1,leftWithCleanup_false_of_bare h2⟩
  ·exact ⟨h'.1,leftWithCleanup_false_of_bare h'.2⟩
 refine ex44 key fun n r s₁ s₂ a b c d=>?_;clear key
 exact ⟨n,r,s₂,s₁,a,b,c,d⟩
end
theorem w34:jy 34=false:=by decide +kernel
theorem w92:jy 92=false:=by decide +kernel
theorem uL:qB 34=true:=by decide +kernel
theorem uM:qB 92=false:=by decide +kernel
theorem uN:bB 92=true:=by decide +kernel
theorem rN (c:Nat) (l:List Nat):lexT (34::92::c::34::l)=([c],l):=by
 unfold lexT
 simp only [List.length_cons,outer,b4,w34,uL,uM,uN,if_true,if_false,Bool.false_eq_true,List.take_succ_cons,List.take_zero,List.drop_succ_cons,List.drop_zero,List.nil_append]
theorem iO (c:Nat) (l:List Nat) (h1:qB c=false) (h2:bB c=false):lexT (34::c::34::l)=([c],l):=by
 unfold lexT
 simp only [List.length_cons,outer,b4,w34,uL,h1,h2,if_true,if_false,Bool.false_eq_true,List.nil_append]
theorem ow (c d:Nat) (l:List Nat) (h0:jy c=false) (h1:qB c=false) (h2:bB c=false) (h3:jy d=true):lexT (c::d::l)=([c],l):=by
 unfold lexT
 simp only [List.length_cons,outer,b4,h0,h1,h2,h3,if_true,if_false,Bool.false_eq_true,List.nil_append]
theorem rO (c d:Nat) (l:List Nat) (h3:jy d=true):lexT (92::c::d::l)=([c],l):=by
 unfold lexT
 simp only [List.length_cons,outer,b4,w92,uM,uN,h3,if_true,if_false,Bool.false_eq_true,List.take_succ_cons,List.take_zero,List.drop_succ_cons,List.drop_zero,List.nil_append]
noncomputable def sgC:List Nat:=[97,34,92,32,10,35]
structure SpF (k:Int) (c:Nat) (v:List Nat):Prop where
 mem:c∈sgC
 sg:sgn k=tx [c]
 wr:wri k=tx v
 lex:∀ l,lexT (v++l)=([c],l)
 len:v.length≤4
theorem mt (k:Int):∃ c∈sgC,sgn k=tx [c]∧pj "a#" (sgn k)=(c == 97 || c == 35)∧pj "\"\\" (sgn k)=(c == 34 || c == 92):=by
 have h:=ba (a:=k) (b:=6) (by decide)
 unfold sgn
 generalize k.fmod 6=r at h
 refine tw (by lia:r=0∨r=1∨r=2∨r=3∨r=4∨r=5) (fun Z1=>?_) (fun Z1=>?_) (fun Z1=>?_) (fun Z1=>?_) (fun Z1=>?_) fun Z1=>?_ <;> subst Z1
 ·exact ⟨97,by decide +kernel⟩
 ·exact ⟨34,by decide +kernel⟩
 ·exact ⟨92,by decide +kernel⟩
 ·exact ⟨32,by decide +kernel⟩
 ·exact ⟨10,by decide +kernel⟩
 ·exact ⟨35,by decide +kernel⟩
theorem mu (k:Int):∃ d,nj k=tx [d]∧jy d=true:=by
 have h:=ba (a:=k.fdiv 24) (b:=4) (by decide)
 unfold nj
 generalize (k.fdiv 24).fmod 4=r at h
 refine oQ (by lia:r=0∨r=1∨r=2∨r=3) (fun Z1=>?_) (fun Z1=>?_) (fun Z1=>?_) fun Z1=>?_ <;> subst Z1
 ·exact ⟨32,by decide +kernel⟩
 ·exact ⟨9,by decide +kernel⟩
 ·exact ⟨10,by decide +kernel⟩
 ·exact ⟨13,by decide +kernel⟩
theorem iP (k:Int):∃ c v,SpF k c v:=by
 refine ex14 (mt k) fun c hc h1 h2 h3=>?_
 refine ex12 (mu k) fun d d1 d2=>?_
 have e34:("\"":Str)=tx [34]:=by decide +kernel
 have e92:("\\":Str)=tx [92]:=by decide +kernel
 have e3492:("\"\\":Str)=tx [34,92]:=by decide +kernel
 have hform:wri k=tx (if lH k == 1 then [34,92,c,34] else if lH k == 2 && (c == 97 || c == 35) then [c,d] else if lH k == 3 && !(c == 34 || c == 92) then [34,c,34] else [92,c,d]):=by
  unfold wri
  rw [h2,h3,h1,d1,e34,e92,e3492]
  split
  ·rw [b7,b7];rfl
  ·split
   ·rw [b7];rfl
   ·split
    ·rw [b7,b7];rfl
    ·rw [b7,b7];rfl
 refine ⟨c,_,hc,h1,hform,fun l=>?_,?_⟩
 ·split
  ·exact rN c l
  ·split
   ·rename_i _ h
    simp only [Bool.and_eq_true,Bool.or_eq_true,beq_iff_eq] at h
    refine bQ h.2 (fun Z1=>?_) fun Z1=>?_ <;> subst Z1
    ·exact ow _ _ l (by decide +kernel) (by decide +kernel) (by decide +kernel) d2
    ·exact ow _ _ l (by decide +kernel) (by decide +kernel) (by decide +kernel) d2
   ·split
    ·rename_i _ _ h
     simp only [Bool.and_eq_true,Bool.not_eq_true',Bool.or_eq_false_iff,beq_eq_false_iff_ne] at h
     simp only [sgC,List.mem_cons,List.not_mem_nil,or_false] at hc
     refine tw hc (fun Z1=>?_) (fun Z1=>?_) (fun Z1=>?_) (fun Z1=>?_) (fun Z1=>?_) fun Z1=>?_ <;> subst Z1
     ·exact iO _ l (by decide +kernel) (by decide +kernel)
     ·exact absurd rfl h.2.1
     ·exact absurd rfl h.2.2
     ·exact iO _ l (by decide +kernel) (by decide +kernel)
     ·exact iO _ l (by decide +kernel) (by decide +kernel)
     ·exact iO _ l (by decide +kernel) (by decide +kernel)
    ·exact rO c d l d2
 ·split
  ·simp
  ·split
   ·simp
   ·split <;> simp
section
open PySem.Builtin.Str
theorem ox (c:Nat) (r:List Nat):eI (c::r)=if c=10 then 1 else 0:=by
 unfold eI
 rw [List.take_succ_cons,List.take_zero,show ("\n":Str)=tx [10] by decide +kernel]
 by_cases h:c=10
 ·rw [if_pos h,h,if_pos (by simp)]
 ·rw [if_neg h,if_neg]
  intro e
  have:tx [c]=tx [10]:=by simpa using e
  have h2:=congrArg (fun s:Str=>s.cps.toList) this
  simp only [tx] at h2
  exact h (by simpa using h2)
theorem gi (l:List Nat):∀ (m i:Nat) (st:Array Nat×Nat),st.2≤i→st.1.size≤i→i + m=l.length + 1 →
  (((forIn (List.range' i m) st (StrLaws.occBody (tx l) ⟨#[10]⟩ l.length (l.length + 1))).run.fst.size:Nat):Int)=st.1.size + nls (l.drop i)
 | 0,i,st,h1,h2,h3=>by
  rw [List.drop_eq_nil_of_le (by lia)]
  show ((st.1.size:Nat):Int)=_ + 0
  simp
 | m + 1,i,st,h1,h2,h3=>by
  rw [List.range'_succ,List.forIn_cons]
  have key:=StrLaws.subAt_one (tx l) 10 i
  rw [aP] at key
  have e0:(tx l).cps.toList=l:=by simp [tx]
  rw [e0] at key
  unfold StrLaws.occBody
  by_cases hc:l[i]?=some 10
  ·have k:=key.mpr hc
   rw [if_pos ⟨⟨⟨by lia,h1⟩,k.1⟩,k.2⟩]
   refine ex11 (List.getElem?_eq_some_iff.mp hc) fun hlt hv=>?_
   have ih:=gi l m (i + 1) (st.1.push i,i + (⟨#[10]⟩:Str).length) (Nat.le_refl _) (by simp;exact h2) (by lia)
   rw [List.drop_eq_getElem_cons hlt,hv]
   show _=(st.1.size:Int) + (eI (10::l.drop (i + 1)) + nls (l.drop (i + 1)))
   rw [ox,if_pos rfl]
   have e2:(((st.1.push i).size:Nat):Int)=st.1.size + 1:=by simp
   rw [show (st.1.push i,i + (⟨#[10]⟩:Str).length).1.size=(st.1.push i).size from rfl,e2] at ih
   have:_=(st.1.size:Int) + (1 + nls (l.drop (i + 1))):=ih.trans (by lia)
   exact this
  ·rw [if_neg (fun h=>hc (key.mp ⟨h.1.2,h.2⟩))]
   have ih:=gi l m (i + 1) (st.1,st.2) (by show st.2≤_;exact Nat.le_succ_of_le h1) (by show st.1.size≤_;exact Nat.le_succ_of_le h2) (by lia)
   have e3:nls (l.drop i)=nls (l.drop (i + 1)):=by
    by_cases hlt:i < l.length
    ·rw [List.drop_eq_getElem_cons hlt]
     show eI _ + _=_
     rw [ox,if_neg (fun e=>hc (by rw [List.getElem?_eq_getElem hlt,e]))];exact Int.zero_add _
    ·rw [List.drop_eq_nil_of_le (by exact Nat.not_lt.mp hlt),List.drop_eq_nil_of_le (by lia)]
   rw [e3]
   exact ih
theorem oy (l:List Nat):Txt.count (tx l) "\n"=nls l:=by
 show (((Builtin.Str.occurrences (tx l) (Str.ofString "\n") 0 (tx l).length ((tx l).length + 1)).length:Nat):Int)=_
 rw [show (Str.ofString "\n")=⟨#[10]⟩ by decide +kernel,StrLaws.occ_eq,Array.length_toList,aP]
 have:=gi l (l.length + 1) 0 (#[],0) (Nat.le_refl _) (Nat.le_refl _) (by exact Nat.zero_add _)
 rw [Nat.sub_zero]
 simpa using this
end
noncomputable def RI.map (f:Nat→Nat) (r:RI):RI:=⟨r.cut,r.laid.map f,r.ps.map (List.map f)⟩
noncomputable def RS.map (f:Nat→Nat) (t:RS):RS:=⟨t.cur.map (RI.map f),t.q.map (RI.map f),t.ends.map fun e=>(e.1,e.2.map f)⟩
theorem ey (f:Nat→Nat) (l:List (List Nat)) (k:Nat):(l.map (List.map f)).getD k []=(l.getD k []).map f:=by
 rw [List.getD_eq_getElem?_getD,List.getD_eq_getElem?_getD,List.getElem?_map]
 cases l[k]? <;> rfl
theorem mw (f:Nat→Nat) (r:RI) (k:Nat):cr (r.map f) k=(cr r k).map f:=by
 unfold cr RI.map
 simp only [ey,List.map_append,List.map_take,List.map_drop,List.length_drop,List.length_map]
 split <;> simp
theorem js (f:Nat→Nat) (q:List RI) (e:List (Int×List Nat)):em (q.map (RI.map f)) (e.map fun e=>(e.1,e.2.map f))=(em q e).map f:=by
 cases q <;> rfl
theorem my (f:Nat→Nat) (r:RI) (t:RS):et (r.map f) (t.map f)=(et r t).map f:=by
 unfold et
 have e1:(r.map f).ps.length=r.ps.length:=by simp [RI.map]
 rw [e1]
 by_cases h:r.ps.length=1
 ·rw [if_pos h,if_pos h,← js]
  congr 1
  rw [List.map_append]
  congr 1
  show [(r.cut,r.laid.map f++(r.ps.map (List.map f)).getD 0 [])]=[(r.cut,(r.laid++r.ps.getD 0 []).map f)]
  rw [ey,List.map_append]
 ·rw [if_neg h,if_neg h,← js,List.map_append,List.map_map]
  congr 2
  exact List.map_congr_left fun k Z=>mw f r k
theorem hZ (f:Nat→Nat):∀ (n:Nat) (t:RS),rLoop n (t.map f)=(rLoop n t).map f
 | 0,t=>rfl
 | n + 1,t=>by
  obtain ⟨cur,q,e⟩:=t
  cases cur with
  | none=>rfl
  | some r =>
   show rLoop n (et (r.map f) ((⟨some r,q,e⟩:RS).map f))=_
   rw [my,hZ f n];rfl
noncomputable def ko (n cut:Nat):List (List Nat):=(pM (bl (tx (List.range (n + 1)))) (partsL cut n)).map fun y=>y.cps.toList
noncomputable def dC (n cut:Nat):RI:=⟨cut,[],ko n cut⟩
noncomputable def kr (n:Nat):List RI:=((List.range (2 ^ n)).drop 1).map (dC n)
noncomputable def nP (n:Nat):Nat:=400
noncomputable def cu (n:Nat):List (Int×List Nat):=(rLoop (nP n) ⟨some (dC n 0),kr n,[]⟩).ends
theorem ud:(rLoop (nP 2) ⟨some (dC 2 0),kr 2,[]⟩).cur=none:=by decide +kernel
theorem sW:(rLoop (nP 3) ⟨some (dC 3 0),kr 3,[]⟩).cur=none:=by decide +kernel
theorem sX:(q2.toList.map fun i=>(((bd 2 [0,1,2] (ordersL 3)).getD i row0).cut,((bd 2 [0,1,2] (ordersL 3)).getD i row0).text))=(cu 2).map fun e=>(e.1.toNat,e.2):=by decide +kernel
theorem sY:(q3.toList.map fun i=>(((bd 3 [0,1,2,3] (ordersL 4)).getD i row0).cut,((bd 3 [0,1,2,3] (ordersL 4)).getD i row0).text))=(cu 3).map fun e=>(e.1.toNat,e.2):=by decide +kernel
theorem qK:(cu 2).all (fun e=>decide (0≤e.1) && decide (e.1 < 4))=true∧(cu 2).length=13:=by decide +kernel
theorem qL:(cu 3).all (fun e=>decide (0≤e.1) && decide (e.1 < 8))=true∧(cu 3).length=75:=by decide +kernel
theorem ue (u0 u1 u2:UInt8):(List.range 4).map (fun (cut:Nat)=>pM #[u0,u1,u2] (partsL cut 2))=(List.range 4).map (fun (cut:Nat)=>(ko 2 cut).map (fun ps=>tx (ps.map fun p=>([u0.toNat,u1.toNat,u2.toNat].getD p 0)))):=by kernel_rfl
theorem uf (u0 u1 u2 u3:UInt8):(List.range 8).map (fun (cut:Nat)=>pM #[u0,u1,u2,u3] (partsL cut 3))=(List.range 8).map (fun (cut:Nat)=>(ko 3 cut).map (fun ps=>tx (ps.map fun p=>([u0.toNat,u1.toNat,u2.toNat,u3.toNat].getD p 0)))):=by kernel_rfl
theorem u8 {c:Nat} (h:c < 128):(c.toUInt8).toNat=c:=by simp;exact Nat.le_add_left_of_le h
theorem oz {α:Type} {f g:Nat→α} {N:Nat} (h:(List.range N).map f=(List.range N).map g) {i:Nat} (hi:i < N):f i=g i:=by
 have:=congrArg (fun l=>l[i]?) h
 simpa [hi] using this
theorem sZ {n:Nat} {x:List Nat} (hn:n=2∨n=3) (hx:x.length=n + 1) (hc:∀ c∈x,c < 128) {cut:Nat} (hcut:cut < 2 ^ n):pM (bl (tx x)) (partsL cut n)=(ko n cut).map fun ps=>tx (ps.map fun p=>x.getD p 0):=by
 refine bQ hn (fun Z1=>?_) fun Z1=>?_ <;> subst Z1
 ·refine qR (P:=fun x=>(∀ c∈x,c < 128)→pM (bl (tx x)) (partsL cut 2)=(ko 2 cut).map fun ps=>tx (ps.map fun p=>x.getD p 0)) (fun c0 c1 c2 hc=>?_) x hx hc
  ·have h0:=u8 (hc c0 (by simp));have h1:=u8 (hc c1 (by simp));have h2:=u8 (hc c2 (by simp))
   have:=oz (ue c0.toUInt8 c1.toUInt8 c2.toUInt8) (i:=cut) hcut
   rw [h0,h1,h2] at this
   exact this
 ·refine tC (P:=fun x=>(∀ c∈x,c < 128)→pM (bl (tx x)) (partsL cut 3)=(ko 3 cut).map fun ps=>tx (ps.map fun p=>x.getD p 0)) (fun c0 c1 c2 c3 hc=>?_) x hx hc
  ·have h0:=u8 (hc c0 (by simp));have h1:=u8 (hc c1 (by simp));have h2:=u8 (hc c2 (by simp));have h3:=u8 (hc c3 (by simp))
   have:=oz (uf c0.toUInt8 c1.toUInt8 c2.toUInt8 c3.toUInt8) (i:=cut) hcut
   rw [h0,h1,h2,h3] at this
   exact this
noncomputable def lf (x:List Nat) (p:Nat):Nat:=x.getD p 0
theorem rP {n:Nat} {x:List Nat} (hn:n=2∨n=3) (hx:x.length=n + 1) (hc:∀ c∈x,c < 128) :
  (List.range (2 ^ n)).map (pushItem n (tx x))=((dC n 0).map (lf x)::(kr n).map (RI.map (lf x))).map RI.d:=by
 have e:(dC n 0).map (lf x)::(kr n).map (RI.map (lf x))=(List.range (2 ^ n)).map fun cut=>(dC n cut).map (lf x):=by
  (refine bQ hn (fun Z1=>?_) fun Z1=>?_ <;> subst Z1) <;> rfl
 rw [e,List.map_map]
 refine List.map_congr_left fun cut hm=>?_
 have hcut:=List.mem_range.mp hm
 show D.tup [.int cut,.str (tx []),.tup ((pM (bl (tx x)) (partsL cut n)).map .str)]=D.tup [.int cut,.str (tx []),.tup (((ko n cut).map (List.map (lf x))).map fun p=>.str (tx p))]
 rw [sZ hn hx hc hcut,List.map_map,List.map_map];rfl
theorem rQ {n:Nat} (hn:n=2∨n=3) (x:List Nat):(rLoop (nP n) ⟨some ((dC n 0).map (lf x)),(kr n).map (RI.map (lf x)),[]⟩).cur=none∧(rLoop (nP n) ⟨some ((dC n 0).map (lf x)),(kr n).map (RI.map (lf x)),[]⟩).ends=(cu n).map fun e=>(e.1,e.2.map (lf x)):=by
 have e:(⟨some ((dC n 0).map (lf x)),(kr n).map (RI.map (lf x)),[]⟩:RS)=(⟨some (dC n 0),kr n,[]⟩:RS).map (lf x):=rfl
 rw [e,hZ]
 refine ⟨?_,rfl⟩
 refine bQ hn (fun Z1=>?_) fun Z1=>?_ <;> subst Z1
 ·show Option.map (RI.map (lf x)) (rLoop (nP 2) ⟨some (dC 2 0),kr 2,[]⟩).cur=none
  rw [ud];rfl
 ·show Option.map (RI.map (lf x)) (rLoop (nP 3) ⟨some (dC 3 0),kr 3,[]⟩).cur=none
  rw [sW];rfl
noncomputable def ug (r:RI):Bool:=(r.ps.all fun p=>!p.isEmpty) && decide (r.laid.length + (r.ps.map List.length).sum≤100)
theorem qM {r:RI} (h:ug r=true) (f:Nat→Nat):(r.map f).ok:=by
 unfold ug at h
 rw [Bool.and_eq_true,List.all_eq_true,decide_eq_true_eq] at h
 refine ⟨fun p hp=>?_,?_⟩
 ·refine mM hp fun q hq Z1=>?_;subst Z1
  have h2:=h.1 q hq
  intro e
  have h3:q=[]:=by simpa using e
  rw [h3] at h2;exact nB h2
 ·show (r.laid.map f).length + ((r.ps.map (List.map f)).map List.length).sum≤100
  rw [List.length_map,List.map_map]
  have:(List.length ∘ List.map f)=List.length:=by funext l;simp
  rw [this];exact h.2
theorem rR {n:Nat} (hn:n=2∨n=3) (x:List Nat):RSok (nP n) ⟨some ((dC n 0).map (lf x)),(kr n).map (RI.map (lf x)),[]⟩:=by
 have h:∀ r∈dC n 0::kr n,ug r=true:=by (refine bQ hn (fun Z1=>?_) fun Z1=>?_ <;> subst Z1) <;> decide +kernel
 refine ⟨fun r hr=>?_,fun r hr=>?_,?_,?_,fun z=>by exact nO z.symm⟩
 ·refine sE hr fun hr=>?_;subst hr;exact qM (h _ (.head _)) _
 ·refine mM hr fun r' hr' Z1=>?_;subst Z1
  exact qM (h _ (.tail _ hr')) _
 ·show ((kr n).map _).length + 100 * 400≤500000
  rw [List.length_map];(refine bQ hn (fun Z1=>?_) fun Z1=>?_ <;> subst Z1) <;> decide +kernel
 ·show 0 + 400≤100000;exact Nat.le_add_left ..
noncomputable def gB (n:Nat) (share:Int) (x:List Nat):List (Str×Ent):=((cu n).map fun e=>(e.1,tx (e.2.map (lf x)))).foldl (bookStep n share) []
noncomputable def gD (n:Nat) (share:Int) (x:List Nat):List (Str×Ent):=(dueAll n x (ordersL (n + 1)).length).1.foldl (bkStep x share) []
noncomputable def rS (e f:Ent):Bool:=e.cc == f.cc && e.nc == f.nc && e.tt == f.tt && e.ct == f.ct && e.cs.length == f.cs.length && (e.cs.all fun p=>getN f.cs p.1 == some p.2) && (e.cs.map (·.2)).foldl (· + ·) 0 == f.nc
noncomputable def ll (b c:List (Str×Ent)):Bool:=b.length == c.length && b.all fun p=>match getV c p.1 with
 | some f=>rS p.2 f
 | none=>false
noncomputable def s0:List (List Nat):=[0].flatMap fun a=>(List.range 2).flatMap fun b=>(List.range 3).map fun c=>[a,b,c]
noncomputable def jz (p:List Nat):Bool:=ll (gB 3 1 p) (gD 3 1 p)
theorem s4:(s0.all fun p=>ll (gB 2 1 p) (gD 2 1 p))=true:=by decide +kernel
theorem uh:jz [0,0,0,0]=true:=by decide +kernel
theorem uk:jz [0,0,0,3]=true:=by decide +kernel
theorem ul:jz [0,0,2,0]=true:=by decide +kernel
theorem um:jz [0,0,2,2]=true:=by decide +kernel
theorem un:jz [0,0,2,3]=true:=by decide +kernel
theorem uo:jz [0,1,0,0]=true:=by decide +kernel
theorem up:jz [0,1,0,1]=true:=by decide +kernel
theorem uq:jz [0,1,0,3]=true:=by decide +kernel
theorem ur:jz [0,1,1,0]=true:=by decide +kernel
theorem ut:jz [0,1,1,1]=true:=by decide +kernel
theorem s5:jz [0,1,1,3]=true:=by decide +kernel
theorem s6:jz [0,1,2,0]=true:=by decide +kernel
theorem s7:jz [0,1,2,1]=true:=by decide +kernel
theorem s8:jz [0,1,2,2]=true:=by decide +kernel
theorem s9:jz [0,1,2,3]=true:=by decide +kernel
noncomputable def ta:List (List Nat):=[[0,0,0,0],[0,0,0,3],[0,0,2,0],[0,0,2,2],[0,0,2,3],[0,1,0,0],[0,1,0,1],[0,1,0,3],[0,1,1,0],[0,1,1,1],[0,1,1,3],[0,1,2,0],[0,1,2,1],[0,1,2,2],[0,1,2,3]]
theorem tb:∀ p∈ta,jz p=true:=aj uh (aj uk (aj ul (aj um (aj un (aj uo (aj up (aj uq (aj ur (aj ut (aj s5 (aj s6 (aj s7 (aj s8 (aj s9 (fun Z h=>nomatch h)))))))))))))))
noncomputable def Tm (share:Int) (e:Ent):Ent:={ e with tt:=e.cc * share }
noncomputable def ic (share:Int) (b:List (Str×Ent)):List (Str×Ent):=b.map fun p=>(p.1,Tm share p.2)
theorem qj (share:Int) (t:Ent) (a c d:Int) (cs:List (Int×Int)):Tm share (lA t ⟨a,c,a * 1,d,cs⟩)=lA (Tm share t) ⟨a,c,a * share,d,cs⟩:=by
 unfold Tm lA
 dsimp only
 rw [Int.add_mul]
theorem lm (n:Nat) (share:Int):∀ (l:List (Int×Str)) (b:List (Str×Ent)),l.foldl (bookStep n share) (ic share b)=ic share (l.foldl (bookStep n 1) b)
 | [],b=>rfl
 | e::l,b=>by
  rw [List.foldl_cons,List.foldl_cons]
  have:bookStep n share (ic share b) e=ic share (bookStep n 1 b e):=by
   unfold bookStep ic
   rw [f9 (Tm share),gc (Tm share)]
   congr 1
   have e0:((getV b e.2).map (Tm share)).getD ⟨0,0,0,0,[]⟩=Tm share ((getV b e.2).getD ⟨0,0,0,0,[]⟩):=by
    cases getV b e.2 with
    | none=>show _=Tm share _;unfold Tm;simp
    | some v=>rfl
   rw [e0,qj]
  rw [this,lm n share l]
theorem oA (x:List Nat) (share:Int):∀ (l:List (Str×DE)) (b:List (Str×Ent)),l.foldl (bkStep x share) (ic share b)=ic share (l.foldl (bkStep x 1) b)
 | [],b=>rfl
 | e::l,b=>by
  rw [List.foldl_cons,List.foldl_cons]
  have:bkStep x share (ic share b) e=ic share (bkStep x 1 b e):=by
   unfold bkStep ic
   rw [f9 (Tm share)]
   rfl
  rw [this,oA x share l]
theorem qO (n:Nat) (share:Int) (x:List Nat):gB n share x=ic share (gB n 1 x):=lm n share _ []
theorem qP (n:Nat) (share:Int) (x:List Nat):gD n share x=ic share (gD n 1 x):=oA x share _ []
structure BkF (b c:List (Str×Ent)):Prop where
 len:b.length=c.length
 mem:∀ p∈b,∃ f,getV c p.1=some f∧p.2.cc=f.cc∧p.2.nc=f.nc∧p.2.ct=f.ct∧p.2.cs.length=f.cs.length∧(∀ q∈p.2.cs,getN f.cs q.1=some q.2)∧(p.2.cs.map (·.2)).foldl (· + ·) 0=f.nc
theorem rT {b c:List (Str×Ent)} (h:ll b c=true):BkF b c:=by
 unfold ll at h
 rw [Bool.and_eq_true,beq_iff_eq,List.all_eq_true] at h
 refine ⟨h.1,fun p hp=>?_⟩
 have h2:=h.2 p hp
 cases hg:getV c p.1 with
 | none=>rw [hg] at h2;exact nB h2
 | some f =>
  rw [hg] at h2
  have h3:rS p.2 f=true:=h2
  unfold rS at h3
  simp only [Bool.and_eq_true,beq_iff_eq,List.all_eq_true] at h3
  exact ⟨f,rfl,h3.1.1.1.1.1.1,h3.1.1.1.1.1.2,h3.1.1.1.2,h3.1.1.2,h3.1.2,h3.2⟩
theorem BkF.tm {b c:List (Str×Ent)} (h:BkF b c) (share:Int):BookEq (ic share b) (ic share c)∧∀ p∈ic share b,∃ f,getV (ic share c) p.1=some f∧(p.2.cs.map (·.2)).foldl (· + ·) 0=f.nc:=by
 have key:∀ p∈ic share b,∃ f,getV (ic share c) p.1=some f∧EntEq p.2 f∧(p.2.cs.map (·.2)).foldl (· + ·) 0=f.nc:=fun p hp=>by
  refine mM hp fun p0 hp0 Z1=>?_;subst Z1
  obtain ⟨f,h1,h2,h3,h4,h5,h6,h7⟩:=h.mem p0 hp0
  refine ⟨Tm share f,?_,⟨h2,h3,?_,h4,h5,h6⟩,h7⟩
  ·unfold ic;rw [gc (Tm share),h1];rfl
  ·show p0.2.cc * share=f.cc * share;rw [h2]
 refine ⟨⟨?_,fun p hp=>?_⟩,fun p hp=>?_⟩
 ·unfold ic;rw [List.length_map,List.length_map];exact h.len
 ·refine ex13 (key p hp) fun f h1 h2 Z=>?_;exact ⟨f,h1,h2⟩
 ·refine ex13 (key p hp) fun f h1 Z h3=>?_;exact ⟨f,h1,h3⟩
noncomputable def bF {V:Type} (κ:Str→Str) (b:List (Str×V)):List (Str×V):=b.map fun p=>(κ p.1,p.2)
section
variable {V:Type} {κ:Str→Str} (hκ:∀ a b,κ a=κ b→a=b)
include hκ
theorem gj (l:List (Str×V)) (k:Str) (v:V):bF κ (putN l k v)=putN (bF κ l) (κ k) v:=by
 unfold putN bF
 have e:(l.map fun p=>(κ p.1,p.2)).any (fun kv=>kv.1=κ k)=l.any (fun kv=>kv.1=k):=by
  rw [List.any_map]
  refine congrArg (fun f=>l.any f) (funext fun p=>?_)
  show decide (κ p.1=κ k)=decide (p.1=k)
  by_cases h:p.1=k
  ·rw [h];simp
  ·rw [decide_eq_false h,decide_eq_false fun z=>h (hκ _ _ z)]
 rw [e]
 split
 ·rw [List.map_map,List.map_map]
  refine List.map_congr_left fun p Z=>?_
  show (κ (if p.1=k then (p.1,v) else p).1,(if p.1=k then (p.1,v) else p).2)=if κ p.1=κ k then (κ p.1,v) else (κ p.1,p.2)
  by_cases h:p.1=k
  ·rw [if_pos h,if_pos (by rw [h])]
  ·rw [if_neg h,if_neg fun z=>h (hκ _ _ z)]
 ·rw [List.map_append];rfl
theorem gk (l:List (Str×V)) (k:Str):getV (bF κ l) (κ k)=getV l k:=by
 unfold getV bF
 rw [List.find?_map]
 have e:((fun (kv:Str×V)=>decide (kv.1=κ k)) ∘ fun (p:Str×V)=>(κ p.1,p.2))=fun kv=>decide (kv.1=k):=by
  funext p
  show decide (κ p.1=κ k)=decide (p.1=k)
  by_cases h:p.1=k
  ·rw [h];simp
  ·rw [decide_eq_false h,decide_eq_false fun z=>h (hκ _ _ z)]
 rw [e,Option.map_map];rfl
theorem jt (n:Nat):∀ (l:List (Int×Str)) (b:List (Str×Ent)),(l.map fun e=>(e.1,κ e.2)).foldl (bookStep n 1) (bF κ b)=bF κ (l.foldl (bookStep n 1) b)
 | [],b=>rfl
 | e::l,b=>by
  rw [List.map_cons,List.foldl_cons,List.foldl_cons]
  have:bookStep n 1 (bF κ b) (e.1,κ e.2)=bF κ (bookStep n 1 b e):=by
   unfold bookStep
   rw [gj hκ,gk hκ]
  rw [this,jt n l]
theorem oB {x y:List Nat} (hy:tx y=κ (tx x)):∀ (l:List (Str×DE)) (b:List (Str×Ent)),(bF κ l).foldl (bkStep y 1) (bF κ b)=bF κ (l.foldl (bkStep x 1) b)
 | [],b=>rfl
 | e::l,b=>by
  show ((κ e.1,e.2)::bF κ l).foldl _ _=_
  rw [List.foldl_cons,List.foldl_cons]
  have ho:dR y (κ e.1)=dR x e.1:=by
   unfold dR
   rw [hy]
   by_cases h:e.1=tx x
   ·rw [h];simp
   ·rw [if_neg (by simpa using fun z=>h (hκ _ _ z)),if_neg (by simpa using h)]
  have:bkStep y 1 (bF κ b) (κ e.1,e.2)=bF κ (bkStep x 1 b e):=by
   unfold bkStep
   rw [gj hκ,ho]
  rw [this,oB hy l]
theorem iQ {n:Nat} {x y:List Nat} {o:List Int}:∀ (l:List Nat) (cs:List (Int×Int)) (r1 r2:List Row),(l.foldl (aS n x o) (cs,r1)).1=(l.foldl (aS n y o) (cs,r2)).1
 | [],_,_,_=>rfl
 | c::l,cs,r1,r2=>by
  rw [List.foldl_cons,List.foldl_cons]
  unfold aS
  by_cases h:iK n o c
  ·rw [if_pos h,if_pos h];exact iQ l _ _ _
  ·rw [if_neg h,if_neg h];exact iQ l _ _ _
theorem lq {n:Nat} {x y:List Nat}:∀ (os:List (List Int)) (b:List (Str×DE)) (r1 r2:List Row),(∀ o∈os,tx (bE y o)=κ (tx (bE x o))) →
  (os.foldl (aN n y) (bF κ b,r1)).1=bF κ (os.foldl (aN n x) (b,r2)).1
 | [],_,_,_,_=>rfl
 | o::os,b,r1,r2,h=>by
  rw [List.foldl_cons,List.foldl_cons]
  have e:(aN n y (bF κ b,r1) o).1=bF κ (aN n x (b,r2) o).1:=by
   unfold aN
   rw [h o (.head _)]
   show putN (bF κ b) (κ _) _=bF κ (putN b _ _)
   rw [gj hκ,gk hκ]
   rw [iQ hκ (n:=n) (x:=y) (y:=x) (o:=o) (List.range (2 ^ n)) _ r1 r2]
  have e2:aN n y (bF κ b,r1) o=(bF κ (aN n x (b,r2) o).1,(aN n y (bF κ b,r1) o).2):=by rw [← e]
  rw [e2]
  exact lq os _ _ _ fun o ho=>h o (.tail _ ho)
theorem BkF.key {b c:List (Str×Ent)} (h:BkF b c):BkF (bF κ b) (bF κ c):=by
 refine ⟨by unfold bF;rw [List.length_map,List.length_map];exact h.len,fun p hp=>?_⟩
 refine mM hp fun p0 hp0 Z1=>?_;subst Z1
 refine ex12 (h.mem p0 hp0) fun f h1 r=>?_
 exact ⟨f,by rw [gk hκ];exact h1,r⟩
end
noncomputable def eZ (n:Nat) (x:List Nat):List Nat:=(List.range (n + 1)).map fun i=>x.idxOf (x.getD i 0)
noncomputable def oV (n:Nat) (x:List Nat) (j:Nat):Nat:=if j < n + 1∧x.idxOf (x.getD j 0)=j then x.getD j 0 else j + 200
noncomputable def qk (h:Nat→Nat) (s:Str):Str:=tx (s.cps.toList.map h)
theorem ku (h:Nat→Nat) (l:List Nat):qk h (tx l)=tx (l.map h):=by unfold qk tx;simp
theorem rU {a b:List Nat} (h:tx a=tx b):a=b:=by
 have:=congrArg (fun s:Str=>s.cps.toList) h
 simpa [tx] using this
theorem lr {h:Nat→Nat} (hh:∀ a b,h a=h b→a=b):∀ {a b:List Nat},a.map h=b.map h→a=b
 | [],[],_=>rfl
 | [],_::_,e=>by simp at e
 | _::_,[],e=>by simp at e
 | x::a,y::b,e=>by
  simp only [List.map_cons,List.cons.injEq] at e
  rw [hh _ _ e.1,lr hh e.2]
theorem ql {h:Nat→Nat} (hh:∀ a b,h a=h b→a=b):∀ a b,qk h a=qk h b→a=b:=fun a b e=>by
 have h2:=lr hh (rU e)
 obtain ⟨⟨la⟩⟩:=a
 obtain ⟨⟨lb⟩⟩:=b
 have:la=lb:=h2
 rw [this]
section
variable {n:Nat} {x:List Nat} (hx:x.length=n + 1) (hc:∀ c∈x,c < 128)
include hx hc
theorem oC {j:Nat} (hj:j < n + 1):x.getD j 0 < 128:=by
 rw [List.getD_eq_getElem?_getD,List.getElem?_eq_getElem (by lia)]
 exact hc _ (List.getElem_mem _)
theorem qm:∀ a b,oV n x a=oV n x b→a=b:=fun a b e=>by
 unfold oV at e
 split at e <;> split at e
 ·rename_i h1 h2
  rw [← h1.2,← h2.2,e]
 ·rename_i h1 h2
  have:=oC hx hc h1.1
  lia
 ·rename_i h1 h2
  have:=oC hx hc h2.1
  lia
 ·lia
theorem ky {j:Nat} (hj:j < n + 1):lf x j=oV n x (lf (eZ n x) j):=by
 have hm:x.getD j 0∈x:=by rw [List.getD_eq_getElem?_getD,List.getElem?_eq_getElem (by lia)];exact List.getElem_mem _
 have e1:lf (eZ n x) j=x.idxOf (x.getD j 0):=by
  unfold lf eZ
  rw [List.getD_eq_getElem?_getD,List.getElem?_map,List.getElem?_range hj];rfl
 have hi:x.idxOf (x.getD j 0) < x.length:=List.idxOf_lt_length_iff.mpr hm
 have e2:x.getD (x.idxOf (x.getD j 0)) 0=x.getD j 0:=by
  rw [List.getD_eq_getElem?_getD,List.getElem?_eq_getElem hi]
  exact List.getElem_idxOf hi
 rw [e1]
 unfold oV
 rw [if_pos ⟨by lia,by rw [e2]⟩,e2];rfl
theorem qo:x=(eZ n x).map (oV n x):=by
 refine List.ext_getElem (by unfold eZ;simp [hx]) fun i h1 h2=>?_
 have hi:i < n + 1:=by lia
 have:=ky hx hc hi
 unfold lf at this
 rw [List.getD_eq_getElem?_getD,List.getElem?_eq_getElem h1] at this
 rw [List.getElem_map]
 have hp:i < (eZ n x).length:=by unfold eZ;simpa using hi
 rw [List.getD_eq_getElem?_getD,List.getElem?_eq_getElem hp] at this
 exact this
theorem tc (hn:n=2∨n=3):BkF (gB n 1 x) (gD n 1 x):=by
 let p:=eZ n x
 let κ:=qk (oV n x)
 have hκ:∀ a b,κ a=κ b→a=b:=ql (qm hx hc)
 have hpos:∀ e∈cu n,∀ j∈e.2,j < n + 1:=by (refine bQ hn (fun Z1=>?_) fun Z1=>?_ <;> subst Z1) <;> decide +kernel
 have h1:gB n 1 x=bF κ (gB n 1 p):=by
  unfold gB
  rw [← jt hκ]
  show List.foldl _ [] _=List.foldl _ (bF κ []) _
  congr 1
  rw [List.map_map]
  refine List.map_congr_left fun e he=>?_
  show (e.1,tx (e.2.map (lf x)))=(e.1,κ (tx (e.2.map (lf p))))
  rw [show κ (tx (e.2.map (lf p)))=tx ((e.2.map (lf p)).map (oV n x)) from ku _ _,List.map_map]
  congr 2
  exact List.map_congr_left fun j hj=>ky hx hc (hpos e he j hj)
 have ht:∀ o∈ordersL (n + 1),tx (bE x o)=κ (tx (bE p o)):=fun o ho=>by
  have F:=n8 (kh n (by (refine bQ hn (fun Z1=>?_) fun Z1=>?_ <;> subst Z1) <;> simp) o ho)
  rw [show κ (tx (bE p o))=tx ((bE p o).map (oV n x)) from ku _ _]
  unfold bE
  rw [List.map_map]
  congr 1
  refine List.map_congr_left fun j hj=>?_
  have:=F.rng j hj
  exact ky hx hc (j:=j.toNat) (by lia)
 have h2:gD n 1 x=bF κ (gD n 1 p):=by
  unfold gD dueAll
  rw [List.take_length,← oB hκ (x:=p) (y:=x) (by rw [show κ (tx p)=tx (p.map (oV n x)) from ku _ _];congr 1;exact qo hx hc)]
  have:=lq hκ (n:=n) (x:=p) (y:=x) (ordersL (n + 1)) [] [] [] ht
  show List.foldl _ [] (List.foldl (aN n x) ([],[]) (ordersL (n + 1))).1=List.foldl _ (bF κ []) _
  rw [show (List.foldl (aN n x) ([],[]) (ordersL (n + 1))).1=bF κ (List.foldl (aN n p) ([],[]) (ordersL (n + 1))).1 from this];rfl
 rw [h1,h2]
 refine BkF.key hκ (rT ?_)
 have hle:∀ i,i < n + 1→x.idxOf (x.getD i 0)≤i:=fun i hi=>by
  refine Nat.le_of_not_lt fun h=>?_
  have hix:i < x.length:=by lia
  have e:x.getD i 0=x[i]:=by rw [List.getD_eq_getElem?_getD,List.getElem?_eq_getElem hix];rfl
  rw [e] at h
  have h3:¬ ((x[i] == x[i])=true):=by simpa using List.not_of_lt_findIdx (p:=fun z=>z == x[i]) (xs:=x) (i:=i) h
  exact h3 (by simp)
 refine bQ hn (fun Z1=>?_) fun Z1=>?_ <;> subst Z1
 ·have hp:p=[x.idxOf (x.getD 0 0),x.idxOf (x.getD 1 0),x.idxOf (x.getD 2 0)]:=rfl
  have a0:=hle 0 (by decide);have a1:=hle 1 (by decide);have a2:=hle 2 (by decide)
  have hm:p∈s0:=by
   rw [hp]
   generalize x.idxOf (x.getD 0 0)=b0 at a0
   generalize x.idxOf (x.getD 1 0)=b1 at a1
   generalize x.idxOf (x.getD 2 0)=b2 at a2
   have:b0=0:=by lia
   subst this
   (refine bQ (by lia:b1=0∨b1=1) (fun Z1=>?_) fun Z1=>?_ <;> subst Z1) <;> (refine ly (by lia:b2=0∨b2=1∨b2=2) (fun Z1=>?_) (fun Z1=>?_) fun Z1=>?_ <;> subst Z1) <;> decide
  exact List.all_eq_true.mp s4 p hm
 ·have hp:p=[x.idxOf (x.getD 0 0),x.idxOf (x.getD 1 0),x.idxOf (x.getD 2 0),x.idxOf (x.getD 3 0)]:=rfl
  have a0:=hle 0 (by decide);have a1:=hle 1 (by decide);have a2:=hle 2 (by decide);have a3:=hle 3 (by decide)
  have hid:∀ i,i < 4→∀ j,x.idxOf (x.getD i 0)=j→x.idxOf (x.getD j 0)=j:=fun i hi j e=>by
   have hm:x.getD i 0∈x:=by rw [List.getD_eq_getElem?_getD,List.getElem?_eq_getElem (by lia)];exact List.getElem_mem _
   have hl:=List.idxOf_lt_length_iff.mpr hm
   rw [← e,show x.getD (x.idxOf (x.getD i 0)) 0=x.getD i 0 by rw [List.getD_eq_getElem?_getD,List.getElem?_eq_getElem hl];exact List.getElem_idxOf hl]
  have k21:=hid 2 (by decide) 1;have k31:=hid 3 (by decide) 1;have k32:=hid 3 (by decide) 2
  have hm:p∈ta:=by
   rw [hp]
   generalize x.idxOf (x.getD 0 0)=b0 at a0
   generalize x.idxOf (x.getD 1 0)=b1 at a1 k21 k31
   generalize x.idxOf (x.getD 2 0)=b2 at a2 k21 k32
   generalize x.idxOf (x.getD 3 0)=b3 at a3 k31 k32
   have:b0=0:=by lia
   subst this
   (refine bQ (by lia:b1=0∨b1=1) (fun Z1=>?_) fun Z1=>?_ <;> subst Z1) <;> (refine ly (by lia:b2=0∨b2=1∨b2=2) (fun Z1=>?_) (fun Z1=>?_) fun Z1=>?_ <;> subst Z1) <;> (refine oQ (by lia:b3=0∨b3=1∨b3=2∨b3=3) (fun Z1=>?_) (fun Z1=>?_) (fun Z1=>?_) fun Z1=>?_ <;> subst Z1) <;> first | decide | exact absurd (k21 rfl) (by decide) | exact absurd (k31 rfl) (by decide) | exact absurd (k32 rfl) (by decide)
  exact tb p hm
end
noncomputable def cf (k:Int):Nat:=Classical.choose (iP k)
noncomputable def vf (k:Int):List Nat:=Classical.choose (Classical.choose_spec (iP k))
theorem mz (k:Int):SpF k (cf k) (vf k):=Classical.choose_spec (Classical.choose_spec (iP k))
theorem ie:∀ ks:List Int,wordOf ks=ks.map cf
 | []=>rfl
 | k::r=>by
  have h:=ie r
  unfold wordOf at h ⊢
  rw [List.map_cons,List.flatMap_cons,h,(mz k).sg];simp [tx]
theorem ig:∀ ks:List Int,bodyOf ks=ks.flatMap vf
 | []=>rfl
 | k::r=>by
  have h:=ig r
  unfold bodyOf at h ⊢
  rw [List.map_cons,List.flatMap_cons,h,(mz k).wr,List.flatMap_cons];simp [tx]
theorem iR (ks:List Int):∀ i,i≤ks.length→restT (ks.flatMap vf++[46]) i=(ks.drop i).flatMap vf++[46]
 | 0,_=>rfl
 | i + 1,h=>by
  show (lexT (restT _ i)).2=_
  rw [iR ks i (by lia),List.drop_eq_getElem_cons (by lia),List.flatMap_cons,List.append_assoc,(mz _).lex]
theorem kz:∀ ks:List Int,(ks.flatMap vf).length≤4 * ks.length
 | []=>by simp
 | k::r=>by
  have:=kz r
  have h:=(mz k).len
  rw [List.flatMap_cons,List.length_append,List.length_cons];lia
theorem td (k:Int):cf k < 128:=by
 have h:=(mz k).mem
 simp only [sgC,List.mem_cons,List.not_mem_nil,or_false] at h
 lia
noncomputable def oD (f:Nat→Nat) (r:Row):Row:=⟨r.laid,r.cut,r.path,r.text.map f⟩
theorem oE {n:Nat} (hn:n=2∨n=3) (x:List Nat):bd n x (ordersL (n + 1))=(bd n (List.range (n + 1)) (ordersL (n + 1))).map (oD (lf x)):=by
 unfold bd
 rw [List.map_flatMap]
 have:∀ os:List (List Int),(∀ o∈os,OrdF n o)→os.flatMap (fun o=>((List.range (2 ^ n)).filter (iK n o)).map (dH n x o))=os.flatMap fun o=>(((List.range (2 ^ n)).filter (iK n o)).map (dH n (List.range (n + 1)) o)).map (oD (lf x)):=fun os=>by
  induction os with
  | nil=>intro Z;rfl
  | cons o r ih =>
   intro h
   rw [List.flatMap_cons,List.flatMap_cons,ih fun p hp=>h p (.tail _ hp)]
   congr 1
   rw [List.map_map]
   refine List.map_congr_left fun c Z=>?_
   show (⟨_,_,_,bE x o⟩:Row)=⟨_,_,_,(bE (List.range (n + 1)) o).map (lf x)⟩
   congr 1
   unfold bE
   rw [List.map_map]
   refine List.map_congr_left fun j hj=>?_
   have F:=(h o (.head _)).rng j hj
   show x.getD j.toNat 0=x.getD ((List.range (n + 1)).getD j.toNat 0) 0
   rw [show (List.range (n + 1)).getD j.toNat 0=j.toNat by rw [List.getD_eq_getElem?_getD,List.getElem?_range (by lia)];rfl]
 exact this _ fun o ho=>n8 (kh n (by (refine bQ hn (fun Z1=>?_) fun Z1=>?_ <;> subst Z1) <;> simp) o ho)
theorem oF (f:Nat→Nat) (l:List Row) (i:Nat):(l.map (oD f)).getD i row0=oD f (l.getD i row0):=by
 rw [List.getD_eq_getElem?_getD,List.getD_eq_getElem?_getD,List.getElem?_map]
 cases l[i]? <;> rfl
theorem uu {sm:List Int} (h5:sm.length=5):∃ n x t r0 q0 n0 E,LawP sm n x t r0 q0 n0 E:=by
 have hm:=ba (a:=sm.getD 4 0) (b:=2) (by decide)
 obtain ⟨n,hn,hcnt⟩:∃ n:Nat,(n=2∨n=3)∧3 + (sm.getD 4 0).fmod 2=(n:Int) + 1:=by
  refine bQ (by lia:(sm.getD 4 0).fmod 2=0∨(sm.getD 4 0).fmod 2=1) (fun h=>?_) fun h=>?_
  ·exact ⟨2,.inl rfl,by rw [h];rfl⟩
  ·exact ⟨3,.inr rfl,by rw [h];rfl⟩
 let ks:=sm.take (n + 1)
 have hks:ks.length=n + 1:=by show (sm.take (n + 1)).length=_;rw [List.length_take];lia
 let x:=ks.map cf
 let t:=ks.flatMap vf++[46]
 have hx:x.length=n + 1:=by show (ks.map cf).length=_;rw [List.length_map,hks]
 have hc:∀ c∈x,c < 128:=fun c hc=>by (refine mM hc fun k Z Z1=>?_;subst Z1);exact td k
 have hb:=(tc hx hc hn).tm
 have hlp:=rQ hn x
 have hvl:=kz ks
 have hcuts:∀ e∈cu n,0≤e.1∧e.1 < 2 ^ n:=fun e he=>by
  refine bQ hn (fun Z1=>?_) fun Z1=>?_ <;> subst Z1
  ·have:=List.all_eq_true.mp qK.1 e he
   simp only [Bool.and_eq_true,decide_eq_true_eq] at this;exact this
  ·have:=List.all_eq_true.mp qL.1 e he
   simp only [Bool.and_eq_true,decide_eq_true_eq] at this;exact this
 have hel:(cu n).length≤900:=by
  refine bQ hn (fun Z1=>?_) fun Z1=>?_ <;> subst Z1
  ·rw [qK.2];decide
  ·rw [qL.2];decide
 have hE:((cu n).map fun e=>(e.1,e.2.map (lf x))).map (fun e=>(e.1,tx e.2))=(cu n).map fun e=>(e.1,tx (e.2.map (lf x))):=by rw [List.map_map];rfl
 refine ⟨n,x,t,(dC n 0).map (lf x),(kr n).map (RI.map (lf x)),nP n,(cu n).map fun e=>(e.1,e.2.map (lf x)),?_⟩
 refine { hn:=hn,len:=h5,cnt:=hcnt,hx:=(ie ks).symm,ht:=by rw [ig],xlen:=hx,asc:=?_,tlen:=?_,toks:=fun i hi=>?_,rest:=?_,nl:=?_,push:=rP hn hx hc,rsok:=rR hn x,fin:=hlp.1,ends:=hlp.2,told:=?_,cuts:=fun p hp=>?_,elen:=by rw [List.length_map];exact hel,book:=fun share=>?_,last:=fun share=>?_ }
 ·show x.toArray.all _=true
  rw [List.all_toArray,List.all_eq_true]
  intro c h;simpa using hc c h
 ·show (ks.flatMap vf++[46]).length≤900
  rw [List.length_append];simp only [List.length_cons,List.length_nil];lia
 ·have hi':i < ks.length:=by lia
  have e:=iR ks i (by lia)
  refine ⟨?_,?_⟩
  ·show (lexT (restT (ks.flatMap vf++[46]) i)).1=_
   rw [e,List.drop_eq_getElem_cons hi',List.flatMap_cons,List.append_assoc,(mz _).lex]
   show [cf ks[i]]=[(ks.map cf).getD i 0]
   rw [List.getD_eq_getElem?_getD,List.getElem?_map,List.getElem?_eq_getElem hi'];rfl
  ·show (restT (ks.flatMap vf++[46]) i).length≤900
   rw [e,List.length_append]
   have:=kz (ks.drop i)
   rw [List.length_drop] at this
   simp only [List.length_cons,List.length_nil];lia
 ·show restT (ks.flatMap vf++[46]) (n + 1)=[46]
  rw [iR ks (n + 1) (by lia),List.drop_eq_nil_of_le (by lia)];rfl
 ·rw [oy,show nls [46]=0 by decide +kernel];lia
 ·have er:(dueAll n x (ordersL (n + 1)).length).2=(bd n (List.range (n + 1)) (ordersL (n + 1))).map (oD (lf x)):=by
   rw [← oE hn x];unfold dueAll;rw [List.take_length,ge];rfl
  rw [er]
  let G:Nat×List Nat→D:=fun e=>.tup [.int (e.1:Int),.str (tx (e.2.map (lf x)))]
  have hp:(qOf n).toList.map (fun i=>(((bd n (List.range (n + 1)) (ordersL (n + 1))).getD i row0).cut,((bd n (List.range (n + 1)) (ordersL (n + 1))).getD i row0).text))=(cu n).map fun e=>(e.1.toNat,e.2):=by
   refine bQ hn (fun Z1=>?_) fun Z1=>?_ <;> subst Z1
   ·exact sX
   ·exact sY
  have:=congrArg (List.map G) hp
  rw [List.map_map,List.map_map] at this
  rw [List.map_map]
  refine Eq.trans ?_ (this.trans (List.map_congr_left fun e he=>?_))
  ·refine List.map_congr_left fun i Z=>?_
   rw [oF];rfl
  ·show D.tup [.int ((e.1.toNat:Nat):Int),_]=D.tup [.int e.1,_]
   rw [Int.toNat_of_nonneg (hcuts e he).1]
 ·refine mM hp fun e he Z1=>?_;subst Z1
  exact hcuts e he
 ·rw [hE]
  show BookEq (gB n share x) (gD n share x)
  rw [qO,qP];exact (hb share).1
 ·rw [hE]
  show ∀ p∈gB n share x,∃ f,getV (gD n share x) p.1=some f∧_
  rw [qO,qP];exact (hb share).2
section
open PySem.Spec
theorem mB:Ao 7 callerA:=⟨rfl,by decide,by decide⟩
theorem ju {X:List Addr} {h:Heap}:∀ {vs:List Value} {ns:List Int},IntsAre vs ns→RdL prog w h X (ns.map .int) vs
:=by
 intro vs ns h
 induction h with
 | nil=>exact RdL.nil
 | cons n t _ ih=>exact RdL.cons Rd.int_ ih
theorem oG {vs:List Value} {m:Nat} {ns:List Int} (top:TopOk s.heap) (hT:s.heap.get? TQ=some (tabObj #[])) (hl:s.heap.get? 178=some (bo vs m)) (hi:IntsAre vs ns) (hn:ns.length≤63) (hg:s.gens=#[]) :
  bM (model prog w) callerA (call (.ref 177) [.ref 178]) (fun v s'=>v=.bool true∧OldK s.heap s'.heap∧s'.os=s.os∧AllBare s'.gens) (fun Z Z=>False) s:=by
 revert top hT hl hi hn hg
 revert prog w s vs m ns;refine @(dr6 ?_);exists w6 _ _,prog,w,s,vs,m,ns
 intro top hT hl hi hn hg
 obtain ⟨n,x,t,r0,q0,n0,E,P⟩:=uu (sm:=dO (ns.take 60) (ns.take 60).length) ee
 have g:Gd [] s:=⟨top,fun a ha=>(by exact nM ha),fun a ha=>(by exact nM ha)⟩
 refine av (ou (k:=0) (X:=[]) (ns:=ns) mB rfl rfl g hT hn P (Rd.lst_ (fun h=>by exact nM h) hl (ju hi))) (fun v s' z=>?_) fun Z Z z=>z
 refine br z fun Z1 k Z2=>?_;clear z;subst Z1;refine ex11 Z2 fun tab hT'=>?_;clear Z2
 refine ⟨rfl,⟨fun b o e=>?_,fun b o e=>?_⟩,k.os,k.bare (by rw [hg];intro i hi';simp at hi')⟩
 ·by_cases hb:b=TQ
  ·subst hb
   rw [hT] at e;refine sE e fun e=>?_;subst e
   refine .inr (.inl ⟨?_,rfl,#[],tab,rfl,?_⟩)
   ·obtain ⟨o,vs,_,_,_,_,_,_,_,h1,h2,h3,h4,_⟩:=top.ch
    exact ⟨_,o,vs,h1,h2,h3,h4⟩
   ·rw [hT'];simp
  ·exact .inl (k.heap b o (fun h=>hb (ay h)) e)
 ·have:=k.live b (by rw [e];rfl)
  exact Option.isSome_iff_exists.mp this
theorem qp (args:List WData):PySem.Challenge.rw_zn0011_01.row.claim.post args (.bool true) args=true:=by
 show (WShape.has [] (WData.bool true) .bool && (WTm.eq .res (.lit (.bool true)):WTm).holds [] { args:=args,res:=some (.bool true),after:=args })=true
 simp [WShape.has,WTm.holds]
 constructor
 ·exact ⟨.bool,by simp [WShape.arms],rfl⟩
 ·simp only [WTm.value]
  simp [PySem.W.same]
end
section
open PySem.Spec PySem.W.X
noncomputable def qq (a:Addr):Bool:=Nat.blt a 178 && !Nat.beq a 107
theorem rV {mb:Str→Option Value} (h:∀ x:Str,x≠"__name__"→mb x=bootBuiltins x):∀ p∈bltTab,mb p.1=some p.2:=by
 intro p hp
 have e:bltTab.all (fun p=>bootBuiltins p.1 == some p.2 && p.1 != "__name__")=true:=by decide +kernel
 have:=List.all_eq_true.mp e p hp
 rw [Bool.and_eq_true,beq_iff_eq,bne_iff_ne] at this
 rw [h _ this.2];exact this.1
end
section
open PySem.Spec
noncomputable def jv (h:Heap) (a:Addr):Option (Value×Option Addr×FuncData×List (Option Value)):=match h.get? a with
 | some ⟨c,d,.func f,sl⟩=>some (c,d,{ f with doc:=.none,pyModule:=.none },sl.toList)
 | _=>none
noncomputable def jw (h:Heap) (a:Addr):Option Str:=match h.get? a with
 | some ⟨_,_,.fields vs,_⟩=>(match (vs[1]?:Option Value) with | some (.str q _)=>some q | _=>none)
 | _=>none
noncomputable def gm (p:Addr×Nat) (q:Str):Option (Value×Option Addr×FuncData×List (Option Value)) :=
 some (.type "function",none,fnOf (fnName p.2) q (fnParams p.2) (fnBody p.2) (fnScope p.2) .none .none .none .none none (.ref (p.1 - 1)) .none,[])
theorem oH {h:Heap} {p:Addr×Nat} {q:Str} (e:jv h p.1=gm p q):∃ doc pm,h.get? p.1=some ⟨.type "function",none,.func (fnOf (fnName p.2) q (fnParams p.2) (fnBody p.2) (fnScope p.2) .none .none doc pm none (.ref (p.1 - 1)) .none),#[]⟩:=by
 unfold jv gm at e
 split at e
 ·rename_i c d f sl ho
  rw [ho]
  have e:=Option.some.inj e
  have e1:c=.type "function":=congrArg (fun z=>z.1) e
  have e2:d=none:=congrArg (fun z=>z.2.1) e
  have e3:f=fnOf (fnName p.2) q (fnParams p.2) (fnBody p.2) (fnScope p.2) .none .none f.doc f.pyModule none (.ref (p.1 - 1)) .none :=
   congrArg (fun z:Value×Option Addr×FuncData×List (Option Value)=>({ z.2.2.1 with doc:=f.doc,pyModule:=f.pyModule }:FuncData)) e
  have e4:sl=#[]:=congrArg (fun z:Value×Option Addr×FuncData×List (Option Value)=>z.2.2.2.toArray) e
  rw [e1,e2,e4]
  exact ⟨f.doc,f.pyModule,congrArg (fun z=>some (⟨_,_,.func z,_⟩:Obj)) e3⟩
 ·exact nO e
theorem th {h:Heap} {a:Addr} {q:Str} (e:jw h a=some q):∃ oc vs t,h.get? a=some oc∧oc.data=.fields vs∧vs[1]?=some (.str q t):=by
 unfold jw at e
 split at e
 ·rename_i vs _ ho
  split at e
  ·rename_i t hv;refine sE e fun e=>?_;subst e;exact ⟨_,_,_,ho,rfl,hv⟩
  ·exact nO e
 ·exact nO e
noncomputable def knd:Value→Nat
 | .str ..=>1
 | .int ..=>2
 | .bool ..=>3
 | _=>0
noncomputable def oJ (h:Heap) (a:Addr):Option (Value×Option Value×Value×Nat×Nat×Nat×Nat):=match h.get? a with
 | some ⟨c,_,.fields vs,_⟩=>some (c,vs[11]?,vs.getD 11 .none,knd (vs.getD 18 .none),knd (vs.getD 7 .none),knd (vs.getD 9 .none),knd (vs.getD 10 .none))
 | _=>none
theorem qr {v:Value} (e:knd v=1):∃ a b,v=.str a b:=by cases v <;> first | exact ⟨_,_,rfl⟩ | (exact nN e rfl)
theorem lu {v:Value} (e:knd v=2):∃ a b,v=.int a b:=by cases v <;> first | exact ⟨_,_,rfl⟩ | (exact nN e rfl)
theorem oK {v:Value} (e:knd v=3):∃ a,v=.bool a:=by cases v <;> first | exact ⟨_,rfl⟩ | (exact nN e rfl)
theorem ti {h:Heap} {a P:Addr} (e:oJ h a=some (.type "code",some (.ref P),.ref P,1,2,3,2)) (n:a≠P):CodeHd h a P:=by
 revert e n
 revert h a P;refine @(dr3 ?_);exists w3 _ _,h,a,P
 intro e n
 unfold oJ at e
 split at e
 ·rename_i c _ vs _ ho
  simp only [Option.some.injEq,Prod.mk.injEq] at e
  obtain ⟨e1,e2,e3,e4,e5,e6,e7⟩:=e
  refine ex21 (qr e4) fun file tf f1=>?_
  refine ex21 (lu e5) fun fl tg f2=>?_
  refine ex11 (oK e6) fun b f3=>?_
  refine ex21 (lu e7) fun t tt f4=>?_
  exact ⟨_,vs,file,tf,fl,tg,b,t,tt,ho,e1,rfl,e2,e3,f1,f2,f3,f4,n⟩
 ·exact nO e
noncomputable def qQ (h:Heap) (a:Addr):Option (Value×Option Addr):=match h.get? a with
 | some ⟨c,d,.plain,_⟩=>some (c,d)
 | _=>none
noncomputable def ez (h:Heap):List Addr→Frag
 | []=>[]
 | a::l=>match qq a,h.get? a with
  | true,some o=>(a,o)::ez h l
  | _,_=>ez h l
theorem fq {h:Heap}:∀ {l:List Addr} {a:Addr} {o:Obj},(ez h l).lookup a=some o→h.get? a=some o∧qq a=true
 | [],_,_,e=>by exact nO e
 | b::l,a,o,e=>by
  unfold ez at e
  split at e
  ·rename_i o' hc ho
   rw [List.lookup_cons] at e
   cases q:a == b with
   | true=>rw [q] at e;refine sE e fun e=>?_;subst e;rw [beq_iff_eq.mp q];exact ⟨ho,hc⟩
   | false=>rw [q] at e;exact fq e
  ·exact fq e
theorem qs {a:Addr} (this:qq a=true):a < 178∧a≠TQ:=by
 unfold qq at this
 rw [Bool.and_eq_true,Nat.blt_eq,Bool.not_eq_true'] at this
 exact ⟨this.1,fun q=>by rw [q] at this;exact absurd this.2 (by decide)⟩
noncomputable def u9:List Addr:=List.range 178
noncomputable def oL (s:Shared) :=
 (defTab.map (fun p=>(jv s.heap p.1,jw s.heap (p.1 - 1))),methTab.map (fun p=>(jv s.heap p.1,jw s.heap (p.1 - 1))),
  globTab.map (fun p=>s.heap.nsMap mainGlobals p.1),bltTab.map (fun p=>s.heap.nsMap mainGlobals p.1),s.heap.nsMap mainGlobals "__builtins__",qQ s.heap 4,
  kOk (ez s.heap u9),s.heap.get? TQ,oJ s.heap 111,s.heap.objs.size)
noncomputable def oM (_:World) :=
 (defTab.map (fun p=>(gm p (fnName p.2),some (fnName p.2))),methTab.map (fun p=>(gm p (fnQual p.2),some (fnQual p.2))),
  globTab.map (fun p=>some p.2),bltTab.map (fun Z=>(none:Option Value)),some (Value.ref 4),some (Value.type "module",some builtinsNs),
  true,some (tabObj #[]),some (Value.type "code",some (Value.ref TQ),Value.ref TQ,1,2,3,2),178)
theorem lw {h:Heap} {p:Addr×Nat} {q:Str} (e:(jv h p.1,jw h (p.1 - 1))=(gm p q,some q)) (lo:p.1 < 178∧p.1≠TQ∧p.1 - 1≠TQ):FnAt h p.1 (fnName p.2) q (fnParams p.2) (fnBody p.2) (fnScope p.2):=by
 refine ai (Prod.mk.inj e) fun e1 e2=>?_
 refine ex21 (oH e1) fun doc pm h1=>?_
 refine ex33 (th e2) fun oc vs t h2 h3 h4=>?_
 exact ⟨lo.1,⟨doc,pm,_,oc,vs,t,h1,Nat.lt_of_le_of_lt (Nat.sub_le _ _) lo.1,lo.2.2,h2,h3,h4⟩,lo.2.1⟩
theorem kB {s:Shared} {w:World} {h:Heap} {mb:Str→Option Value} (y:oL s=oM w) (k:∀ b o,s.heap.get? b=some o→h.get? b=some o) (hg:h.Ns mainGlobals (s.heap.nsMap mainGlobals)) (hb:h.Ns builtinsNs mb)
  (hm:∀ x:Str,x≠"__name__"→mb x=bootBuiltins x) (nl:h.NoLimit):TopOk h∧h.get? TQ=some (tabObj #[])∧s.heap.nsMap mainGlobals (fnName 25)=some (.ref 177)∧s.heap.objs.size=178:=by
 revert y k hg hb hm nl
 revert s w h mb;refine @(dr4 ?_);exists w4 _ _,s,w,h,mb
 intro y k hg hb hm nl
 unfold oL oM at y
 simp only [Prod.mk.injEq] at y
 obtain ⟨y1,y2,y3,y4,y5,y6,y7,y8,y9,y10⟩:=y
 have glob:∀ p∈globTab,s.heap.nsMap mainGlobals p.1=some p.2:=List.map_inj_left.mp y3
 have lo1:∀ p∈defTab,p.1 < 178∧p.1≠TQ∧p.1 - 1≠TQ:=by decide
 have lo2:∀ p∈methTab,p.1 < 178∧p.1≠TQ∧p.1 - 1≠TQ:=by decide
 have mv:∀ {a n q p b sc},FnAt s.heap a n q p b sc→FnAt h a n q p b sc:=fun x=>x.mv fun a o Z Z e=>k a o e
 have d14:=(Prod.mk.inj (List.map_inj_left.mp y1 (112,14) (by decide))).1
 refine ⟨⟨⟨_,hg,glob,List.map_inj_left.mp y4⟩,⟨mb,hb,rV hm⟩,nl,fun p hp=>mv (lw (List.map_inj_left.mp y1 p hp) (lo1 p hp)),fun p hp=>mv (lw (List.map_inj_left.mp y2 p hp) (lo2 p hp)),
  ⟨_,fun a o e=>k _ _ (fq e).1,fun a o e=>qs (fq e).2,y7⟩,⟨_,hg,?_⟩,?_,?_⟩,k _ _ y8,glob (fnName 25,.ref 177) ?_,y10⟩
 ·unfold qQ at y6
  split at y6
  ·rename_i ho
   cases y6
   exact ⟨4,_,y5,by decide,by decide,by decide,by decide,k _ _ ho,rfl,rfl,rfl⟩
  ·exact nO y6
 ·refine ex21 (oH d14) fun doc pm e=>?_
  exact ⟨doc,pm,k _ _ e⟩
 ·exact (ti y9 (by decide)).keeps k
 ·unfold globTab
  exact List.mem_append_right _ (List.mem_map.mpr ⟨(177,25),by decide,rfl⟩)
end
section
open PySem.Spec
noncomputable abbrev tj (q:Program) (loose:List Str) (r:RowW):Prop :=
 ∀ (w:World) (s₀ s₁:Shared),Ground q loose r.records (fun Z Z=>True) w s₀ (s₀.heap.nsMap mainGlobals) (s₀.heap.nsMap builtinsNs) s₁.heap→oL s₀=oM w→∀ (a:Addr),s₀.heap.nsMap mainGlobals r.name=some (.ref a) →
  ∀ (args:List WData) (vals:List Value) (as:List Addr),Laid r.records w s₀ s₁ args vals as→r.claim.pre args=true→WData.layableAll args=true→ReadsAllW r.records (classAt s₀.heap) s₁.heap vals args as→WellAll w.params s₁.heap vals args→(∀ a∈as,(a == sysModules)=false) →
   bM (model r.prog w) callerA (PySem.call (.ref a) vals) (fun v s'=>GoodWG r.claim (classAt s₀.heap) (ExcName.means s₀.heap) args s₁ (.ok (.ret v)) s')
    (fun e s'=>GoodWG r.claim (classAt s₀.heap) (ExcName.means s₀.heap) args s₁ (.error e) s') s₁
noncomputable abbrev oN (n:Str) (vs:List Value):Sem Fin:=do match ← nsGet mainNs n with
 | some f=>do ret (← PySem.call f vs)
 | none=>unsupported "claim.caller:no-such-global"
theorem oO {M:Model} {n:Str} {vs:List Value} {s:Shared} {mg:Str→Option Value} {f:Value} {Q:Fin→Shared→Prop} {E:Value→Shared→Prop} (hg:s.heap.Ns mainGlobals mg) (hf:mg n=some f) (h:bM M callerA (PySem.call f vs) (fun v s'=>Q (.done (.ret v)) s') E s):bM M callerA (oN n vs) Q E s:=by
 refine an (wpAny_nsGet hg ?_)
 rw [hf]
 exact aw (av h (fun v s' x=>aI x) fun Z Z x=>x)
theorem mD {r:OpenRow} {q:Program} {loose:List Str} {d:DefRec} {kwd:List (Str×Expr)} {N:Nat}
  (left:LeftO r.prog q loose (fun s=>recOk r.records s) oL oM N)
  (hdef:defOf q r.name=some (d,kwd)) (hp:r.prog.theDef r.name=some (d.params,d.body,d.scope)) (hk:kwWritten? d.params.kwonlyargs d.params.kw_defaults=some kwd) (hwr:(!r.writes || r.records.isEmpty)=true)
  (k1:r.wellSaid=true) (ok:(chainsOk q && opensWell r.prog && (frees r.toRowW && r.within.isEmpty))=true) (hb:r.prog.bare) (hw:r.toRowW.promised)
  (call:tj q loose r.toRowW):r.Holds:=by
 revert left hdef hp hk hwr k1 ok hb hw call
 revert r q loose d kwd N;refine @(dr6 ?_);exists w6 _ _,r,q,loose,d,kwd,N
 intro left hdef hp hk hwr k1 ok hb hw call
 refine ai (Bool.and_eq_true_iff.mp ok) fun ok1 ok2=>?_
 refine ai (Bool.and_eq_true_iff.mp ok1) fun chn opn=>?_
 refine ai (Bool.and_eq_true_iff.mp ok2) fun fr wi=>?_
 refine mI (frees_parts fr) fun hsame hun hal hap hmk=>?_
 have wi0:r.toRowW.claim.within=[]:=List.isEmpty_iff.mp wi
 have idf:=ident_freeW hun hal hap
 have bh:=fun w=>left.behind (XP:=fun mg h=>True∧RecFacts r.records h) (fun s hs=>⟨trivial,recFacts_of hs⟩) chn w
 refine ⟨k1,hw,⟨hb,opn,by show r.makers.map _=[];rw [hmk];rfl⟩,hw.witness,fun w=>⟨(bh w).1,fun sm hsm=>?_⟩⟩
 obtain ⟨s₀,e1,e2,s,top,slp,e3,isns,G1,y⟩:=(bh w).2 sm hsm
 have G0:Ground q loose [] (fun Z Z=>True) w s (s.heap.nsMap mainGlobals) (s.heap.nsMap builtinsNs) s.heap:={ G1 with X:=G1.X.1 }
 have gr:Ground q loose r.records (fun Z Z=>True) w s _ _ s.heap:=G1.X.2.ground G0
 have g0:s.gens=#[]:=Array.eq_empty_of_size_eq_zero (beq_iff_eq.mp e3)
 refine ⟨s₀,e1,e2,s,top,fun n hn=>?_,G1.X.2.1,G1.X.2.2.1,fun args hpre hlay ord hord=>?_⟩
 ·have:n=r.name:=by split at hn <;> simp_all
  rw [this];exact pinned_of_view isns G0 hdef hp hk
 ·refine iS (layAllW_isSome (P:=w.params) (ord:=ord) gr.has args r.args s (pre_splitW hpre).1) fun Z1 laid=>?_;rcases Z1 with ⟨vs,s₁⟩
  have kp:=layAllW_keeps _ _ _ laid
  refine dS (layAllW_rest _ _ _ laid) fun ra rb rc rd=>?_
  refine ex13 (reads_layAllW hord _ _ _ laid hlay s₁.heap (fun Z Z e=>e)) fun as r1 r2 r3=>?_
  have L:Laid r.records w s s₁ args vs as:=⟨⟨ord,hord,laid⟩,r1,r2,r3,kp,ra.trans g0,rc⟩
  have grk:=gr.keeps (fun Z Z Z Z Z=>trivial) kp
  obtain ⟨a,o,pm,cd,doc,dV,kV,f1,f2,f3,f4,f5⟩:=grk.fn hdef
  have walk:=call w s s₁ grk y a f1 args vs as L hpre hlay L.reads L.well (L.low gr.low)
  have run:=sV (prog:=r.prog) (w:=w) (t:=oN r.name vs) (s:=s₁) (R:=fun rr s'=>(r.toRowW.claim.Ends s args vs s₁ rr s'∧s'.os=s.os)∧(r.writes=true→namesKept r.prog r.keeps s.heap s'.heap∧∀ x∈r.records,∀ a,classAt s.heap x.1=some a→recordClass s'.heap a x.1 (x.2.map (·.1))=true))
   (Shared.asleep_of_life rd slp) (oO grk.T.g f1 (av walk (fun v s' z=>?_) fun e s' z=>?_))
  ·refine ex45 run fun n rr s' s'' h1 h2 h3 Z1 h6=>?_;clear run;refine ai Z1 fun h4 h5=>?_;clear Z1
   refine mI (Shared.forget_eq h3) fun eh Z Z eo Z=>?_
   have h4':=h4.congr eh
   have life:s'.heap.life=s.heap.life:=(runN_life _ _ _ h2).trans rd
   rw [← eh] at h6
   rw [← eo] at h5
   refine ⟨vs,s₁,laid,n,_,s',h1,?_,fun Z i x hx=>(by rw [g0] at hx;simp at hx),h6,by rw [life],Shared.rest_eq h5⟩
   rcases h4' with ⟨v,rfl,d1,d2,d3,d4,d5⟩ | ⟨e,ob,cls,rfl,d1,d2,d3,d4,d5⟩
   ·exact .inl ⟨v,rfl,d1,d2,d3,fun b o y Z=>d4 b o y,d5⟩
   ·exact .inr ⟨e,ob,cls,rfl,d1,d2,d3,d4,fun b o y Z=>d5 b o y⟩
  ·have good:=z.laid (c:=r.toRowW.claim) hsame wi0 idf L
   exact ⟨_,rfl,⟨⟨good.1,good.2.1⟩,fun hq=>⟨namesKept_of top isns r.keeps kp z.2.1.old,noTable hwr hq⟩⟩,good.2.2⟩
  ·have good:=z.laid (c:=r.toRowW.claim) hsame wi0 idf L
   exact ⟨⟨⟨good.1,good.2.1⟩,fun hq=>⟨namesKept_of top isns r.keeps kp z.2.1.old,noTable hwr hq⟩⟩,good.2.2⟩
noncomputable abbrev uO:=PySem.Challenge.pw_zn0011_01
noncomputable def qN:Program:=view uO [25]
noncomputable def oP:List Str:=(globTab.map (·.1)).filter fun x=>x != "law"
theorem tl:LeftO uO qN oP (fun s=>recOk [] s) oL oM 2044:=by intro w;kernel_rfl
end
section
open PySem.Spec PySem.W.X
noncomputable def uv:Pos:=((recsOf qN).map (·.pos)).headD ⟨0,0,0,0⟩
set_option maxHeartbeats 8000000 in
theorem test:PySem.Challenge.rw_zn0011_01.Holds:=by
 refine holds_law (by kernel_rfl) fun said=>?_
 refine mD (q:=qN) (loose:=oP) (N:=2044) (d:=⟨fnName 25,fnParams 25,fnBody 25,fnScope 25,uv⟩) (kwd:=[]) tl (by kernel_rfl) (by kernel_rfl) (by kernel_rfl) (by rfl) (by first | assumption | decide +kernel) (by decide +kernel) ⟨rfl,rfl,rfl,rfl,rfl,by decide +kernel⟩ ?hw ?hc
 case hw=>w_witness2
 case hc =>
  intro w s₀ s₁ G y fa hmg args vals as L hpre hlay hrd hwl hlo
  refine dS (kB y L.keeps G.T.g G.T.b G.T.builtins G.T.nolimit) fun top tT h25 hsz0=>?_
  have hfa:fa=177:=by
   have h2:some (Value.ref fa)=some (Value.ref 177):=hmg.symm.trans h25
   cases h2;rfl
  subst hfa
  wrow_args hpre hlay hrd hwl hlo
  refine ai (script_at L) fun hat hsz=>?_
  rw [hsz0] at hat hsz
  subst hat
  rename_i ns _ _ _ _ _ _ _ vs _ _ hI _ hlen _ hL _ _
  have hsc:=script_obj L hL
  have hn:ns.length≤63:=by lia
  refine av (oG top tT hsc hI hn L.gens) (fun v s' z=>?_) fun Z Z z=>z.elim
  refine dS z fun Z1 z1 z2 z3=>?_;clear z;subst Z1
  refine ⟨.inl ⟨_,.bool true,[],rfl,fun cls=>by rfl,.bool _,qp _,fun Z=>⟨List.nodup_nil,fun a ha=>by exact nM ha⟩⟩,z1,z2,z3⟩
end
end Mine

theorem PySem.Challenge.cw_zn0011_01_holds : PySem.Challenge.rw_zn0011_01.Holds :=
 Mine.test
